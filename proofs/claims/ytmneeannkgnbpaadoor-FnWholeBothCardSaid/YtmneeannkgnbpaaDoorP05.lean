/- Lemmas of the walk and plain facts (GsP2 .. GsP2). -/
import Derived.Test.YtmneeannkgnbpaaDoorL1

namespace Gs
def mK:List UInt8->List UInt8->Nat
 |a::as,b::bs=>if a=b then mK as bs+1 else 0
 |_,_=>0
theorem HY (a):mK a []=0:=by cases a<;>simp[mK]
theorem zu:∀a b:List UInt8,mK a b<=a.length/\mK a b<=b.length
 |[],b=>by simp[mK]
 |a::as,[]=>by simp[mK]
 |a::as,b::bs=>by
  have:=zu as bs;unfold mK;split<;>simp<;>omega
theorem Ns:∀a b:List UInt8,a.take (mK a b)=b.take (mK a b)
 |[],b=>by simp[mK]
 |a::as,[]=>by simp[mK]
 |a::as,b::bs=>by
  have:=Ns as bs;unfold mK;by_cases h:a=b
  ·subst h;simp[this]
  rw[if_neg h];simp
theorem S5:∀a b:List UInt8,mK a b=a.length\/mK a b=b.length\/∃x y,a[mK a b]? =some x/\b[mK a b]? =some y/\x≠y
 |[],b=>by simp[mK]
 |a::as,[]=>by simp[mK]
 |a::as,b::bs=>by
  have:=S5 as bs;unfold mK;by_cases h:a=b
  ·rw[if_pos h];rcases this with h1|h1|⟨x,y,h1,h2,h3⟩
   ·exact .inl (by simp[h1])
   ·exact .inr (.inl (by simp[h1]))
   exact .inr (.inr ⟨x,y,by simpa using h1,by simpa using h2,h3⟩)
  rw[if_neg h];exact .inr (.inr ⟨a,b,rfl,rfl,h⟩)
theorem Nt:∀f a b,mK (f++a) (f++b)=f.length+mK a b
 |[],a,b=>by simp
 |c::f,a,b=>by
  have:=Nt f a b;simp only[aW,aI,mK,if_true,this];omega
theorem ZB {a b:List UInt8} {i:Nat} {x y:UInt8} (h:i<=mK a b) (hx:a[i]? =some x) (hy:b[i]? =some y):(x=y->i+1<=mK a b)/\(x≠y->i=mK a b):=by
 have ht:=Ns a b;have hs:=S5 a b;have la:=(ae.1 hx).1;have lb:=(ae.1 hy).1;constructor
 ·intro e;refine Nat.lt_of_le_of_ne h fun hi=>?_
  rcases hs with h1|h1|⟨u,v,h1,h2,h3⟩
  ·omega
  ·omega
  rw[<-hi,hx] at h1;rw[<-hi,hy] at h2;cases h1;cases h2;exact h3 e
 intro mW;refine Nat.le_antisymm h (Nat.le_of_not_lt fun mS=>mW ?_);have h1:(a.take (mK a b))[i]? =some x:=by rw[bP mS];exact hx
 have h2:(b.take (mK a b))[i]? =some y:=by rw[bP mS];exact hy
 rw[ht,h2] at h1;exact(bp h1).symm
theorem ZC {a b:List UInt8} {i:Nat} (h:i<=mK a b) (hm:min a.length b.length<=i):i=mK a b:=by
 have:=zu a b;omega
def ny (c:UInt8) (l:List UInt8):Nat:=l.count c
theorem ZD {c d:UInt8} {l:List UInt8} {i:Nat} (h:l[i]? =some d):(l.take (i+1)).count c=(l.take i).count c+(if d=c then 1 else 0):=by
 rw[eZ,h];simp only[Option.toList_some,fc,List.count_singleton];by_cases e:d=c<;>simp[e]
end Gs
