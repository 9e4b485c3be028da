/- From a law to its row. -/
import Derived.Test.YtmneeannkgnbpaaDoorL1
import Derived.Test.YtmneeannkgnbpaaDoorL2
import Derived.Test.YtmneeannkgnbpaaDoorRow
import Derived.Test.YtmneeannkgnbpaaDoorP17
import Derived.Test.YtmneeannkgnbpaaDoorP01
set_option maxRecDepth 100000
namespace Go.Proofs.YtmneeannkgnbpaaDoor
open Go Bw Go.ChangeShapes Go.WideShapes Go.ChangeAt Go.RowKit Go.WideElems Gt
section
variable {H:Type} {so:TypeId×Value->H} {W:World} {b0:Nat} {v:Value} {d:DataW H} {ps:List MemPlace}
theorem Y5 {a:Addr} {u:Value} (h:W.cell? a=some u):∃b o,a=⟨b,o,none⟩:=by
 obtain⟨b,o,sp⟩:=a;have:sp=none:=World.cell?_spot h;exact⟨b,o,by rw[this]⟩
theorem Sb (b o j:Nat):(⟨b,o,none⟩:Addr).add j=⟨b,o+j,none⟩:=by
 by_cases h:j=0
 ·subst h;simp[Addr.add]
 simp[Addr.add,h]
theorem aiP:Tryd.prog.cellsOf 5=1:=by kernel_rfl
theorem Y6:Tryd.prog.cellsOf 34=2:=by kernel_rfl
theorem aiQ:Tryd.prog.cellsOf 31=1:=by kernel_rfl
theorem aiR {n:Int} (hw:(Lit.int .u8 n).wf =true):∃c:UInt8,n=(c.toNat:Int):=by
 simp only[Lit.wf,cG,decide_eq_true_eq] at hw;have h0:0<=n:=hw.1;have h1:n<=255:=hw.2;refine⟨UInt8.ofNat n.toNat,?_⟩;have:(UInt8.ofNat n.toNat).toNat =n.toNat:=by simp;omega
 rw[this];omega
theorem Y7 {a:Addr}:∀{n:Nat},(∀i,i<n->∃p:nz,∀(j:Nat) v,(oz p)[j]? =some v->W.cell? (a.add (i*2+j))=some v)->∃l:List nz,l.length=n/\∀(i:Nat) p,l[i]? =some p->∀(j:Nat) v,(oz p)[j]? =some v->W.cell? (a.add (i*2+j))=some v
 |0,_=>⟨[],rfl,fun i r h=>by simp at h⟩
 |n+1,each=>by
  obtain⟨Rs,h1,h2⟩:=Y7 (a:=a) (n:=n) (fun i hi=>each i (by omega));obtain⟨r,hr⟩:=each n (by omega);refine⟨Rs++[r],by simp[h1],fun i x hx j v hj=>?_⟩;by_cases hi:i<n
  ·rw[ak (by omega)] at hx;exact h2 i x hx j v hj
  rw[bO (by omega)] at hx
  have Ka:i=n:=by
   have:=(ae.1 hx).1;simp at this;omega
  subst Ka;rw[h1,gq] at hx;simp only[dC,bk] at hx;subst hx;exact hr j v hj
theorem aiS {nv:Nat} {sp:Nat->Bool} {held:Bool} {cs:List Value} {x:DataW H×List MemPlace} (hf:DataW.trod so Tryd.prog W 0 sp held nv 31 cs=some x):∃u l,cs=[u]/\uA W u l:=by
 rcases DataW.trod_slice bn hf with⟨g1,_⟩|⟨a,len,cap,aiT,rest,n,_,g1,_,_,hl,_,hlen,Sc,_,_⟩
 ·exact⟨_,[],g1,none,0,rfl,bI _,fun j p hj=>by simp at hj⟩
 have each:∀i,i<len->∃p:nz,∀(j:Nat) v,(oz p)[j]? =some v->W.cell? (a.add (i*2+j))=some v:=by
  intro i hi;have hb:=Sc i hi;rw[ao (by omega),Y6,Option.bind_eq_some_iff] at hb;obtain⟨Sd,Se,hy⟩:=hb;obtain⟨xs,m,_,_,nD,yy,Y8⟩:=DataW.trod_struct Tryd.underlying34 hy;rw[Y6] at nD
  obtain⟨y,z,rfl⟩:∃y z,Sd=[y,z]:=by
   match Sd,nD with
   |[y,z],_=>exact⟨y,z,rfl⟩
  have Dt:xs.length=2:=yy;have f0:=Y8 0 _ rfl;have f1:=Y8 1 _ rfl;rw[show(Field.type _)=5 from rfl,aiP,ao (by omega)] at f0;rw[show(Field.type _)=9 from rfl,aiI,ao (by omega)] at f1;obtain⟨k,hk,_,hwf⟩:=DataW.trod_int bT f0;obtain⟨s,hs,_,_⟩:=DataW.trod_string aa f1;have s7:y=.int .u8 k:=by simpa using hk
  have sT:z=.string s:=by simpa using hs
  obtain⟨c,rfl⟩:=aiR hwf;refine⟨⟨c,s.data.toList⟩,fun j v hj=>?_⟩;have sn:j<2:=(ae.1 hj).1;have vI:=(World.cells?_some Se).2.2 j sn;have e:([y,z]:List Value)=oz ⟨c,s.data.toList⟩:=by rw[s7,sT,Sr];rfl
  rw[e,hj] at vI;rw[<-vI,Addr.add_add]
 obtain⟨l,g3,g4⟩:=Y7 (a:=a) each;refine⟨_,l,g1,some a,cap,by rw[g3],by rw[g3];exact hl,fun i p hp=>?_⟩;obtain⟨p0,oT⟩:∃p0,l[0]? =some p0:=⟨_,ao (by have:=(ae.1 hp).1;omega)⟩;obtain⟨b,o,rfl⟩:=Y5 (show W.cell? a=_ by simpa[Addr.add] using g4 0 p0 oT 0 _ rfl);refine⟨b,o,rfl,?_,?_⟩
 ·have:=g4 i p hp 0 _ rfl;rw[Sb] at this;simpa using this
 have:=g4 i p hp 1 _ rfl;rw[Sb,<-eL] at this;exact this
theorem Y9 {a:Addr}:∀{n:Nat},(∀i,i<n->∃(u:Value) (l:List nz),W.cell? (a.add i)=some u/\uA W u l)->∃rs:List (List nz),rs.length=n/\∀(i:Nat) l,rs[i]? =some l->∃u,W.cell? (a.add i)=some u/\uA W u l
 |0,_=>⟨[],rfl,fun i r h=>by simp at h⟩
 |n+1,each=>by
  obtain⟨Rs,h1,h2⟩:=Y9 (a:=a) (n:=n) (fun i hi=>each i (by omega));obtain⟨u,l,hr⟩:=each n (by omega);refine⟨Rs++[l],by simp[h1],fun i x hx=>?_⟩;by_cases hi:i<n
  ·rw[ak (by omega)] at hx;exact h2 i x hx
  rw[bO (by omega)] at hx
  have Ka:i=n:=by
   have:=(ae.1 hx).1;simp at this;omega
  subst Ka;rw[h1,gq] at hx;simp only[dC,bk] at hx;subst hx;exact⟨u,hr⟩
theorem aiV (DO:Value.okWide Tryd.prog W .any b0 22 v) (hd:DataW.Trod so Tryd.prog W 0 (fun _=>true) true 22 v d ps):∃rs,zT W v rs:=by
 obtain⟨a0,Sf,Sg,rfl⟩:=okWide_slice bz DO;obtain⟨nv,hf⟩:=hd;have aiW:(Value.slice a0 Sf Sg).cells.toList =[.slice a0 Sf Sg]:=rfl;rw[aiW] at hf;rcases DataW.trod_slice bz hf with⟨g1,_⟩|⟨a,len,cap,aiT,rest,n,_,g1,_,_,hl,_,hlen,Sc,_,_⟩
 ·cases g1;exact⟨[],none,0,rfl,bI _,fun j x hx=>by simp at hx⟩
 cases g1
 have each:∀i,i<Sf->∃(u:Value) (l:List nz),W.cell? (a.add i)=some u/\uA W u l:=by
  intro i hi;have hb:=Sc i hi;rw[ao (by omega),aiQ,Option.bind_eq_some_iff] at hb;obtain⟨Sd,Se,hy⟩:=hb;obtain⟨u,l,rfl,h2⟩:=aiS hy;have vI:=(World.cells?_some Se).2.2 0 (by omega);rw[aT,Addr.add_add,Nat.add_zero] at vI;exact⟨u,l,vI,h2⟩
 obtain⟨rs,g3,g4⟩:=Y9 (a:=a) each;refine⟨rs,some a,Sg,by rw[g3],by rw[g3];exact hl,fun i r hr=>?_⟩;have yS:∃r0,rs[0]? =some r0:=⟨_,ao (by have:=(ae.1 hr).1;omega)⟩;obtain⟨r0,vS⟩:=yS;obtain⟨u0,QI,_⟩:=g4 0 r0 vS;obtain⟨b,o,rfl⟩:=Y5 (show W.cell? a=_ by simpa[Addr.add] using QI);obtain⟨u,hu,hp⟩:=g4 i r hr;rw[Sb] at hu;exact⟨b,o,u,rfl,hu,hp⟩
end
end Go.Proofs.YtmneeannkgnbpaaDoor
