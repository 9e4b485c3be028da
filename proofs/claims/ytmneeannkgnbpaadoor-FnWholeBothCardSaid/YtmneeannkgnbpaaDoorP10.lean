/- Lemmas of the walk and plain facts (GtP3 .. GtP6). -/
import Derived.Test.YtmneeannkgnbpaaDoorL1
import Derived.Test.YtmneeannkgnbpaaDoorP07
import Derived.Test.YtmneeannkgnbpaaDoorP06
namespace Gt
open Gs Tr
abbrev F:=List Tok->Option (Nat×List UInt8)
def pM (f:F) (s:List Tok) (v:Nat×List UInt8):F:=fun x=>if x=s then some v else f x
def one (s:List Tok) (v:Nat×List UInt8):F:=fun x=>if x=s then some v else none
def at_ (f:F) (p:List UInt8) (c:UInt8):F:=fun s=>if s.head? =some (.b c) then f (bs p++s) else none
def Min (h:Option Nat) (mm:Bool) (idx:List UInt8) (kids:List T0):Prop:=h.isSome=true\/mm=true\/2<=idx.length\/∃k,idx=[47]/\kids=[k]/\k.nt=3
inductive oG:Bool->T0->F->Prop
 |st {b:Bool} {path idx:List UInt8} {mm:Bool} {nt pr:Nat} {h:Option Nat} {full:List UInt8} {kids:List T0} {f:F} (wn:List UInt8) (wk:T0) (hp:∀c∈path,tD c) (oy:nt=0\/nt=1)
   (nG:∀s v,f s=some v->∃r,s=bs path++r) (hh:f (bs path)=h.map fun k=>(k,full)) (nj:idx.Nodup) (mM:∀c∈idx,tD c) (hlen:kids.length=idx.length+mm.toNat)
   (hk:∀(j:Nat) c k,idx[j]? =some c->kids[j]? =some k->oG true k (at_ f path c))
   (oX:∀(j:Nat) k,j<idx.length->kids[j]? =some k->k.nt=0\/k.nt=3)
   (mW:∀c∈idx,∃s v,f (bs path++.b c::s)=some v)
   (nN:∀c,c∉idx->∀s,f (bs path++.b c::s)=none)
   (hw:mm=true->kids[idx.length]? =some wk/\word wn/\wk.nt=2/\wk.path=58::wn/\(∃s v,f (bs path++.P wn::s)=some v)/\∀m,m≠wn->∀s,f (bs path++.P m::s)=none)
   (wu:mm=true->oG true wk (fun s=>f (bs path++.P wn::s)))
   (qw:mm=false->∀m s,f (bs path++.P m::s)=none)
   (hA:∀m s,f (bs path++.A m::s)=none) (q5:b=true->Min h mm idx kids):oG b (.node () path idx mm nt pr h full kids) f
 |pa {b:Bool} {n:List UInt8} {pr:Nat} {h:Option Nat} {full:List UInt8} {f:F} (hh:f []=h.map fun k=>(k,full)) (nN:∀s,s≠[]->f s=none):oG b (.node () (58::n) [] false 2 pr h full []) f
 |pk {b:Bool} {n idx:List UInt8} {pr:Nat} {h:Option Nat} {full:List UInt8} {k:T0} {f:F} (hh:f []=h.map fun k=>(k,full)) (vM:idx=[]\/idx=[47]) (hk:oG true k (fun s=>if s=[] then none else f s)) (oX:k.nt=0)
   (ot:∀s v,f s=some v->s=[]\/∃r,s=.b 47::r) (mW:∃s v,s≠[]/\f s=some v):oG b (.node () (58::n) idx false 2 pr h full [k]) f
 /-- a catch-all: two nodes -/
 |ca {b:Bool} {pr vT num:Nat} {full wQ n:List UInt8} (hn:word n):oG b (.node () [] [] true 3 pr none full [.node () (47::42::n) [] false 3 vT (some num) wQ []]) (one [.b 47,.A n] (num,wQ))
theorem yU (p:List UInt8) (x:Tok) (s:List Tok):bs p++x::s≠bs p:=fun h=>by
 have:=congrArg List.length h;simp at this
theorem x9 (s v):one s v s=some v:=if_pos rfl
theorem wR {s x:List Tok} (h:x≠s) (v):one s v x=none:=if_neg h
theorem at_one {p:List UInt8} {c:UInt8} {s:List Tok} (v):at_ (one (bs p++.b c::s) v) p c=one (.b c::s) v:=by
 funext x;unfold at_ one;by_cases h:x=.b c::s
 ·subst h;simp
 rw[if_neg h];split
 ·rw[if_neg fun e=>h (aR e)]
 rfl
theorem aaJ {b:Bool} {pre:List UInt8} {nt pr h:Nat} {full:List UInt8} (hp:∀c∈pre,tD c) (oy:nt=0\/nt=1):oG b (.node () pre [] false nt pr (some h) full []) (one (bs pre) (h,full)):=by
 refine .st [] new hp oy (fun s v hs=>?_) (x9 _ _) List.nodup_nil (by simp) rfl (by simp) (by simp) (by simp) (fun c _ s=>wR (yU _ _ _) _) (fun h=>by cases h) (fun h=>by cases h) (fun _ m s=>wR (yU _ _ _) _) (fun m s=>wR (yU _ _ _) _) (fun _=>.inl rfl);unfold one at hs;split at hs
 ·rename_i e;exact⟨[],by rw[e,aS]⟩
 cases hs
theorem TY {b:Bool} {pre n:List UInt8} {nt pr:Nat} {f0:List UInt8} {k:T0} {q:List Tok} {v:Nat×List UInt8} (hp:∀c∈pre,tD c) (oy:nt=0\/nt=1) (hn:word n) (hk:oG true k (one q v)) (ow:k.nt=2) (tB:k.path=58::n):
  oG b (.node () pre [] true nt pr none f0 [k]) (one (bs pre++.P n::q) v):=by
 have e:(fun s=>one (bs pre++.P n::q) v (bs pre++.P n::s))=one q v:=by
  funext s;unfold one;by_cases h:s=q
  ·subst h;simp
  rw[if_neg h,if_neg fun e=>h (by have:=aR e;simpa using this)]
 refine .st n k hp oy (fun s u hs=>?_) (wR (fun h=>yU _ _ _ h.symm) _) List.nodup_nil (by simp) rfl (by simp) (by simp) (by simp) (fun c _ s=>wR (fun h=>?_) _) (fun _=>⟨rfl,hn,ow,tB,⟨q,v,x9 _ _⟩,fun m hm s=>wR (fun h=>?_) _⟩) (fun _=>by rw[e];exact hk) (fun h=>by cases h) (fun m s=>wR (fun h=>?_) _) (fun _=>.inr (.inl rfl))
 ·unfold one at hs;split at hs
  ·rename_i e;exact⟨_,e⟩
  cases hs
 ·have:=aR h;simp at this
 ·have:=aR h;simp at this;exact hm this.1
 have:=aR h;simp at this
theorem aaK {b:Bool} {pre n:List UInt8} {nt pr h:Nat} {f0 full:List UInt8} (hp:∀c∈pre,tD c) (oy:nt=0\/nt=1) (hn:word n):
  oG b (.node () pre [47] false nt pr none f0 [.node () [] [] true 3 1 none full [.node () (47::42::n) [] false 3 1 (some h) full []]]) (one (bs pre++[.b 47,.A n]) (h,full)):=by
 refine .st [] new hp oy (fun s u hs=>?_) (wR (fun h=>yU _ _ _ h.symm) _) (by simp) (by simp[tD]) rfl (fun j c k hj hk=>?_) (fun j k hj hk=>?_) (fun c hc=>⟨[.A n],(h,full),?_⟩) (fun c hc s=>wR (fun e=>?_) _) (fun h=>by cases h) (fun h=>by cases h) (fun _ m s=>wR (fun e=>?_) _) (fun m s=>wR (fun e=>?_) _) (fun _=>.inr (.inr (.inr ⟨_,rfl,rfl,rfl⟩)))
 ·unfold one at hs;split at hs
  ·rename_i e;exact⟨_,e⟩
  cases hs
 ·match j,hj,hk with
  |0,hj,hk=>
   cases hj;cases hk;rw[at_one]
   exact .ca hn
  |j+1,hj,_=>simp at hj
 ·match j,hj,hk with
  |0,_,hk=>cases hk;exact .inr rfl
  |j+1,hj,_=>simp at hj
 ·rw[aj.1 hc];exact x9 _ _
 ·have:=aR e;simp at this;exact hc (by simp[this.1])
 ·have:=aR e;simp at this
 have:=aR e;simp at this
theorem TZ {b:Bool} {n:List UInt8} {pr h:Nat} {full:List UInt8}:oG b (.node () (58::n) [] false 2 pr (some h) full []) (one [] (h,full)):=
 .pa (x9 _ _) fun _ hs=>wR hs _
theorem T4 {b:Bool} {n idx:List UInt8} {pr:Nat} {full:List UInt8} {k:T0} {r:List Tok} {v:Nat×List UInt8} (vM:idx=[]\/idx=[47]) (hk:oG true k (one (.b 47::r) v)) (oX:k.nt=0):oG b (.node () (58::n) idx false 2 pr none full [k]) (one (.b 47::r) v):=by
 have e:(fun s=>if s=[] then none else one (.b 47::r) v s)=one (.b 47::r) v:=by
  funext s;by_cases h:s=[]
  ·subst h;rw[if_pos rfl,wR (by simp)]
  rw[if_neg h]
 refine .pk (wR (by simp) _) vM (by rw[e];exact hk) oX (fun s u hs=>?_) ⟨_,v,by simp,x9 _ _⟩;unfold one at hs;split at hs
 ·rename_i e;exact .inr ⟨r,e⟩
 cases hs
theorem Iq:∀(g:Nat) (sl:Bool) (s:List Tok) (nt pr h:Nat) (f0 full:List UInt8),(lg s).length <g->Ok sl s->(∃c r,s=.b c::r)->(nt=0\/nt=1)->
  ∃t',sF g (.node () [] [] false nt pr none f0 []) (lg s) full h=some (some t')/\oG true t' (one s (h,full))/\t'.nt=nt/\t'.pr=pr
 |0,_,_,_,_,_,_,_,hg,_,_,_=>absurd hg (Nat.not_lt_zero _)
 |g+1,sl,s,nt,pr,h,f0,full,hg,nk,hb,oy=>by
  obtain⟨pre,r,rfl,hp,hr,Ay⟩:=NK sl s nk
  have nG:pre≠[]:=by
   rintro rfl;obtain⟨c,q,e⟩:=hb;rcases Ay with rfl|⟨n,q2,rfl⟩|⟨n,rfl⟩<;>simp[bs] at e
  have mM:0<pre.length:=aU.2 nG;rw[if_neg nG] at hr;rw[CI,Fx] at hg⊢;rcases Ay with rfl|⟨n,q,rfl⟩|⟨n,rfl⟩
  ·have hf:=NG pre 0 hp;simp only[lg,aS] at*;unfold sF;rw[hf];exact⟨_,rfl,aaJ hp oy,rfl,rfl⟩
  ·obtain⟨h1,hn,hq,tS⟩:=hr;have oD:0<n.length:=aU.2 hn.1;have hf:=NI (t:=lg q) hp hn (KJ hq);simp only[lg] at hg⊢;unfold sF;rw[hf];have hl:¬(58::n).length <2:=by simp;omega
   simp only[hl,if_false,cw,if_true,mM,List.take_left,eE];have hd:(58::(n++lg q)).drop (58::n).length =lg q:=by simp
   rw[hd];rcases hq with rfl|⟨q',rfl⟩
   ·have:¬(58::n).length <(58::(n++lg [])).length :=by simp[lg]
    rw[if_neg this];exact⟨_,rfl,TY hp oy hn TZ rfl rfl,rfl,rfl⟩
   have:(58::n).length <(58::(n++lg (.b 47::q'))).length :=by simp[lg]
   rw[if_pos this];obtain⟨t',h3,h4,h5,h6⟩:=Iq g false (.b 47::q') 0 1 h full full (by simp at hg;omega) tS ⟨47,q',rfl⟩ (.inl rfl);rw[h3];refine⟨_,rfl,TY hp oy hn (T4 (.inl rfl) h4 h5) rfl rfl,rfl,rfl⟩
  obtain⟨h1,hn,_⟩:=hr;have oD:0<n.length:=aU.2 hn.1
  obtain⟨xA,rfl⟩:∃xA,pre=xA++[47]:=by
   rcases cV pre with e|⟨l,c,e⟩
   ·exact absurd e nG
   rw[cW] at e;subst e;simp at h1;subst h1;exact⟨l,rfl⟩
  have e1:lg [.A n]=42::n:=by simp[lg]
  rw[e1] at hg⊢;have hf:=NJ hp hn;have hl:¬(42::n).length <2:=by simp;omega
  have hh:¬((some 42:Option UInt8)=some 58):=by decide
  have hlen:¬((xA++[47]).length +(42::n).length ≠(xA++[47]++42::n).length):=by simp;omega
  have hi:¬((xA++[47]).length =0\/(xA++[47]++42::n)[(xA++[47]).length -1]? ≠some 47):=by simp
  unfold sF;simp only[hf,hl,if_false,cw,hh,hlen];rw[if_neg (by simp:¬(([]:List UInt8).getLast? =some 47)),if_neg hi];have ht:(xA++[47]++42::n).take ((xA++[47]).length -1)=xA:=by simp
  have hd:(xA++[47]++42::n).drop ((xA++[47]).length -1)=47::42::n:=by simp
  rw[ht,hd];have e2:bs (xA++[47])++[.A n]=bs xA++[.b 47,.A n]:=by rw[CJ];simp[bs]
  rw[e2];exact⟨_,rfl,aaK (fun c hc=>hp c (ay _ hc)) oy hn,rfl,rfl⟩
structure St (b:Bool) (path idx:List UInt8) (mm:Bool) (nt:Nat) (h:Option Nat) (full:List UInt8) (kids:List T0) (f:F):Prop where
 hp:∀c∈path,tD c
 oy:nt=0\/nt=1
 nG:∀s v,f s=some v->∃r,s=bs path++r
 hh:f (bs path)=h.map fun k=>(k,full)
 nj:idx.Nodup
 mM:∀c∈idx,tD c
 hlen:kids.length=idx.length+mm.toNat
 hk:∀(j:Nat) c k,idx[j]? =some c->kids[j]? =some k->oG true k (at_ f path c)
 oX:∀(j:Nat) k,j<idx.length->kids[j]? =some k->k.nt=0\/k.nt=3
 mW:∀c∈idx,∃s v,f (bs path++.b c::s)=some v
 nN:∀c,c∉idx->∀s,f (bs path++.b c::s)=none
 hw:mm=true->∃wn wk,kids[idx.length]? =some wk/\word wn/\wk.nt=2/\wk.path=58::wn/\(∃s v,f (bs path++.P wn::s)=some v)/\(∀m,m≠wn->∀s,f (bs path++.P m::s)=none)/\oG true wk (fun s=>f (bs path++.P wn::s))
 qw:mm=false->∀m s,f (bs path++.P m::s)=none
 hA:∀m s,f (bs path++.A m::s)=none
 q5:b=true->Min h mm idx kids
theorem St.ur {b path idx mm nt h full kids f} {pr:Nat} (x:St b path idx mm nt h full kids f):oG b (.node () path idx mm nt pr h full kids) f:=by
 cases rl:mm with
 |false=>subst rl;exact .st [] new x.hp x.oy x.nG x.hh x.nj x.mM x.hlen x.hk x.oX x.mW x.nN (fun h=>by cases h) (fun h=>by cases h) x.qw x.hA x.q5
 |true=>
  subst rl;obtain⟨wn,wk,h1,h2,h3,h4,h5,h6,h7⟩:=x.hw rfl;exact .st wn wk x.hp x.oy x.nG x.hh x.nj x.mM x.hlen x.hk x.oX x.mW x.nN (fun _=>⟨h1,h2,h3,h4,h5,h6⟩) (fun _=>h7) x.qw x.hA x.q5
theorem oG.Ir {b path idx mm nt pr h full kids f} (x:oG b (.node () path idx mm nt pr h full kids) f) (hn:nt=0\/nt=1):St b path idx mm nt h full kids f:=by
 cases x with
 |st wn wk hp oy nG hh nj mM hlen hk oX mW nN hw wu qw hA q5=>
  exact⟨hp,oy,nG,hh,nj,mM,hlen,hk,oX,mW,nN,fun e=>⟨wn,wk,(hw e).1,(hw e).2.1,(hw e).2.2.1,(hw e).2.2.2.1,(hw e).2.2.2.2.1,(hw e).2.2.2.2.2,wu e⟩,qw,hA,q5⟩
 |pa=>omega
 |pk=>omega
 |ca=>omega
theorem oG.nL {b t f} (x:oG b t f):oG b t.nL f:=by
 cases x with
 |st wn wk hp oy nG hh nj mM hlen hk oX mW nN hw wu qw hA q5=>exact .st wn wk hp oy nG hh nj mM hlen hk oX mW nN hw wu qw hA q5
 |pa hh nN=>exact .pa hh nN
 |pk hh vM hk oX ot mW=>exact .pk hh vM hk oX ot mW
 |ca hn=>exact .ca hn
theorem wS (t:T0):t.nL.nt=t.nt:=by cases t;rfl
theorem CW (t:T0):t.nL.path=t.path:=by cases t;rfl
theorem NW (t:T0):t.nL.kids=t.kids:=by cases t;rfl
theorem zE (f:F) (s v):pM f s v s=some v:=if_pos rfl
theorem qq (f:F) {s x:List Tok} (h:x≠s) (v):pM f s v x=f x:=if_neg h
theorem ya {f:F} {s x:List Tok} {v u} (h:pM f s v x=some u):x=s\/f x=some u:=by
 unfold pM at h;split at h
 ·exact .inl ‹_›
 exact .inr h
theorem T5 {f:F} {p:List UInt8} {c:UInt8} {s:List Tok} (v):at_ (pM f (bs p++.b c::s) v) p c=pM (at_ f p c) (.b c::s) v:=by
 funext x;unfold at_ pM;by_cases h:x=.b c::s
 ·subst h;simp
 rw[if_neg h];show _=if x.head? =some (.b c) then f (bs p++x) else none
 split
 ·rw[if_neg fun e=>h (aR e)]
 rfl
theorem Is {f:F} {p:List UInt8} {c:UInt8} {y:List Tok} (v) (h:∀r,y≠bs p++.b c::r):at_ (pM f y v) p c=at_ f p c:=by
 funext x;unfold at_ pM;split
 ·rename_i hx
  cases x with
  |nil=>simp at hx
  |cons a r=>
   simp at hx;subst hx;rw[if_neg fun e=>h r e.symm]
 rfl
theorem KT {p:List UInt8} {a c:List Tok} (h:bs p++a=bs p++c):a=c:=aR h
theorem D8 (p:List UInt8) {x:Tok} {s:List Tok}:bs p≠bs p++x::s:=fun h=>yU _ _ _ h.symm
theorem T6 {f:F} {p:List UInt8} {wn:List UInt8} {q:List Tok} (v):(fun s=>pM f (bs p++.P wn::q) v (bs p++.P wn::s))=pM (fun s=>f (bs p++.P wn::s)) q v:=by
 funext s;unfold pM;by_cases h:s=q
 ·subst h;simp
 rw[if_neg h,if_neg fun e=>h (by have:=KT e;simpa using this)]
theorem NX {f:F} {p:List UInt8} {wn:List UInt8} {y:List Tok} (v) (h:∀r,y≠bs p++.P wn::r):(fun s=>pM f y v (bs p++.P wn::s))=fun s=>f (bs p++.P wn::s):=by
 funext s;exact qq f (fun e=>h s e.symm) v
section
variable {b:Bool} {path idx:List UInt8} {mm:Bool} {nt:Nat} {h:Option Nat} {full:List UInt8} {kids:List T0} {f:F}
theorem St.aaL (x:St b path idx mm nt h full kids f) (hn:Nat) (D9:List UInt8):St true path idx mm nt (some hn) D9 kids (pM f (bs path) (hn,D9)) where
 hp:=x.hp
 oy:=x.oy
 nG s v hs:=by
  rcases ya hs with rfl|hs
  ·exact⟨[],by simp⟩
  exact x.nG s v hs
 hh:=zE _ _ _
 nj:=x.nj
 mM:=x.mM
 hlen:=x.hlen
 hk j c k hj nZ:=by rw[Is _ fun r=>D8 _];exact x.hk j c k hj nZ
 oX:=x.oX
 mW c hc:=by
  obtain⟨s,v,hs⟩:=x.mW c hc;exact⟨s,v,by rw[qq _ (yU _ _ _)];exact hs⟩
 nN c hc s:=by rw[qq _ (yU _ _ _)];exact x.nN c hc s
 hw e:=by
  obtain⟨wn,wk,h1,h2,h3,h4,⟨s,v,h5⟩,h6,h7⟩:=x.hw e;refine⟨wn,wk,h1,h2,h3,h4,⟨s,v,by rw[qq _ (yU _ _ _)];exact h5⟩,fun m hm s=>by rw[qq _ (yU _ _ _)];exact h6 m hm s,?_⟩;rw[NX _ fun r=>D8 _];exact h7
 qw e m s:=by rw[qq _ (yU _ _ _)];exact x.qw e m s
 hA m s:=by rw[qq _ (yU _ _ _)];exact x.hA m s
 q5 _:=.inl rfl
theorem T7 {α:Type}:∀{l:List α} {i j:Nat} {a:α},l.Nodup->l[i]? =some a->l[j]? =some a->i=j
 |[],i,j,a,_,h,_=>by simp at h
 |x::l,0,0,a,_,_,_=>rfl
 |x::l,0,j+1,a,hn,h1,h2=>by
  simp at h1 h2;subst h1
  exact absurd (ap h2) (bf.1 hn).1
 |x::l,i+1,0,a,hn,h1,h2=>by
  simp at h1 h2;subst h2
  exact absurd (ap h1) (bf.1 hn).1
 |x::l,i+1,j+1,a,hn,h1,h2=>by
  have:=T7 (i:=i) (j:=j) (a:=a) (bf.1 hn).2 (by simpa using h1) (by simpa using h2);omega
theorem sS {p:List UInt8} {x y:Tok} {s r:List Tok} (h:x≠y):bs p++x::s≠bs p++y::r:=fun e=>by
 have:=KT e;simp at this;exact h this.1
theorem St.aaM (x:St b path idx mm nt h full kids f) {j:Nat} {c:UInt8} {k k':T0} {q:List Tok} {v:Nat×List UInt8} (hj:idx[j]? =some c) (nZ:kids[j]? =some k) (s7:oG true k' (pM (at_ f path c) (.b c::q) v)) (hn:k'.nt=k.nt):St b path idx mm nt h full (kids.set j k') (pM f (bs path++.b c::q) v) where
 hp:=x.hp
 oy:=x.oy
 nG s v hs:=by
  rcases ya hs with rfl|hs
  ·exact⟨_,rfl⟩
  exact x.nG s v hs
 hh:=by rw[qq _ (D8 _)];exact x.hh
 nj:=x.nj
 mM:=x.mM
 hlen:=by rw[cR];exact x.hlen
 hk j2 c2 k2 sn ow:=by
  have mS:=(ae.1 nZ).1;by_cases e:j=j2
  ·subst e;rw[hj] at sn;cases sn;rw[eV mS] at ow;cases ow;rw[T5];exact s7
  rw[eC e] at ow
  have hc:c≠c2:=by
   rintro rfl;exact e (T7 x.nj hj sn)
  rw[Is _ fun r=>sS (by simpa using hc)];exact x.hk j2 c2 k2 sn ow
 oX j2 k2 sn ow:=by
  have mS:=(ae.1 nZ).1;by_cases e:j=j2
  ·subst e;rw[eV mS] at ow;cases ow;rw[hn];exact x.oX j k sn nZ
  rw[eC e] at ow;exact x.oX j2 k2 sn ow
 mW c2 oc:=by
  obtain⟨s,u,hs⟩:=x.mW c2 oc;by_cases e:bs path++.b c2::s=bs path++.b c::q
  ·exact⟨s,v,by rw[e];exact zE _ _ _⟩
  exact⟨s,u,by rw[qq _ e];exact hs⟩
 nN c2 oc s:=by
  rw[qq _ (sS fun e=>oc (by cases e;exact ap hj))];exact x.nN c2 oc s
 hw e:=by
  obtain⟨wn,wk,h1,h2,h3,h4,⟨s,u,h5⟩,h6,h7⟩:=x.hw e;have oC:=(ae.1 hj).1;refine⟨wn,wk,by rw[eC (by omega)];exact h1,h2,h3,h4,⟨s,u,by rw[qq _ (sS (by simp))];exact h5⟩,fun m hm s=>by rw[qq _ (sS (by simp))];exact h6 m hm s,?_⟩;rw[NX _ fun r=>sS (by simp)];exact h7
 qw e m s:=by rw[qq _ (sS (by simp))];exact x.qw e m s
 hA m s:=by rw[qq _ (sS (by simp))];exact x.hA m s
 q5 e:=by
  rcases x.q5 e with h1|h1|h1|⟨k0,h1,h2,h3⟩
  ·exact .inl h1
  ·exact .inr (.inl h1)
  ·exact .inr (.inr (.inl h1))
  subst h2;have:j=0:=by have:=(ae.1 nZ).1;simp at this;omega
  subst this;cases nZ;exact .inr (.inr (.inr ⟨k',h1,rfl,by rw[hn];exact h3⟩))
theorem AF {β:Type} (l:List β) {pos np:Nat} (og:np<=pos):(oW l pos np).Perm l:=by
 have h1:l=(l.take pos).take np++(l.take pos).drop np++((l.drop pos).take 1++(l.drop pos).drop 1):=by
  rw[a8,a8,a8]
 unfold oW;rw[fh,dG og,bZ] at h1;conv=>rhs;rw[h1]
 simp only[aw];exact(dg _ _ _).append_left _
def mv (pos np i:Nat):Nat:=if i<np then i else if i=np then pos else if i<=pos then i-1 else i
theorem It {β:Type} (l:List β) {pos np:Nat} (og:np<=pos) (pW:pos<l.length) (i:Nat):(oW l pos np)[i]? =l[mv pos np i]? :=by
 rw[xW l og pW];unfold mv;split
 ·rfl
 split
 ·rfl
 split<;>rfl
theorem aaN {pos np i n:Nat} (og:np<=pos) (pW:pos<n):mv pos np i<n<->i<n:=by
 unfold mv;split
 ·omega
 split
 ·omega
 split<;>omega
theorem St.move (x:St b path idx mm nt h full kids f) {pos np:Nat} (pW:pos<idx.length) (og:np<=pos):St b path (oW idx pos np) mm nt h full (oW kids pos np) f where
 hp:=x.hp
 oy:=x.oy
 nG:=x.nG
 hh:=x.hh
 nj:=(AF idx og).nodup_iff.2 x.nj
 mM c hc:=x.mM c ((AF idx og).mem_iff.1 hc)
 hlen:=by rw[(AF idx og).length_eq,(AF kids og).length_eq];exact x.hlen
 hk j c k hj nZ:=by
  rw[It idx og pW] at hj;rw[It kids og (by have:=x.hlen;omega)] at nZ;exact x.hk _ c k hj nZ
 oX j k hj nZ:=by
  rw[(AF idx og).length_eq] at hj;rw[It kids og (by have:=x.hlen;omega)] at nZ;exact x.oX _ k ((aaN og pW).2 hj) nZ
 mW c hc:=x.mW c ((AF idx og).mem_iff.1 hc)
 nN c hc:=x.nN c fun e=>hc ((AF idx og).mem_iff.2 e)
 hw e:=by
  obtain⟨wn,wk,h1,h2⟩:=x.hw e;refine⟨wn,wk,?_,h2⟩;rw[(AF idx og).length_eq,xW kids og (by have:=x.hlen;omega),if_neg (by omega),if_neg (by omega),if_neg (by omega)];exact h1
 qw:=x.qw
 hA:=x.hA
 q5 e:=by
  rcases x.q5 e with h1|h1|h1|⟨k0,h1,h2,h3⟩
  ·exact .inl h1
  ·exact .inr (.inl h1)
  ·exact .inr (.inr (.inl (by rw[(AF idx og).length_eq];exact h1)))
  subst h1 h2;simp at pW;have:np=0:=by omega
  subst pW this;exact .inr (.inr (.inr ⟨k0,rfl,rfl,h3⟩))
theorem Iu {mm:Bool} {kids:List T0} {n:Nat} (hl:kids.length=n+mm.toNat) (k:T0):(∀i,i<n->(qe mm kids k)[i]? =kids[i]?)/\(qe mm kids k)[n]? =some k/\(mm=true->(qe mm kids k)[n+1]? =kids[n]?)/\(qe mm kids k).length =n+1+mm.toNat:=by
 unfold qe
 cases mm with
 |false=>
  simp at hl;subst hl;rw[if_neg (by simp)]
  exact⟨fun i hi=>by rw[ak hi],by simp,fun h=>(by cases h),by simp⟩
 |true=>
  simp at hl;have hb:kids≠[]:=fun e=>by rw[e] at hl;simp at hl
  rw[if_pos ⟨rfl,hb⟩]
  obtain⟨p,x,e⟩:∃p x,kids=p++[x]:=by
   rcases cV kids with e|⟨p,x,e⟩
   ·exact absurd e hb
   exact⟨p,x,by rw[e,cW]⟩
  subst e;simp at hl;subst hl;refine⟨fun i hi=>?_,by simp,fun _=>by simp,by simp⟩;rw[List.dropLast_concat,aw,ak hi,ak hi]
theorem St.aaO (x:St b path idx mm nt h full kids f) {c:UInt8} {k:T0} {q:List Tok} {v:Nat×List UInt8} (hc:c∉idx) (s8:tD c) (s7:oG true k (one (.b c::q) v)) (hn:k.nt=0) (hm:h.isSome=true\/mm=true\/1<=idx.length):St true path (idx++[c]) mm nt h full (qe mm kids k) (pM f (bs path++.b c::q) v):=by
 obtain⟨g1,g2,g3,g4⟩:=Iu x.hlen k
 exact{
 hp:=x.hp
 oy:=x.oy
 nG:=fun s v hs=>by
  rcases ya hs with rfl|hs
  ·exact⟨_,rfl⟩
  exact x.nG s v hs
 hh:=by rw[qq _ (D8 _)];exact x.hh
 nj:=List.nodup_append.2 ⟨x.nj,by simp,fun a ha d hd=>by rw[aj.1 hd];exact fun e=>hc (e▸ha)⟩
 mM:=fun d hd=>by
  rcases aB.1 hd with hd|hd
  ·exact x.mM d hd
  rw[aj.1 hd];exact s8
 hlen:=by rw[g4];simp
 hk:=fun j c2 k2 hj nZ=>by
  have mS:=(ae.1 hj).1;by_cases e:j=idx.length
  ·subst e;rw[g2] at nZ;cases nZ;rw[bO (bI _),gq] at hj;cases hj;rw[T5]
   have:at_ f path c=fun _=>none:=by
    funext s;unfold at_;split
    ·rename_i hs
     cases s with
     |nil=>simp at hs
     |cons a r=>
      simp at hs;subst hs;exact x.nN c hc r
    rfl
   rw[this];exact s7
  have hl:j<idx.length:=by simp at mS;omega
  rw[g1 j hl] at nZ;rw[ak hl] at hj;have Bt:c≠c2:=fun e=>hc (by rw[e];exact ap hj)
  rw[Is _ fun r=>sS (by simpa using Bt)];exact x.hk j c2 k2 hj nZ
 oX:=fun j k2 hj nZ=>by
  by_cases e:j=idx.length
  ·subst e;rw[g2] at nZ;cases nZ;exact .inl hn
  have hl:j<idx.length:=by simp at hj;omega
  rw[g1 j hl] at nZ;exact x.oX j k2 hl nZ
 mW:=fun c2 oc=>by
  rcases aB.1 oc with oc|oc
  ·obtain⟨s,u,hs⟩:=x.mW c2 oc;by_cases e:bs path++.b c2::s=bs path++.b c::q
   ·exact⟨s,v,by rw[e];exact zE _ _ _⟩
   exact⟨s,u,by rw[qq _ e];exact hs⟩
  rw[aj.1 oc];exact⟨q,v,zE _ _ _⟩
 nN:=fun c2 oc s=>by
  rw[qq _ (sS fun e=>oc (by cases e;simp))];exact x.nN c2 (fun e=>oc (ay _ e)) s
 hw:=fun e=>by
  obtain⟨wn,wk,h1,h2,h3,h4,⟨s,u,h5⟩,h6,h7⟩:=x.hw e;refine⟨wn,wk,by rw[ax];exact(g3 e).trans h1,h2,h3,h4,⟨s,u,by rw[qq _ (sS (by simp))];exact h5⟩,fun m hm s=>by rw[qq _ (sS (by simp))];exact h6 m hm s,?_⟩;rw[NX _ fun r=>sS (by simp)];exact h7
 qw:=fun e m s=>by rw[qq _ (sS (by simp))];exact x.qw e m s
 hA:=fun m s=>by rw[qq _ (sS (by simp))];exact x.hA m s
 q5:=fun _=>by
  rcases hm with h1|h1|h1
  ·exact .inl h1
  ·exact .inr (.inl h1)
  exact .inr (.inr (.inl (by simp;omega)))}
theorem St.aaP (x:St b path idx false nt h full kids f) {m:List UInt8} {wk:T0} {q:List Tok} {v:Nat×List UInt8} (hm:word m) (sJ:oG true wk (one q v)) (hn:wk.nt=2) (Iv:wk.path=58::m):St true path idx true nt h full (kids++[wk]) (pM f (bs path++.P m::q) v):=by
 have hlen:=x.hlen;simp at hlen
 exact{
 hp:=x.hp
 oy:=x.oy
 nG:=fun s v hs=>by
  rcases ya hs with rfl|hs
  ·exact⟨_,rfl⟩
  exact x.nG s v hs
 hh:=by rw[qq _ (D8 _)];exact x.hh
 nj:=x.nj
 mM:=x.mM
 hlen:=by simp[hlen]
 hk:=fun j c k hj nZ=>by
  have hl:=(ae.1 hj).1;rw[ak (by omega)] at nZ;rw[Is _ fun r=>sS (by simp)];exact x.hk j c k hj nZ
 oX:=fun j k hj nZ=>by
  rw[ak (by omega)] at nZ;exact x.oX j k hj nZ
 mW:=fun c hc=>by
  obtain⟨s,u,hs⟩:=x.mW c hc;exact⟨s,u,by rw[qq _ (sS (by simp))];exact hs⟩
 nN:=fun c hc s=>by rw[qq _ (sS (by simp))];exact x.nN c hc s
 hw:=fun _=>by
  refine⟨m,wk,by rw[<-hlen];simp,hm,hn,Iv,⟨q,v,zE _ _ _⟩,fun m2 vg s=>?_,?_⟩
  ·rw[qq _ (sS (by simpa using vg))];exact x.qw rfl m2 s
  rw[T6];have:(fun s=>f (bs path++.P m::s))=fun _=>none:=by funext s;exact x.qw rfl m s
  rw[this];exact sJ
 qw:=fun e=>by cases e
 hA:=fun m s=>by rw[qq _ (sS (by simp))];exact x.hA m s
 q5:=fun _=>.inr (.inl rfl)}
theorem St.aaQ (x:St b path idx true nt h full kids f) {wn:List UInt8} {wk Ea:T0} {q:List Tok} {v:Nat×List UInt8} (aaR:kids[idx.length]? =some wk) (Iv:wk.path=58::wn) (sJ:oG true Ea (pM (fun s=>f (bs path++.P wn::s)) q v)) (hn:Ea.nt=2) (aaS:Ea.path=58::wn):St b path idx true nt h full (kids.set idx.length Ea) (pM f (bs path++.P wn::q) v):=by
 have hlen:=x.hlen;simp at hlen
 exact{
 hp:=x.hp
 oy:=x.oy
 nG:=fun s v hs=>by
  rcases ya hs with rfl|hs
  ·exact⟨_,rfl⟩
  exact x.nG s v hs
 hh:=by rw[qq _ (D8 _)];exact x.hh
 nj:=x.nj
 mM:=x.mM
 hlen:=by rw[cR];exact x.hlen
 hk:=fun j c k hj nZ=>by
  have hl:=(ae.1 hj).1;rw[eC (by omega)] at nZ;rw[Is _ fun r=>sS (by simp)];exact x.hk j c k hj nZ
 oX:=fun j k hj nZ=>by
  rw[eC (by omega)] at nZ;exact x.oX j k hj nZ
 mW:=fun c hc=>by
  obtain⟨s,u,hs⟩:=x.mW c hc;exact⟨s,u,by rw[qq _ (sS (by simp))];exact hs⟩
 nN:=fun c hc s=>by rw[qq _ (sS (by simp))];exact x.nN c hc s
 hw:=fun _=>by
  obtain⟨Iw,KU,h1,h2,h3,h4,_,h6,h7⟩:=x.hw rfl;rw[aaR] at h1;cases h1;rw[Iv] at h4;cases h4;refine⟨wn,Ea,by rw[eV (by omega)],h2,hn,aaS,⟨q,v,zE _ _ _⟩,fun m2 vg s=>?_,by rw[T6];exact sJ⟩;rw[qq _ (sS (by simpa using vg))];exact h6 m2 vg s
 qw:=fun e=>by cases e
 hA:=fun m s=>by rw[qq _ (sS (by simp))];exact x.hA m s
 q5:=fun _=>.inr (.inl rfl)}
theorem St.split (x:St true path idx mm nt h full kids f) {i pr:Nat} {c:UInt8} (D9:List UInt8) (hc:path[i]? =some c):St false (path.take i) [c] false nt none D9 [.node () (path.drop i) idx mm 0 pr h full kids] f:=by
 have hi:=(ae.1 hc).1;have s8:c∈path:=ap hc
 have hd:path.drop i=c::path.drop (i+1):=by
  rw[bl hi,(ae.1 hc).2]
 have Bm:bs path=bs (path.take i)++bs (path.drop i):=by rw[<-CJ,a8]
 have CX:∀s v,f s=some v->∃r,s=bs (path.take i)++.b c::(bs (path.drop (i+1))++r):=fun s v hs=>by
  obtain⟨r,rfl⟩:=x.nG s v hs;exact⟨r,by rw[Bm,hd];simp[bs]⟩
 have tG:∀y:List Tok,at_ f (path.take i) c (bs (path.drop i)++y)=f (bs path++y):=fun y=>by
  unfold at_;rw[if_pos (by rw[hd];rfl),Bm,aw]
 have aaT:at_ f (path.take i) c (bs (path.drop i))=f (bs path):=by have:=tG [];simpa using this
 have NY:∀d,at_ (at_ f (path.take i) c) (path.drop i) d=at_ f path d:=fun d=>by
  funext y;show(if _ then at_ f (path.take i) c (bs (path.drop i)++y) else none)=_;rw[tG];rfl
 have aaU:∀wn,(fun s=>at_ f (path.take i) c (bs (path.drop i)++.P wn::s))=fun s=>f (bs path++.P wn::s):=fun wn=>by
  funext s;exact tG _
 have aaV:St true (path.drop i) idx mm 0 h full kids (at_ f (path.take i) c):={
  hp:=fun d hd=>x.hp d (dB hd)
  oy:=.inl rfl
  nG:=fun s v hs=>by
   unfold at_ at hs;split at hs
   ·obtain⟨r,hr⟩:=x.nG _ v hs;rw[Bm,aw] at hr;exact⟨r,KT hr⟩
   cases hs
  hh:=by rw[aaT];exact x.hh
  nj:=x.nj
  mM:=x.mM
  hlen:=x.hlen
  hk:=fun j d k hj nZ=>by rw[NY];exact x.hk j d k hj nZ
  oX:=x.oX
  mW:=fun d hd=>by
   obtain⟨s,v,hs⟩:=x.mW d hd;exact⟨s,v,by rw[tG];exact hs⟩
  nN:=fun d hd s=>by rw[tG];exact x.nN d hd s
  hw:=fun e=>by
   obtain⟨wn,wk,h1,h2,h3,h4,⟨s,v,h5⟩,h6,h7⟩:=x.hw e;exact⟨wn,wk,h1,h2,h3,h4,⟨s,v,by rw[tG];exact h5⟩,fun m hm s=>by rw[tG];exact h6 m hm s,by rw[aaU];exact h7⟩
  qw:=fun e m s=>by rw[tG];exact x.qw e m s
  hA:=fun m s=>by rw[tG];exact x.hA m s
  q5:=fun _=>x.q5 rfl}
 have hex:∃s v,f (bs path++s)=some v:=by
  rcases x.q5 rfl with h1|h1|h1|⟨k0,h1,h2,h3⟩
  ·obtain⟨k,rfl⟩:=b7.1 h1;exact⟨[],_,by rw[aS,x.hh];rfl⟩
  ·obtain⟨wn,wk,_,_,_,_,⟨s,v,h5⟩,_⟩:=x.hw h1;exact⟨_,v,h5⟩
  ·obtain⟨d,e,l,rfl⟩:∃d e l,idx=d::e::l:=by
    match idx,h1 with
    |d::e::l,_=>exact⟨d,e,l,rfl⟩
   obtain⟨s,v,h5⟩:=x.mW d (.head _);exact⟨_,v,h5⟩
  subst h1;obtain⟨s,v,h5⟩:=x.mW 47 (.head _);exact⟨_,v,h5⟩
 have NZ:∀(y:Tok) (s:List Tok),y≠ .b c->f (bs (path.take i)++y::s)=none:=fun y s hy=>by
  cases hf:f (bs (path.take i)++y::s) with
  |none=>rfl
  |some v=>
   obtain⟨r,hr⟩:=CX _ v hf;have:=KT hr;simp at this;exact absurd this.1 hy
 exact{
 hp:=fun d hd=>x.hp d (dY hd)
 oy:=x.oy
 nG:=fun s v hs=>by
  obtain⟨r,hr⟩:=CX s v hs;exact⟨_,hr⟩
 hh:=by
  cases hf:f (bs (path.take i)) with
  |none=>rfl
  |some v=>
   obtain⟨r,hr⟩:=CX _ v hf;exact absurd hr (D8 _)
 nj:=by simp
 mM:=fun d hd=>by rw[aj.1 hd];exact x.hp c s8
 hlen:=rfl
 hk:=fun j d k hj nZ=>by
  match j,hj,nZ with
  |0,hj,nZ=>cases hj;cases nZ;exact aaV.ur
  |j+1,hj,_=>simp at hj
 oX:=fun j k hj nZ=>by
  match j,hj,nZ with
  |0,_,nZ=>cases nZ;exact .inl rfl
  |j+1,hj,_=>simp at hj
 mW:=fun d N0=>by
  rw[aj.1 N0];obtain⟨s,v,hs⟩:=hex;exact⟨bs (path.drop (i+1))++s,v,by rw[<-hs,Bm,hd];simp[bs]⟩
 nN:=fun d hd s=>NZ _ s (by simpa using hd)
 hw:=fun e=>by cases e
 qw:=fun _ m s=>NZ _ s (by simp)
 hA:=fun m s=>NZ _ s (by simp)
 q5:=fun e=>by cases e}
end
def stepT (rec:T0->List UInt8->Nat->Option (Option T0)) (t:T0) (full:List UInt8) (nc h:Nat):List UInt8->Option (Option T0)
 |[]=>if t.h.isSome then some none else some (some (.node () t.path t.idx t.mm t.nt t.pr (some h) full t.kids))
 |c::rest=>
  if t.nt=2/\c=47/\t.kids.length=1 then
   match t.kids with
   |[k]=>(rec k.nL (c::rest) (nc+t.path.length)).map fun r=>r.map fun k'=>t.KE [k']
   |_=>none
  else match idxOf c t.idx with
  |some j=>
   match (bump t.idx t.kids j).2.1[(bump t.idx t.kids j).2.2]? with
   |some k=>(rec k (c::rest) (nc+t.path.length)).map fun r=>r.map fun k'=>.node () t.path (bump t.idx t.kids j).1 t.mm t.nt t.pr t.h t.full ((bump t.idx t.kids j).2.1.set (bump t.idx t.kids j).2.2 k')
   |none=>none
  |none=>
   if c≠58/\c≠42/\t.nt≠3 then
    let b:=bump (t.idx++[c]) (qe t.mm t.kids (.node () [] [] false 0 0 none full [])) ((t.idx++[c]).length -1)
    match b.2.1[b.2.2]? with
    |some k=>(sF ((c::rest).length +1) k (c::rest) full h).map fun r=>r.map fun k'=>.node () t.path b.1 t.mm t.nt t.pr t.h t.full (b.2.1.set b.2.2 k')
    |none=>none
   else if t.mm then
    match t.kids.getLast? with
    |some k0=>
     if k0.nL.path.length<=(c::rest).length /\(c::rest).take k0.nL.path.length=k0.nL.path/\k0.nL.nt≠3/\((c::rest).length <=k0.nL.path.length\/(c::rest)[k0.nL.path.length]? =some 47) then
      (rec k0.nL (c::rest) nc).map fun r=>r.map fun k'=>t.KE (t.kids.dropLast++[k'])
     else some none
    |none=>none
   else sF ((c::rest).length +1) t (c::rest) full h
theorem KW (n:Nat) (t0:T0) (path full:List UInt8) (nc h:Nat):wv (n+1) t0 path full nc h=stepT (fun k p q=>wv n k p full q h) (if mK path t0.path<t0.path.length then split t0 () (mK path t0.path) (full.take (nc+mK path t0.path)) else t0) full nc h (path.drop (mK path t0.path)):=by
 conv=>lhs;unfold wv
 dsimp only;generalize path.drop (mK path t0.path)=p;cases p<;>rfl
section
variable (a:Unit) (p i:List UInt8) (w:Bool) (n q:Nat) (h:Option Nat) (f:List UInt8) (k:List T0)
theorem oZ:(Tr.node a p i w n q h f k).path =p:=rfl
theorem tH:(Tr.node a p i w n q h f k).idx =i:=rfl
theorem sw:(Tr.node a p i w n q h f k).mm =w:=rfl
theorem rn:(Tr.node a p i w n q h f k).nt =n:=rfl
theorem AG:(Tr.node a p i w n q h f k).pr =q:=rfl
theorem ta:(Tr.node a p i w n q h f k).h =h:=rfl
theorem Bu:(Tr.node a p i w n q h f k).full =f:=rfl
theorem rp:(Tr.node a p i w n q h f k).kids =k:=rfl
end
def Ap (f:F) (s:List Tok):Prop:=∀s' v,f s'=some v->apart s s'=true
def Out (f:F) (s:List Tok) (v:Nat×List UInt8) (nt:Nat):Option T0->Prop
 |some t'=>Ap f s/\oG true t' (pM f s v)/\t'.nt=nt
 |none=>¬Ap f s
def T8 (f:F) (q:List Tok) (v:Nat×List UInt8) (n:List UInt8):Option T0->Prop
 |some t'=>Ap f q/\oG true t' (pM f q v)/\t'.nt=2/\t'.path=58::n
 |none=>¬Ap f q
theorem KX (idx:List UInt8) (kids:List T0) {j:Nat} (hj:j<idx.length):∃np,np<=j/\bump idx kids j=(oW idx j np,oW (kids.modify j nL) j np,np):=by
 refine⟨(bump idx kids j).2.2,D0 _ _ _,?_⟩;unfold bump;by_cases h:vk ((kids.modify j nL).map Tr.pr) ((((kids.modify j nL)[j]?).map Tr.pr).getD 0) j=j
 ·simp only[h];simp[Tm idx hj]
 simp only[if_pos h,ne_eq]
theorem T9 {pos np i:Nat} (og:np<=pos):mv pos np i=pos<->i=np:=by
 unfold mv;split
 ·omega
 split
 ·omega
 split<;>omega
theorem Ua {β:Type} (l:List β) {pos np:Nat} (og:np<=pos) (pW:pos<l.length) (y:β):(oW l pos np).set np y=oW (l.set pos y) pos np:=by
 apply c9;intro i;have hl:=CC l og pW;rw[It _ og (by rw[cR];exact pW),dk,dk,hl];by_cases e:np=i
 ·subst e;rw[if_pos rfl,if_pos (by omega),if_pos ((T9 og).2 rfl).symm,if_pos pW]
 rw[if_neg e,if_neg (fun e2=>e ((T9 og).1 e2.symm).symm),It l og pW]
theorem Ub {β:Type} (l:List β) (j:Nat) (g:β->β) (y:β):(l.modify j g).set j y=l.set j y:=by
 apply c9;intro i;rw[dk,dk,dt,dA];by_cases e:j=i
 ·rw[if_pos e,if_pos e]
 rw[if_neg e,if_neg e];simp[e]
theorem aaW {mm:Bool} {kids:List T0} {n:Nat} (hl:kids.length=n+mm.toNat) (k y:T0):(qe mm kids k).set n y=qe mm kids y:=by
 obtain⟨a1,a2,a3,a4⟩:=Iu hl k;obtain⟨b1,b2,b3,b4⟩:=Iu hl y;apply c9;intro i;rw[dk,a4];by_cases e:n=i
 ·subst e;rw[if_pos rfl,if_pos (by omega),b2]
 rw[if_neg e];rcases cn i n with h|h
 ·rw[a1 i h,b1 i h]
 rcases cn i (n+1+mm.toNat) with h2|h2
 ·cases mm with
  |false=>simp at h2;omega
  |true=>
   simp at h2;have:i=n+1:=by omega
   subst this;rw[a3 rfl,b3 rfl]
 rw[dq (by omega),dq (by omega)]
theorem Uc {kids:List T0} {n:Nat} (hl:kids.length=n+1) (y:T0):kids.dropLast++[y]=kids.set n y:=by
 rcases cV kids with e|⟨p,x,e⟩
 ·subst e;simp at hl
 rw[cW] at e;subst e;simp at hl;subst hl;simp
theorem Eb {c:UInt8}:∀{l:List UInt8} {j:Nat},idxOf c l=some j->l[j]? =some c
 |[],j,h=>by cases h
 |d::l,j,h=>by
  unfold idxOf at h;by_cases e:c=d
  ·rw[if_pos e] at h;cases h;simp[e]
  rw[if_neg e] at h;obtain⟨j',h1,rfl⟩:=aN.1 h;simpa using Eb h1
theorem FJ {c:UInt8}:∀{l:List UInt8},idxOf c l=none<->c∉l
 |[]=>by simp[idxOf]
 |d::l=>by
  unfold idxOf;by_cases e:c=d
  ·rw[if_pos e];simp[e]
  rw[if_neg e,eW,FJ];simp[e]
theorem aaX (g:Nat) {tp idx:List UInt8} {w:Bool} {nt pr h:Nat} {h0:Option Nat} {f0 full:List UInt8} {kids:List T0} {m:List UInt8} {q:List Tok} (hg:(lg q).length <g) (hm:word m) (hq:q=[]\/∃r,q=.b 47::r) (nk:Ok false q):
  ∃wk,sF (g+1) (.node () tp idx w nt pr h0 f0 kids) (58::(m++lg q)) full h=some (some (.node () tp idx true nt pr h0 f0 (qe w kids wk)))/\wk.nt=2/\wk.path=58::m/\oG true wk (one q (h,full)):=by
 have hf:=NI (pre:=[]) (t:=lg q) (by simp) hm (KJ hq);rw[cv] at hf;have oD:0<m.length:=aU.2 hm.1;have hl:¬(58::m).length <2:=by simp;omega
 have hd:(58::(m++lg q)).drop (58::m).length =lg q:=by simp
 unfold sF;simp only[hf,hl,if_false,cw,if_true,cm,gi,dT,hd];rcases hq with rfl|⟨q',rfl⟩
 ·have:¬(58::m).length <(58::(m++lg [])).length :=by simp[lg]
  rw[if_neg this];exact⟨_,rfl,rfl,rfl,TZ⟩
 have:(58::m).length <(58::(m++lg (.b 47::q'))).length :=by simp[lg]
 rw[if_pos this];obtain⟨t',h3,h4,h5,h6⟩:=Iq g false (.b 47::q') 0 1 h full full hg nk ⟨47,q',rfl⟩ (.inl rfl);rw[h3];exact⟨_,rfl,rfl,rfl,T4 (.inl rfl) h4 h5⟩
theorem aaY (g:Nat) {tp idx:List UInt8} {w:Bool} {nt pr h:Nat} {h0:Option Nat} {f0 full:List UInt8} {kids:List T0} {m:List UInt8} (hm:word m):sF (g+1) (.node () tp idx w nt pr h0 f0 kids) (42::m) full h=some none:=by
 have hf:=NJ (pre:=[]) (by simp) hm;rw[cv] at hf;have oD:0<m.length:=aU.2 hm.1;have hl:¬(42::m).length <2:=by simp;omega
 have hh:¬((some 42:Option UInt8)=some 58):=by decide
 have hlen:¬(([]:List UInt8).length +(42::m).length ≠(42::m).length):=by simp
 unfold sF;simp only[hf,hl,if_false,cw,hh,hlen];split
 ·rfl
 rw[if_pos (.inl rfl)]
section
variable {b:Bool} {path idx:List UInt8} {mm:Bool} {nt:Nat} {h0:Option Nat} {f0:List UInt8} {kids:List T0} {f:F}
theorem St.shape (x:St b path idx mm nt h0 f0 kids f) {s:List Tok} {v} (hs:f s=some v):s=bs path\/(∃d r,s=bs path++.b d::r)\/∃m r,s=bs path++.P m::r:=by
 obtain⟨r,rfl⟩:=x.nG s v hs
 match r with
 |[]=>exact .inl (by simp)
 |.b d::r=>exact .inr (.inl ⟨d,r,rfl⟩)
 |.P m::r=>exact .inr (.inr ⟨m,r,rfl⟩)
 |.A m::r=>rw[x.hA] at hs;cases hs
theorem St.N1 (x:St b path idx mm nt h0 f0 kids f) {d:UInt8} {q:List Tok}:Ap f (bs path++.b d::q)<->Ap (at_ f path d) (.b d::q):=by
 constructor
 ·intro h s v hs;unfold at_ at hs;split at hs
  ·have:=h _ v hs;rwa[xw] at this
  cases hs
 intro h s v hs;rcases x.shape hs with rfl|⟨e,r,rfl⟩|⟨m,r,rfl⟩
 ·have:=xw (bs path) (.b d::q) [];rw[aS] at this;rw[this];rfl
 ·rw[xw];by_cases he:d=e
  ·subst he;exact h _ v (by simpa[at_] using hs)
  exact Z2 he _ _
 rw[xw];exact Tu _ _ _ _
theorem St.aaZ (x:St b path idx mm nt h0 f0 kids f) {d:UInt8} (hd:d∉idx) (q:List Tok):Ap f (bs path++.b d::q):=
 x.N1.2 fun s v hs=>by
  unfold at_ at hs;split at hs
  ·rename_i hx
   cases s with
   |nil=>simp at hx
   |cons a r=>
    simp at hx;subst hx;rw[x.nN d hd] at hs;cases hs
  cases hs
theorem St.N4 (x:St b path idx mm nt h0 f0 kids f) {wn:List UInt8} {q:List Tok} (ho:∀m,m≠wn->∀s,f (bs path++.P m::s)=none):Ap f (bs path++.P wn::q)<->Ap (fun s=>f (bs path++.P wn::s)) q:=by
 constructor
 ·intro h s v hs;have:=h _ v hs;rwa[xw,zw] at this
 intro h s v hs;rcases x.shape hs with rfl|⟨e,r,rfl⟩|⟨m,r,rfl⟩
 ·have:=xw (bs path) (.P wn::q) [];rw[aS] at this;rw[this];rfl
 ·rw[xw,Fy];exact Tu _ _ _ _
 by_cases e:m=wn
 ·subst e;rw[xw,zw];exact h r v hs
 rw[ho m e] at hs;cases hs
theorem St.aa0 (x:St b path idx mm nt h0 f0 kids f) (hn:h0=none):Ap f (bs path):=fun s v hs=>by
 rcases x.shape hs with rfl|⟨e,r,rfl⟩|⟨m,r,rfl⟩
 ·rw[x.hh,hn] at hs;cases hs
 ·have:=xw (bs path) [] (.b e::r);rw[aS] at this;rw[this];rfl
 have:=xw (bs path) [] (.P m::r);rw[aS] at this;rw[this];rfl
theorem St.Ud (x:St b path idx mm nt h0 f0 kids f) (m:List UInt8) (hm:h0.isSome=true\/mm=true\/1<=idx.length):¬Ap f (bs path++[.A m]):=fun h=>by
 rcases hm with h1|h1|h1
 ·obtain⟨k,rfl⟩:=b7.1 h1;have:=h (bs path) _ x.hh;have e:=xw (bs path) [.A m] [];rw[aS] at e;rw[e] at this;cases this
 ·obtain⟨wn,wk,_,_,_,_,⟨s,v,h5⟩,_⟩:=x.hw h1;have:=h _ v h5;rw[xw,yR (by simp)] at this;cases this
 obtain⟨d,l,rfl⟩:=List.exists_cons_of_length_pos h1;obtain⟨s,v,h5⟩:=x.mW d (.head _);have:=h _ v h5;rw[xw,yR (by simp)] at this;cases this
theorem Ue {m n:List UInt8} {q:List Tok} (hm:word m) (hn:word n) (hq:q=[]\/∃r,q=.b 47::r)
  (h2:(58::(m++lg q)).take (58::n).length =58::n) (h4:(58::(m++lg q)).length <=(58::n).length \/(58::(m++lg q))[(58::n).length]? =some 47):m=n:=by
 have h3:(m++lg q).take n.length=n:=by simpa using h2
 have e:m++lg q=n++(m++lg q).drop n.length:=by conv=>lhs;rw[<-a8 n.length (m++lg q),h3]
 have ht:(m++lg q).drop n.length=[]\/∃r,(m++lg q).drop n.length=47::r:=by
  rcases h4 with h|h
  ·exact .inl (gh (by simpa using h))
  right;have h5:(m++lg q)[n.length]? =some 47:=by simpa using h
  exact⟨_,by rw[bl (ae.1 h5).1,(ae.1 h5).2]⟩
 have a:=Fz (n:=m) (t:=lg q) (fun c hc=>(hm.2 c hc).1) (KJ hq);have b:=Fz (n:=n) (fun c hc=>(hn.2 c hc).1) ht;rw[<-e,a] at b;exact b
theorem St.aa1 {b path idx nt h full kids f} (x:St b path idx true nt h full kids f):St true path idx true nt h full kids f:=
 ⟨x.hp,x.oy,x.nG,x.hh,x.nj,x.mM,x.hlen,x.hk,x.oX,x.mW,x.nN,x.hw,x.qw,x.hA,fun _=>.inr (.inl rfl)⟩
theorem Uf (x:St b path idx mm nt h0 f0 kids f) {pr:Nat} (hm:h0.isSome=true\/mm=true\/1<=idx.length) {rec:T0->List UInt8->Nat->Option (Option T0)} {full:List UInt8} {nc h:Nat} {sl:Bool} {s':List Tok} (nk:Ok sl s')
  (qi:∀(j:Nat) d q',idx[j]? =some d->s'=.b d::q'->b=true)
  (hS:∀(j:Nat) d k q',idx[j]? =some d->kids[j]? =some k->s'=.b d::q'->∃r,rec k.nL (lg s') (nc+path.length)=some r/\Out (at_ f path d) s' (h,full) k.nt r)
  (hP:∀wk wn q',mm=true->kids[idx.length]? =some wk->wk.path=58::wn->wk.nt=2->oG true wk (fun s=>f (bs path++.P wn::s))->word wn->s'=.P wn::q'->∃r,rec wk.nL (lg s') nc=some r/\T8 (fun s=>f (bs path++.P wn::s)) q' (h,full) wn r):
  ∃r,stepT rec (.node () path idx mm nt pr h0 f0 kids) full nc h (lg s')=some r/\Out f (bs path++s') (h,full) nt r:=by
 have Ix:¬(nt=2):=by have:=x.oy;omega
 have aa2:nt≠3:=by have:=x.oy;omega
 match s',nk with
 |[],_=>
  simp only[lg,stepT,ta,oZ,tH,sw,rn,AG,rp]
  cases Ed:h0 with
  |none=>
   subst Ed;refine⟨_,rfl,?_⟩;rw[aS]
   exact⟨x.aa0 rfl,(x.aaL h full).ur,rfl⟩
  |some k=>
   subst Ed;refine⟨none,rfl,fun ha=>?_⟩;rw[aS] at ha;have:=ha _ _ x.hh
   rw[KI] at this;cases this
 |.b d::q,nk=>
  have Bv:tD d:=nk.1;have h1:¬(nt=2/\d=47/\kids.length=1):=fun e=>Ix e.1
  have et:lg (.b d::q)=d::lg q:=rfl;rw[et];simp only[stepT,ta,oZ,tH,sw,rn,AG,rp,Bu,h1,if_false]
  cases hj:idxOf d idx with
  |some j=>
   have Ee:=Eb hj;have oC:=(ae.1 Ee).1;have N5:j<kids.length:=by have:=x.hlen;omega
   obtain⟨np,og,hb⟩:=KX idx kids oC;obtain⟨k,hk⟩:=gx N5
   have ow:(oW (kids.modify j nL) j np)[np]? =some k.nL:=by
    rw[xW _ og (by rw[dt];exact N5),if_neg (by omega),if_pos rfl,dA,hk];simp
   obtain⟨r,hr,ho⟩:=hS j d k q Ee hk rfl;rw[et] at hr;simp only[hb,ow,hr,dm];refine⟨_,rfl,?_⟩
   cases r with
   |none=>exact fun ha=>ho (x.N1.1 ha)
   |some k'=>
    obtain⟨o1,o2,o3⟩:=ho;refine⟨x.N1.2 o1,?_,rfl⟩;show oG true (.node () path (oW idx j np) mm nt pr h0 f0 ((oW (kids.modify j nL) j np).set np k')) _;rw[Ua _ og (by rw[dt];exact N5),Ub];have sW:=qi j d q Ee rfl;subst sW
    exact((x.aaM Ee hk o2 o3).move oC og).ur
  |none=>
   have KY:=FJ.1 hj;have hc:d≠58/\d≠42/\nt≠3:=⟨Bv.1,Bv.2,aa2⟩;simp only[hc,ne_eq,not_false_eq_true,and_self,if_true];have pW:(idx++[d]).length -1=idx.length:=by simp
   rw[pW];obtain⟨np,og,hb⟩:=KX (idx++[d]) (qe mm kids (.node () [] [] false 0 0 none full [])) (j:=idx.length) (by simp);obtain⟨g1,g2,g3,g4⟩:=Iu x.hlen (.node () [] [] false 0 0 none full [])
   have ow:(oW ((qe mm kids (.node () [] [] false 0 0 none full [])).modify idx.length nL) idx.length np)[np]? =some (.node () [] [] false 0 1 none full []):=by
    rw[xW _ og (by rw[dt,g4];omega),if_neg (by omega),if_pos rfl,dA,g2];simp[Tr.nL,Tr.Nz,Tr.pr]
   obtain⟨t',i1,i2,i3,i4⟩:=Iq ((d::lg q).length +1) sl (.b d::q) 0 1 h full full (by rw[et];omega) nk ⟨d,q,rfl⟩ (.inl rfl);rw[et] at i1;simp only[hb,ow,i1,dm];refine⟨_,rfl,x.aaZ KY q,?_,rfl⟩;rw[Ua _ og (by rw[dt,g4];omega),Ub,aaW x.hlen]
   exact((x.aaO KY Bv i2 i3 hm).move (by simp) og).ur
 |.P m::q,nk=>
  obtain⟨_,Ef,hq,tS⟩:=nk;have et:lg (.P m::q)=58::(m++lg q):=rfl;rw[et];have h1:¬(nt=2/\(58:UInt8)=47/\kids.length=1):=fun e=>Ix e.1
  have hj:idxOf 58 idx=none:=FJ.2 fun e=>(x.mM 58 e).1 rfl
  have hc:¬((58:UInt8)≠58/\(58:UInt8)≠42/\nt≠3):=fun e=>e.1 rfl
  simp only[stepT,ta,oZ,tH,sw,rn,AG,rp,Bu,h1,if_false,hj,hc]
  cases rl:mm with
  |false=>
   subst rl;obtain⟨wk,w1,w2,w3,w4⟩:=aaX (58::(m++lg q)).length (tp:=path) (idx:=idx) (w:=false) (nt:=nt) (pr:=pr) (h:=h) (h0:=h0) (f0:=f0) (full:=full) (kids:=kids) (by simp;omega) Ef hq tS;simp only[c6,if_false,w1];refine⟨_,rfl,?_,?_,rfl⟩
   ·exact(x.N4 fun m _ s=>x.qw rfl m s).2 fun s v hs=>by
     have sT:f (bs path++.P m::s)=some v:=hs;rw[x.qw rfl] at sT;cases sT
   have:qe false kids wk=kids++[wk]:=by simp[qe]
   rw[this]
   exact(x.aaP Ef w4 w2 w3).ur
  |true=>
   subst rl;obtain⟨wn,wk,h1,h2,h3,h4,⟨s5,v5,h5⟩,h6,h7⟩:=x.hw rfl;have Bx:kids.length=idx.length+1:=by simpa using x.hlen
   have zF:kids.getLast? =some wk:=by rw[c8,Bx];exact h1
   simp only[if_true,zF];have zG:wk.nL.path=58::wn:=by rw[CW];exact h4
   have KY:wk.nL.nt≠3:=by rw[wS,h3];decide
   by_cases e:m=wn
   ·subst e;obtain⟨r,hr,ho⟩:=hP wk m q rfl h1 h4 h3 h7 h2 rfl;rw[et] at hr
    have ui:wk.nL.path.length<=(58::(m++lg q)).length /\(58::(m++lg q)).take wk.nL.path.length=wk.nL.path/\wk.nL.nt≠3/\((58::(m++lg q)).length <=wk.nL.path.length\/(58::(m++lg q))[wk.nL.path.length]? =some 47):=by
     rw[zG];refine⟨by simp,by simp,KY,?_⟩;rcases hq with rfl|⟨r,rfl⟩
     ·left;simp[lg]
     right;simp[lg]
    rw[if_pos ui,hr];refine⟨_,rfl,?_⟩
    cases r with
    |none=>exact fun ha=>ho ((x.N4 h6).1 ha)
    |some k'=>
     obtain⟨o1,o2,o3,o4⟩:=ho;refine⟨(x.N4 h6).2 o1,?_,rfl⟩;show oG true (.node () path idx true nt pr h0 f0 (kids.dropLast++[k'])) _;rw[Uc Bx];exact(x.aaQ h1 h4 o2 o3 o4).aa1.ur
   rw[if_neg]
   ·refine⟨none,rfl,fun ha=>?_⟩;have:=ha _ _ h5;rw[xw,Z3 e] at this;cases this
   rw[zG];rintro⟨_,c2,_,c4⟩
   exact e (Ue Ef h2 hq c2 c4)
 |.A m::q,nk=>
  obtain⟨_,Ef,rfl⟩:=nk;have et:lg [.A m]=42::m:=by simp[lg]
  rw[et];have h1:¬(nt=2/\(42:UInt8)=47/\kids.length=1):=fun e=>Ix e.1
  have hj:idxOf 42 idx=none:=FJ.2 fun e=>(x.mM 42 e).2 rfl
  have hc:¬((42:UInt8)≠58/\(42:UInt8)≠42/\nt≠3):=fun e=>e.2.1 rfl
  simp only[stepT,ta,oZ,tH,sw,rn,AG,rp,Bu,h1,if_false,hj,hc]
  cases rl:mm with
  |false=>
   subst rl;simp only[c6,if_false];rw[aaY _ Ef]
   exact⟨none,rfl,x.Ud m hm⟩
  |true=>
   subst rl;obtain⟨wn,wk,h1,h2,h3,h4,_⟩:=x.hw rfl;have Bx:kids.length=idx.length+1:=by simpa using x.hlen
   have zF:kids.getLast? =some wk:=by rw[c8,Bx];exact h1
   simp only[if_true,zF];have zG:wk.nL.path=58::wn:=by rw[CW];exact h4
   rw[if_neg]
   ·exact⟨none,rfl,x.Ud m hm⟩
   rw[zG];rintro⟨_,c2,_⟩;simp at c2
end
theorem Ug {p:List UInt8} {s:List Tok}:∀{sl:Bool},Ok sl (bs p++s)->∃Iy,Ok Iy s:=by
 induction p with
 |nil=>intro sl h;exact⟨sl,h⟩
 |cons c p ih=>intro sl h;exact ih h.2
theorem take_one {l:List UInt8} {i:Nat} {x:UInt8} (h:l[i]? =some x):(l.drop i).take 1=[x]:=by
 rw[bl (ae.1 h).1,(ae.1 h).2];rfl
theorem aa3 {c:UInt8} {q:List Tok}:0<(lg (.b c::q)).length :=by simp[lg]
theorem St.head {path idx:List UInt8} {mm:Bool} {nt:Nat} {h0:Option Nat} {f0:List UInt8} {kids:List T0} {f:F} (x:St true path idx mm nt h0 f0 kids f) {c:UInt8} (hc:∀s v,f s=some v->∃r,s=.b c::r) (hp:path=[]):
  ∃k,idx=[c]/\kids=[k]/\k.nt=3:=by
 subst hp;rcases x.q5 rfl with h1|h1|h1|⟨k,h1,h2,h3⟩
 ·obtain⟨k,rfl⟩:=b7.1 h1;obtain⟨r,e⟩:=hc [] _ x.hh;cases e
 ·obtain⟨wn,wk,_,_,_,_,⟨s,v,h5⟩,_⟩:=x.hw h1;obtain⟨r,e⟩:=hc _ v h5;simp[bs] at e
 ·obtain⟨d,e,l,rfl⟩:∃d e l,idx=d::e::l:=by
   match idx,h1 with
   |d::e::l,_=>exact⟨d,e,l,rfl⟩
  obtain⟨s,v,h5⟩:=x.mW d (.head _);obtain⟨s2,v2,h6⟩:=x.mW e (.tail _ (.head _));obtain⟨r,e1⟩:=hc _ v h5;obtain⟨r2,e2⟩:=hc _ v2 h6;simp[bs] at e1 e2;have:=x.nj;rw[e1.1,e2.1] at this;simp at this
 subst h1 h2;obtain⟨s,v,h5⟩:=x.mW 47 (.head _);obtain⟨r,e1⟩:=hc _ v h5;simp[bs] at e1;exact⟨k,by rw[e1.1],rfl,h3⟩
theorem KZ {f:F} {p:List UInt8} {c:UInt8}:∀s v,at_ f p c s=some v->∃r,s=.b c::r:=fun s v h=>by
 unfold at_ at h;split at h
 ·rename_i hx
  cases s with
  |nil=>simp at hx
  |cons a r=>simp at hx;exact⟨r,by rw[hx]⟩
 cases h
theorem aa4 {_pr aa6 num:Nat} {aa7 wQ n:List UInt8} {q:List Tok} {sl:Bool} (nk:Ok sl (.b 47::q)):¬Ap (one [.b 47,.A n] (num,wQ)) (.b 47::q):=fun h=>by
 have:=h _ _ (x9 _ _);rw[zw] at this
 match q with
 |[]=>cases this
 |.b _::_=>rw[yR (by simp)] at this;cases this
 |.P _::_=>rw[yR (by simp)] at this;cases this
 |.A m::r=>
  have hr:r=[]:=nk.2.2.2;subst hr;by_cases e:m=n
  ·subst e;rw[KI] at this;cases this
  rw[yR (by simpa using e)] at this;cases this
theorem aa8 {rec:T0->List UInt8->Nat->Option (Option T0)} {t k:T0} {full r:List UInt8} {nc h:Nat} (hn:t.nt=3) (hi:t.idx=[]) (hw:t.mm=true) (hk:t.kids=[k]) (uo:k.nt=3):stepT rec t full nc h (47::r)=some none:=by
 have e:k.nL.nt=3:=by rw[wS];exact uo
 simp[stepT,hn,hi,hw,hk,idxOf,e]
theorem Uh:∀(g:Nat),
  (∀(t:T0) (f:F) (sl:Bool) (c:UInt8) (q:List Tok) (full:List UInt8) (nc h:Nat),oG true t f->t.nt≠2->Ok sl (.b c::q)->(∀s v,f s=some v->∃r,s=.b c::r)->(t.nt=3\/2*(lg (.b c::q)).length +3<=g)->1<=g->
   ∃r,wv g t (lg (.b c::q)) full nc h=some r/\Out f (.b c::q) (h,full) t.nt r)/\
  (∀(t:T0) (f:F) (n:List UInt8) (q:List Tok) (full:List UInt8) (nc h:Nat),oG true t f->t.nt=2->t.path=58::n->word n->(q=[]\/∃r,q=.b 47::r)->Ok false q->2*(58::(n++lg q)).length +2<=g->
   ∃r,wv g t (58::(n++lg q)) full nc h=some r/\T8 f q (h,full) n r)
 |0=>⟨fun _ _ _ _ _ _ _ _ _ _ _ _ _ h1=>by omega,fun _ _ _ _ _ _ _ _ _ _ _ _ _ h=>by omega⟩
 |g+1=>by
  obtain⟨Iz,N6⟩:=Uh g;constructor
  ·intro t f sl c q full nc h hr tU nk tc hg Ui;rw[KW];generalize hs:(.b c::q:List Tok)=s at*
   cases hr with
   |pa=>exact absurd rfl tU
   |pk=>exact absurd rfl tU
   | @ca _ pr vT num ajm wQ n hn=>
    obtain⟨r,e⟩:=tc _ _ (x9 _ _);simp at e;have hc:c=47:=e.1.symm;subst hc;subst hs;have et:lg (.b 47::q)=47::lg q:=rfl;have hl:mK (47::lg q) []=0:=HY _;rw[et];refine⟨none,?_,aa4 (_pr:=0) (aa6:=0) (aa7:=[]) nk⟩;simp only[oZ,hl,cm,gi,if_false,dT]
    exact aa8 rfl rfl rfl rfl rfl
   | @st _ path idx mm nt pr h0 yV kids _ wn wk hp oy nG hh nj mM hlen hk oX mW nN hw wu qw hA q5=>
    have X:St true path idx mm nt h0 yV kids f:=(oG.st (pr:=pr) wn wk hp oy nG hh nj mM hlen hk oX mW nN hw wu qw hA q5).Ir oy
    have Uj:2*(lg s).length +3<=g+1:=by
     rcases hg with h|h
     ·simp only[rn] at h;omega
     exact h
    obtain⟨i,s',hi,qG,hl,hd,Eg⟩:=NF path s hp;obtain⟨Iy,yd⟩:=Ug (qG▸nk)
    have IC:h0.isSome=true\/mm=true\/1<=idx.length:=by
     rcases q5 rfl with h|h|h|⟨k,h,_⟩
     ·exact .inl h
     ·exact .inr (.inl h)
     ·exact .inr (.inr (by omega))
     exact .inr (.inr (by rw[h];simp))
    simp only[oZ,hl,hd,rn];by_cases mS:i<path.length
    ·obtain⟨x,hx⟩:=gx mS;have Y:=X.split (pr:=pr+4294967295) (full.take (nc+i)) hx
     have e0:Gt.split (.node () path idx mm nt pr h0 yV kids) () i (full.take (nc+i))=.node () (path.take i) [x] false nt pr none (full.take (nc+i)) [.node () (path.drop i) idx mm 0 (pr+4294967295) h0 yV kids]:=by
      unfold Gt.split;simp only[ta,oZ,tH,sw,rn,AG,rp,Bu,take_one hx]
     rw[if_pos mS,e0];have Uk:=Eg x hx
     obtain⟨r,h1,h2⟩:=Uf Y (pr:=pr) (.inr (.inr (by simp))) (rec:=fun k p q=>wv g k p full q h) (full:=full) (nc:=nc) (h:=h) yd
      (fun j d q' hj e=>by
       have:d=x:=by
        have:=ap hj;simpa using this
       subst this
       exact absurd (by rw[e];rfl) Uk)
      (fun j d k q' hj _ e=>by
       have:d=x:=by
        have:=ap hj;simpa using this
       subst this
       exact absurd (by rw[e];rfl) Uk)
      (fun _ _ _ e=>by cases e)
     rw[<-qG] at h2;exact⟨r,h1,h2⟩
    have vh:i=path.length:=by omega
    subst vh;rw[if_neg mS];rw[b8] at qG;have rY:(lg s).length =path.length+(lg s').length :=by rw[qG,CI,Fx,ax]
    obtain⟨r,h1,h2⟩:=Uf X (pr:=pr) IC (rec:=fun k p q=>wv g k p full q h) (full:=full) (nc:=nc) (h:=h) yd (fun _ _ _ _ _=>rfl)
     (fun j d k q' hj nZ e=>by
      subst e;have FK:=hk j d k hj nZ;have aa9:=oX j k (ae.1 hj).1 nZ;have:=Iz k.nL (at_ f path d) Iy d q' full (nc+path.length) h FK.nL (by rw[wS];omega) yd KZ ?_ (by have:=aa3 (c:=d) (q:=q');omega)
      ·rw[wS] at this;exact this
      rw[wS];by_cases oT:path=[]
      ·obtain⟨k0,e1,e2,e3⟩:=X.head (c:=c) (fun s2 v2 h2=>tc s2 v2 h2) oT;left;rw[e1] at hj;rw[e2] at nZ;have D2:j=0:=by have:=(ae.1 hj).1;simp at this;omega
       subst D2;cases nZ;exact e3
      right;have:=aU.2 oT
      omega)
     (fun KU Iw q' rl sJ Iv tA aba qn e=>by
      subst e;obtain⟨_,_,hq,tS⟩:=yd
      exact N6 KU.nL _ Iw q' full nc h aba.nL (by rw[wS];exact tA) (by rw[CW];exact Iv) qn hq tS (by
       have:(lg (.P Iw::q')).length =(58::(Iw++lg q')).length :=rfl
       omega))
    rw[<-qG] at h2;exact⟨r,h1,h2⟩
  intro t f n q full nc h hr tU CY hw hq nk hg;rw[KW]
  have hl:mK (58::(n++lg q)) (58::n)=n.length+1:=by
   have:=Nt (58::n) (lg q) [];rw[aS,HY] at this;exact this
  have hd:(58::(n++lg q)).drop (n.length+1)=lg q:=by simp
  have FL:¬(n.length+1<(58::n:List UInt8).length):=by simp
  rw[CY,hl,hd,if_neg FL];have te:(58::(n++lg q)).length =n.length+1+(lg q).length :=by simp;omega
  have oD:=aU.2 hw.1
  cases hr with
  |st wn wk hp oy=>simp only[rn] at tU;omega
  |ca=>simp only[rn] at tU;omega
  | @pa _ n2 pr h0 yV _ hh nN=>
   simp only[oZ,aM,true_and] at CY;subst CY;rcases hq with rfl|⟨r,rfl⟩
   ·simp only[lg,stepT,ta,oZ,tH,sw,rn,AG,rp]
    cases h0 with
    |none=>
     refine⟨_,rfl,fun s v hs=>?_,.pa (zE _ _ _) (fun s hs=>by rw[qq _ hs];exact nN s hs),rfl,rfl⟩;by_cases e:s=[]
     ·subst e;rw[hh] at hs;cases hs
     rw[nN s e] at hs;cases hs
    |some k=>
     refine⟨none,rfl,fun ha=>?_⟩;have:=ha _ _ hh;cases this
   have et:lg (.b 47::r)=47::lg r:=rfl;rw[et];have h1:¬((2:Nat)=2/\(47:UInt8)=47/\([]:List T0).length =1):=fun e=>by cases e.2.2
   have hc:(47:UInt8)≠58/\(47:UInt8)≠42/\(2:Nat)≠3:=by decide
   have hb:bump ([]++[(47:UInt8)]) (qe false [] (.node () [] [] false 0 0 none full []:T0)) (([]++[(47:UInt8)]).length -1)=([47],[.node () [] [] false 0 1 none full []],0):=rfl;obtain⟨t',i1,i2,i3,i4⟩:=Iq ((47::lg r).length +1) false (.b 47::r) 0 1 h full full (by rw[et];omega) nk ⟨47,r,rfl⟩ (.inl rfl);rw[et] at i1;simp only[stepT,ta,oZ,tH,sw,rn,AG,rp,Bu,idxOf,hc,ne_eq,not_false_eq_true,and_self,if_true,hb,dC,i1,dm];refine⟨_,rfl,fun s v hs=>?_,?_,rfl,rfl⟩
   ·by_cases e:s=[]
    ·subst e;rfl
    rw[nN s e] at hs;cases hs
   refine .pk (h:=h0) (full:=yV) (by rw[qq _ (by simp)];exact hh) (.inr rfl) ?_ i3 (fun s v hs=>?_) ⟨.b 47::r,(h,full),by simp,zE _ _ _⟩
   ·have:(fun s=>if s=[] then none else pM f (.b 47::r) (h,full) s)=one (.b 47::r) (h,full):=by
     funext s;by_cases e:s=[]
     ·subst e;rw[if_pos rfl,wR (by simp)]
     rw[if_neg e];unfold pM one;rw[nN s e]
    rw[this];exact i2
   rcases ya hs with rfl|hs
   ·exact .inr ⟨r,rfl⟩
   by_cases e:s=[]
   ·exact .inl e
   rw[nN s e] at hs;cases hs
  | @pk _ n2 idx pr h0 yV k _ hh vM hk oX ot mW=>
   simp only[oZ,aM,true_and] at CY;subst CY;rcases hq with rfl|⟨r,rfl⟩
   ·simp only[lg,stepT,ta,oZ,tH,sw,rn,AG,rp]
    cases h0 with
    |none=>
     refine⟨_,rfl,fun s v hs=>?_,.pk (zE _ _ _) vM ?_ oX (fun s v hs=>?_) ?_,rfl,rfl⟩
     ·rcases ot s v hs with rfl|⟨r,rfl⟩
      ·rw[hh] at hs;cases hs
      rfl
     ·have:(fun s=>if s=[] then none else pM f [] (h,full) s)=fun s=>if s=[] then none else f s:=by
       funext s;by_cases e:s=[]
       ·rw[if_pos e,if_pos e]
       rw[if_neg e,if_neg e,qq _ e]
      rw[this];exact hk
     ·rcases ya hs with rfl|hs
      ·exact .inl rfl
      exact ot s v hs
     obtain⟨s,v,h1,h2⟩:=mW
     exact⟨s,v,h1,by rw[qq _ h1];exact h2⟩
    |some k=>
     refine⟨none,rfl,fun ha=>?_⟩;have:=ha _ _ hh;cases this
   have et:lg (.b 47::r)=47::lg r:=rfl;have h1:(2:Nat)=2/\(47:UInt8)=47/\([k]:List T0).length =1:=⟨rfl,rfl,rfl⟩
   obtain⟨r2,rT,ho⟩:=Iz k.nL _ false 47 r full (nc+(58::n2).length) h hk.nL (by rw[wS];omega) nk (fun s v hs=>by
    split at hs
    ·cases hs
    rename_i e;rcases ot s v hs with rfl|h
    ·exact absurd rfl e
    exact h) (.inr (by rw[et] at te hg⊢;omega)) (by omega)
   rw[et] at rT⊢;simp only[stepT,ta,oZ,tH,sw,rn,AG,rp,Bu,h1,if_true,rT,dm,and_self];refine⟨_,rfl,?_⟩
   cases r2 with
   |none=>
    refine fun ha=>ho fun s v hs=>?_
    dsimp only at hs;split at hs
    ·cases hs
    exact ha s v hs
   |some k'=>
    obtain⟨o1,o2,o3⟩:=ho;rw[wS] at o3;refine⟨fun s v hs=>?_,.pk (by rw[qq _ (by simp)];exact hh) vM ?_ (o3.trans oX) (fun s v hs=>?_) ⟨.b 47::r,(h,full),by simp,zE _ _ _⟩,rfl,rfl⟩
    ·by_cases e:s=[]
     ·subst e;rfl
     exact o1 s v (by dsimp only;rw[if_neg e];exact hs)
    ·have:(fun s=>if s=[] then none else pM f (.b 47::r) (h,full) s)=pM (fun s=>if s=[] then none else f s) (.b 47::r) (h,full):=by
      funext s;by_cases e:s=[]
      ·subst e;rw[if_pos rfl,qq _ (by simp)];rfl
      unfold pM;dsimp only;rw[if_neg e,if_neg e]
     rw[this];exact o2
    rcases ya hs with rfl|hs
    ·exact .inr ⟨r,rfl⟩
    exact ot s v hs
end Gt
