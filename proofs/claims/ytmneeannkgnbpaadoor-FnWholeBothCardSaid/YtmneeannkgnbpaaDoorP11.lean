/- Lemmas of the walk and plain facts (GtP7 .. JgE18). -/
import Derived.Test.YtmneeannkgnbpaaDoorL1
import Derived.Test.YtmneeannkgnbpaaDoorL2
import Derived.Test.YtmneeannkgnbpaaDoorP10
import Derived.Test.YtmneeannkgnbpaaDoorP09
import Derived.Test.YtmneeannkgnbpaaDoorP01
import Derived.Tactics2
import Derived.Defers
import Derived.Recover
import Derived.Laws.Pointers
import Derived.WalkKit
import Derived.ProofKit
set_option maxRecDepth 100000
namespace Gt
open Gs Tr
variable {t':T0}
def Good (r:List Tok):Prop:=Ok false r/\∃q,r=.b 47::q
def xB (f:F) (k:Nat):List (List Tok)->F
 |[]=>f
 |r::rs=>xB (pM f r (k+1,lg r)) (k+1) rs
def TS (t:T0) (f:F):Prop:=(t=new/\f=fun _=>none)\/(oG true t f/\t.nt=1/\∀s v,f s=some v->∃r,s=.b 47::r)
theorem oG.nt1 {b path idx mm nt pr h full kids f} (x:oG b (.node () path idx mm nt pr h full kids) f) (hn:nt=0\/nt=1):oG b (.node () path idx mm 1 pr h full kids) f:=by
 have y:=x.Ir hn;exact(St.mk y.hp (.inr rfl) y.nG y.hh y.nj y.mM y.hlen y.hk y.oX y.mW y.nN y.hw y.qw y.hA y.q5:St b path idx mm 1 h full kids f).ur
theorem Eh {t:T0} {f:F} (pz:TS t f) {r:List Tok} (hr:Good r) (h:Nat):(Ap f r->∃t',vL t (lg r) h=some (some t')/\TS t' (pM f r (h,lg r)))/\(¬Ap f r->vL t (lg r) h=some none):=by
 obtain⟨nk,q,rfl⟩:=hr;rcases pz with⟨rfl,rfl⟩|⟨ye,pI,tc⟩
 ·refine⟨fun _=>?_,fun hn=>absurd (fun s v hs=>by cases hs) hn⟩;obtain⟨t',i1,i2,i3,i4⟩:=Iq ((lg (.b 47::q)).length +1) false (.b 47::q) 0 1 h [47] (lg (.b 47::q)) (by omega) nk ⟨47,q,rfl⟩ (.inl rfl)
  have e:vL new (lg (.b 47::q)) h=some (some (.node () t'.path t'.idx t'.mm 1 t'.pr t'.h t'.full t'.kids)):=by
   unfold vL;have e2:(new:T0).nL =.node () [] [] false 0 1 none [47] []:=rfl;simp only[e2,oZ,rp,and_self,if_true,i1,dm]
  refine⟨_,e,.inr ⟨?_,rfl,fun s v hs=>?_⟩⟩
  ·cases t' with
   |node a p i w n q2 h2 f2 k2=>
    exact oG.nt1 i2 (by simp only[rn] at i3;omega)
  rcases ya hs with rfl|hs
  ·exact⟨q,rfl⟩
  cases hs
 have uH:¬(t.nL.path=[]/\t.nL.kids=[]):=by
  rintro⟨h1,h2⟩;rw[CW] at h1;rw[NW] at h2
  cases ye with
  |pa=>cases pI
  |pk=>cases pI
  |ca=>cases pI
  |st wn wk hp oy nG hh nj mM hlen hk oX mW nN hw wu qw hA q5=>
   obtain⟨k,_,e,_⟩:=(St.mk hp oy nG hh nj mM hlen hk oX mW nN (fun e=>⟨wn,wk,(hw e).1,(hw e).2.1,(hw e).2.2.1,(hw e).2.2.2.1,(hw e).2.2.2.2.1,(hw e).2.2.2.2.2,wu e⟩) qw hA q5:St true _ _ _ _ _ _ _ f).head tc h1;simp only[rp] at h2;rw[h2] at e;cases e
 obtain⟨r,h1,h2⟩:=(Uh (4*(lg (.b 47::q)).length +8)).1 t.nL f false 47 q (lg (.b 47::q)) 0 h ye.nL (by rw[wS,pI];decide) nk tc (.inr (by omega)) (by omega)
 have e:vL t (lg (.b 47::q)) h=some r:=by
  unfold vL;simp only[uH,if_false,h1]
 constructor
 ·intro ha
  cases r with
  |none=>exact absurd ha h2
  |some t'=>
   obtain⟨_,o2,o3⟩:=h2;refine⟨t',e,.inr ⟨o2,by rw[o3,wS,pI],fun s v hs=>?_⟩⟩;rcases ya hs with rfl|hs
   ·exact⟨q,rfl⟩
   exact tc s v hs
 intro hn
 cases r with
 |none=>exact e
 |some t'=>exact absurd h2.1 hn
theorem Ul:∀{rs:List (List Tok)} {f:F} {k:Nat} {s v},xB f k rs s=some v->s∈rs\/f s=some v
 |[],f,k,s,v,h=>.inr h
 |r::rs,f,k,s,v,h=>by
  rcases Ul (rs:=rs) h with h|h
  ·exact .inl (.tail _ h)
  rcases ya h with rfl|h
  ·exact .inl (.head _)
  exact .inr h
theorem N7:∀(rs:List (List Tok)) (t:T0) (f:F) (k:Nat),TS t f->(∀r∈rs,Good r)->(∀r∈rs,Ap f r)->rs.Pairwise (fun a b=>apart a b=true)->∃t',rO t (rs.map lg) k=.inl t'/\TS t' (xB f k rs)
 |[],t,f,k,h,_,_,_=>⟨t,rfl,h⟩
 |r::rs,t,f,k,h,hg,ha,hp=>by
  obtain⟨t',h1,h2⟩:=(Eh h (hg r (.head _)) (k+1)).1 (ha r (.head _));obtain⟨tf,qZ⟩:=cA.1 hp
  obtain⟨t2,h3,h4⟩:=N7 rs t' _ (k+1) h2 (fun x hx=>hg x (.tail _ hx)) (fun x hx s v hs=>by
   rcases ya hs with rfl|hs
   ·rw[Fy];exact tf x hx
   exact ha x (.tail _ hx) s v hs) qZ
  exact⟨t2,by simp only[aX,rO,h1];exact h3,h4⟩
def tV (l:List UInt8):Prop:=l.length<=20000/\∀c∈l,c≠92
theorem tV.nil:tV []:=⟨by simp,by simp⟩
theorem tV.take {l} (h:tV l) (n:Nat):tV (l.take n):=⟨by have:=h.1;simp;omega,fun c hc=>h.2 c (dY hc)⟩
theorem tV.drop {l} (h:tV l) (n:Nat):tV (l.drop n):=⟨by have:=h.1;simp;omega,fun c hc=>h.2 c (dB hc)⟩
inductive NB:T0->Prop
 |mk {path idx:List UInt8} {mm:Bool} {nt pr:Nat} {h:Option Nat} {full:List UInt8} {kids:List T0} (hp:tV path) (hi:∀c∈idx,c≠92) (hf:tV full) (hk:∀k∈kids,NB k):NB (.node () path idx mm nt pr h full kids)
theorem NB.nL {t} (x:NB t):NB t.nL:=by cases x with|mk a b c d=>exact .mk a b c d
theorem K0 {w:Bool} {kids:List T0} {k x:T0} (h:x∈qe w kids k):x=k\/x∈kids:=by
 unfold qe at h;split at h
 ·rcases aB.1 h with h|h
  ·rcases aB.1 h with h|h
   ·exact .inr ((List.dropLast_sublist _).subset h)
   exact .inl (aj.1 h)
  right;rcases cV kids with e|⟨p,y,e⟩
  ·subst e;simp at h
  rw[cW] at e;subst e;simp at h;simp[h]
 rcases aB.1 h with h|h
 ·exact .inr h
 exact .inl (aj.1 h)
theorem Um:∀{p:List UInt8} {i:Nat} {wc:List UInt8} {j:Nat},fw p i=some (wc,j)->∀c∈wc,c∈p
 |[],_,_,_,h=>by cases h
 |a::p,i,wc,j,h=>by
  unfold fw at h;split at h
  ·cases h;intro c hc;rcases af.1 hc with rfl|hc
   ·exact .head _
   exact .tail _ ((dJ _).subset hc)
  intro c hc;exact .tail _ (Um h c hc)
theorem Un:∀{p:List UInt8} {i:Nat} {wc:List UInt8} {j:Nat},fw p i=some (wc,j)->wc.length<=p.length
 |[],_,_,_,h=>by cases h
 |a::p,i,wc,j,h=>by
  unfold fw at h;split at h
  ·cases h;have:=(dJ (· ≠(47:UInt8)) (l:=p)).length_le;rw[aI,aI];omega
  have:=Un h;simp;omega
theorem NB.ins:∀(g:Nat) (t:T0) (p full:List UInt8) (h:Nat) (t':T0),NB t->tV p->tV full->sF g t p full h=some (some t')->NB t'
 |0,_,_,_,_,_,_,_,_,h=>by cases h
 |g+1,.node () tp idx w nt pr h0 f0 kids,p,full,h,t',hn,hp,hf,hi=>by
  cases hn with
  |mk a b c d=>
  unfold sF at hi
  cases CK:fw p 0 with
  |none=>
   simp only[CK] at hi;cases hi
   exact .mk hp b hf d
  |some x=>
   obtain⟨wc,i⟩:=x;have uO:tV wc:=⟨br (Un CK) hp.1,fun c hc=>hp.2 c (Um CK c hc)⟩;simp only[CK] at hi
   have yP:tV (if 0<i then p.take i else tp):=by
    split
    ·exact hp.take _
    exact a
   split at hi
   ·cases hi
   split at hi
   ·split at hi
    ·obtain⟨r,h1,h2⟩:=aN.1 hi
     cases r with
     |none=>cases h2
     |some c2=>
      cases h2;have oc:=NB.ins g _ _ full h c2 (.mk .nil (by simp) hf (by simp)) ((hp.drop _).drop _) hf h1;refine .mk yP b c fun k hk=>?_
      rcases K0 hk with rfl|hk
      ·exact .mk uO (by simp) hf (fun k hk=>by rw[aj.1 hk];exact oc)
      exact d k hk
    cases hi;refine .mk yP b c fun k hk=>?_
    rcases K0 hk with rfl|hk
    ·exact .mk uO (by simp) hf (by simp)
    exact d k hk
   split at hi
   ·cases hi
   split at hi
   ·cases hi
   split at hi
   ·cases hi
   cases hi;refine .mk (hp.take _) (by decide) c fun k hk=>?_
   rcases K0 hk with rfl|hk
   ·refine .mk .nil (by simp) hf fun k hk=>?_
    rw[aj.1 hk];exact .mk (hp.drop _) (by simp) hf (by simp)
   exact d k hk
theorem Uo {β:Type} {l:List β} {pos np:Nat} {x:β} (og:np<=pos) (h:x∈oW l pos np):x∈l:=(AF l og).mem_iff.1 h
theorem mem_modify {l:List T0} {j:Nat} {x:T0} (h:x∈l.modify j nL):x∈l\/∃y∈l,x=y.nL:=by
 obtain⟨i,hi⟩:=bY h;rw[dA] at hi;obtain⟨y,h1,h2⟩:=aN.1 hi;split at h2
 ·exact .inr ⟨y,ap h1,h2.symm⟩
 exact .inl (by rw[<-h2];exact ap h1)
theorem NB.K2 {idx:List UInt8} {kids:List T0} {j:Nat} (hk:∀k∈kids,NB k):∀k∈(bump idx kids j).2.1,NB k:=fun k h=>by
 rcases mem_modify (Uo (D0 _ _ _) h) with h2|⟨y,h2,rfl⟩
 ·exact hk k h2
 exact(hk y h2).nL
theorem NB.Up {idx:List UInt8} {kids:List T0} {j:Nat} (hi:∀c∈idx,c≠92):∀c∈(bump idx kids j).1,c≠92:=fun c h=>by
 unfold bump at h;dsimp only at h;split at h
 ·exact hi c (Uo (D0 _ _ _) h)
 exact hi c h
theorem mem_set {l:List T0} {i:Nat} {y x:T0} (h:x∈l.set i y):x=y\/x∈l:=by
 rcases List.mem_or_eq_of_mem_set h with h|h
 ·exact .inr h
 exact .inl h
theorem NB.split {path idx:List UInt8} {mm:Bool} {nt pr:Nat} {h:Option Nat} {full:List UInt8} {kids:List T0} (x:NB (.node () path idx mm nt pr h full kids)) (i:Nat) {f2:List UInt8} (hf:tV f2):NB (Gt.split (.node () path idx mm nt pr h full kids) () i f2):=by
 cases x with
 |mk a b c d=>
  refine .mk (a.take _) (fun c hc=>a.2 c (dB (dY hc))) hf fun k hk=>?_
  rw[aj.1 hk];exact .mk (a.drop _) b c d
def FM (rec:T0->List UInt8->Nat->Option (Option T0)) (path idx:List UInt8) (mm:Bool) (nt pr:Nat) (h0:Option Nat) (f0:List UInt8) (kids:List T0) (full:List UInt8) (nc h:Nat):List UInt8->Option (Option T0)
 |[]=>if h0.isSome then some none else some (some (.node () path idx mm nt pr (some h) full kids))
 |c::rest=>
  if nt=2/\c=47/\kids.length=1 then
   match kids with
   |[k]=>(rec k.nL (c::rest) (nc+path.length)).map fun r=>r.map fun k'=>.node () path idx mm nt pr h0 f0 [k']
   |_=>none
  else match idxOf c idx with
  |some j=>
   match (bump idx kids j).2.1[(bump idx kids j).2.2]? with
   |some k=>(rec k (c::rest) (nc+path.length)).map fun r=>r.map fun k'=>.node () path (bump idx kids j).1 mm nt pr h0 f0 ((bump idx kids j).2.1.set (bump idx kids j).2.2 k')
   |none=>none
  |none=>
   if c≠58/\c≠42/\nt≠3 then
    match (bump (idx++[c]) (qe mm kids (.node () [] [] false 0 0 none full [])) ((idx++[c]).length -1)).2.1[(bump (idx++[c]) (qe mm kids (.node () [] [] false 0 0 none full [])) ((idx++[c]).length -1)).2.2]? with
    |some k=>(sF ((c::rest).length +1) k (c::rest) full h).map fun r=>r.map fun k'=>.node () path (bump (idx++[c]) (qe mm kids (.node () [] [] false 0 0 none full [])) ((idx++[c]).length -1)).1 mm nt pr h0 f0 ((bump (idx++[c]) (qe mm kids (.node () [] [] false 0 0 none full [])) ((idx++[c]).length -1)).2.1.set (bump (idx++[c]) (qe mm kids (.node () [] [] false 0 0 none full [])) ((idx++[c]).length -1)).2.2 k')
    |none=>none
   else if mm then
    match kids.getLast? with
    |some k0=>
     if k0.nL.path.length<=(c::rest).length /\(c::rest).take k0.nL.path.length=k0.nL.path/\k0.nL.nt≠3/\((c::rest).length <=k0.nL.path.length\/(c::rest)[k0.nL.path.length]? =some 47) then
      (rec k0.nL (c::rest) nc).map fun r=>r.map fun k'=>.node () path idx mm nt pr h0 f0 (kids.dropLast++[k'])
     else some none
    |none=>none
   else sF ((c::rest).length +1) (.node () path idx mm nt pr h0 f0 kids) (c::rest) full h
theorem ID (rec:T0->List UInt8->Nat->Option (Option T0)) (path idx:List UInt8) (mm:Bool) (nt pr:Nat) (h0:Option Nat) (f0:List UInt8) (kids:List T0) (full:List UInt8) (nc h:Nat) (p:List UInt8):stepT rec (.node () path idx mm nt pr h0 f0 kids) full nc h p=FM rec path idx mm nt pr h0 f0 kids full nc h p:=by
 cases p<;>rfl
theorem NB.step {rec:T0->List UInt8->Nat->Option (Option T0)} {t:T0} {full p:List UInt8} {nc h:Nat} (yW:∀k q k',NB k->rec k p q=some (some k')->NB k') (x:NB t) (hp:tV p) (hf:tV full) (hs:stepT rec t full nc h p=some (some t')):NB t':=by
 cases x with
 | @mk path idx mm nt pr h0 yV kids a b c d=>
 rw[ID] at hs
 cases p with
 |nil=>
  simp only[FM] at hs;split at hs
  ·cases hs
  cases hs;exact .mk a b hf d
 |cons e q=>
  simp only[FM] at hs;split at hs
  ·split at hs
   ·rename_i k hk;obtain⟨r,h1,h2⟩:=aN.1 hs
    cases r with
    |none=>cases h2
    |some k'=>
     cases h2;refine .mk a b c fun x hx=>?_
     rw[aj.1 hx];exact yW _ _ _ (d k (.head _)).nL h1
   cases hs
  split at hs
  ·split at hs
   ·rename_i k hk;obtain⟨r,h1,h2⟩:=aN.1 hs
    cases r with
    |none=>cases h2
    |some k'=>
     cases h2;refine .mk a (NB.Up b) c fun x hx=>?_
     rcases mem_set hx with rfl|hx
     ·exact yW _ _ _ (NB.K2 d k (ap hk)) h1
     exact NB.K2 d x hx
   cases hs
  have d2:∀k∈qe mm kids (.node () [] [] false 0 0 none full []),NB k:=fun k hk=>by
   rcases K0 hk with rfl|hk
   ·exact .mk .nil (by simp) hf (by simp)
   exact d k hk
  have b2:∀c∈idx++[e],c≠92:=fun c hc=>by
   rcases aB.1 hc with hc|hc
   ·exact b c hc
   rw[aj.1 hc];exact hp.2 e (.head _)
  split at hs
  ·split at hs
   ·rename_i k hk;obtain⟨r,h1,h2⟩:=aN.1 hs
    cases r with
    |none=>cases h2
    |some k'=>
     cases h2;refine .mk a (NB.Up b2) c fun x hx=>?_
     rcases mem_set hx with rfl|hx
     ·exact NB.ins _ _ _ _ _ _ (NB.K2 d2 k (ap hk)) hp hf h1
     exact NB.K2 d2 x hx
   cases hs
  split at hs
  ·split at hs
   ·rename_i k0 od;split at hs
    ·obtain⟨r,h1,h2⟩:=aN.1 hs
     cases r with
     |none=>cases h2
     |some k'=>
      cases h2;refine .mk a b c fun x hx=>?_
      rcases aB.1 hx with hx|hx
      ·exact d x ((List.dropLast_sublist _).subset hx)
      rw[aj.1 hx];exact yW _ _ _ (d k0 (List.mem_of_getLast? od)).nL h1
    cases hs
   cases hs
  exact NB.ins _ _ _ _ _ _ (.mk a b c d) hp hf hs
theorem NB.walk:∀(g:Nat) (t:T0) (p full:List UInt8) (nc h:Nat) (t':T0),NB t->tV p->tV full->wv g t p full nc h=some (some t')->NB t'
 |0,_,_,_,_,_,_,_,_,_,h=>by cases h
 |g+1,t,p,full,nc,h,t',hn,hp,hf,hw=>by
  rw[KW] at hw;refine NB.step (fun k q k' hk hr=>NB.walk g k _ full q h k' hk (hp.drop _) hf hr) ?_ (hp.drop _) hf hw;split
  ·cases t with
   |node a=>exact NB.split hn _ (hf.take _)
  exact hn
theorem NB.add {t:T0} {p:List UInt8} {h:Nat} (hn:NB t) (hp:tV p) (ha:vL t p h=some (some t')):NB t':=by
 unfold vL at ha;dsimp only at ha;split at ha
 ·obtain⟨r,h1,h2⟩:=aN.1 ha
  cases r with
  |none=>cases h2
  |some t2=>
   cases h2;have:=NB.ins _ _ _ _ _ _ hn.nL hp hp h1
   cases this with
   |mk a b c d=>exact .mk a b c d
 exact NB.walk _ _ _ _ _ _ _ hn.nL hp hp ha
theorem NB.new:NB new:=.mk .nil (by simp) ⟨by simp,by decide⟩ (by simp)
theorem NB.all:∀(rs:List (List UInt8)) (t:T0) (k:Nat) (t':T0),NB t->(∀r∈rs,tV r)->rO t rs k=.inl t'->NB t'
 |[],t,k,t',h,_,e=>by cases e;exact h
 |r::rs,t,k,t',h,hr,e=>by
  unfold rO at e;split at e
  ·rename_i t2 h2;exact NB.all rs t2 (k+1) t' (h.add (hr r (.head _)) h2) (fun x hx=>hr x (.tail _ hx)) e
  cases e
end Gt
namespace Go.Proofs
open Go Bw Gt
variable {Hn Hr:SH} {na:Option T0}
def IE (R:Ending->World->Prop) (w:World) (D:Nat->Prop) (hb num:Nat) (full:List UInt8) (k:T0) (p:List UInt8) (nc:Nat) (r:Option T0):Prop:=
 ∀(cb:Nat) (qE tT:SH) (bc:SF),HT k cb qE->Sub [(0,Pt cb 0),(1,S p),(2,Sx hb 1 1),(6,S full),(7,I (nc:Int))] bc->
  (∀t',r=some t'->∀nC w',HT t' cb nC->HF w D (nC++tT) w'->R (.returned (.tuple #[])) w')->(r=none->∀e w',wP e->HF w D [] w'->R e w')->
  GC Tryd.prog ⟨57,Tryd.f57,R,w,D⟩ 377 FB bc (qE++(Rx hb [I (num:Int)] 3::tT))
theorem IF {R:Ending->World->Prop} {w:World} {D:Nat->Prop} {nb hb num nc i:Nat} {p full tp idx:List UInt8} {wl:Bool} {nt pr:Nat} {h0:Option Nat} {f0:List UInt8} {kids:List T0} {bs:List Nat} {kv hv:Value} {Hs Hh Hk:SH} {fr:SF} {rec:T0->List UInt8->Nat->Option (Option T0)}
  (hs:Own 84 1 kv kids.length (bs.map (Pt · 0)) Hs) (hh:HV h0 hv Hh) (hk:oq kids bs Hk) (mM:p.length<=100000) (qv:full.length<=100000) (vo:nc+p.length<=full.length) (xV:i<=p.length) (Az:tp.length=i)
  (mU:Sub [(0,Pt nb 0),(1,S p),(2,Sx hb 1 1),(6,S full),(7,I (nc:Int)),(8,I (i:Nat))] fr) (sQ:p<:+full)
  (F1:kids.length<=90000) (F2:(∃k,nt=2/\kids=[k]/\∀c,p[i]? =some c->c=47)\/kids.length=idx.length+wl.toNat) (F3:∀k∈kids,k.path.length<=100000) (F4:tp.length<=100000)
  {s':List Tok} {sl:Bool} (nk:Ok sl s') (uQ:p.drop i=lg s') (oE:∀c∈lg s',c≠92) (mO:FM rec tp idx wl nt pr h0 f0 kids full nc num (p.drop i)=some na)
  (qA:∀k r,kids=[k]->nt=2->p[i]? =some 47->rec k.nL (p.drop i) (nc+tp.length)=some r->IE R w D hb num full k.nL (p.drop i) (nc+tp.length) r)
  (vM:∀j c k r,p[i]? =some c->¬(nt=2/\c=47/\kids.length=1)->idxOf c idx=some j->(bump idx kids j).2.1[(bump idx kids j).2.2]? =some k->rec k (p.drop i) (nc+tp.length)=some r->IE R w D hb num full k (p.drop i) (nc+tp.length) r)
  (abc:∀k0 r,wl=true->kids.getLast? =some k0->k0.nt≠3->(p.drop i).take k0.path.length=k0.path->((p.drop i).length <=k0.path.length\/(p.drop i)[k0.path.length]? =some 47)->rec k0.nL (p.drop i) nc=some r->IE R w D hb num full k0.nL (p.drop i) nc r)
  (fin:∀t',na=some t'->∀nC w',HT t' nb nC->HF w D (nC++Hr) w'->R (.returned (.tuple #[])) w') (sj:na=none->∀e w',wP e->HF w D [] w'->R e w'):
  GC Tryd.prog ⟨57,Tryd.f57,R,w,D⟩ 377 CN fr (Rx nb (mu tp idx wl nt pr kv hv f0) 115::((Hs++(Hh++Hk))++(Rx hb [I (num:Int)] 3::Hr))):=by
 have nn:(p.drop i).length <=100000:=by rw[aA];omega
 cases wA:p.drop i with
 |nil=>
  have vh:i=p.length:=by have:=congrArg List.length wA;simp at this;omega
  rw[wA] at mO;simp only[FM] at mO
  cases h0 with
  |none=>
   simp at mO
   exact aat hs hh hk mM qv vo xV Az mU vh rfl (fin _ mO.symm)
  |some k=>
   simp at mO
   exact aav hs hh hk mM qv vo xV Az mU vh rfl (sj mO.symm)
 |cons c rest=>
  have mS:i<p.length:=by
   rcases cn i p.length with h|h
   ·exact h
   rw[gh h] at wA;cases wA
  have hc:p[i]? =some c:=by
   have:(p.drop i)[0]? =some c:=by rw[wA];rfl
   rwa[bL] at this
  rw[wA] at mO;simp only[FM] at mO;have zH:(c::rest)<:+full:=by rw[<-wA];exact(ef _ _).trans sQ
  split at mO
  ·rename_i Ay;obtain⟨e1,rfl,e3⟩:=Ay;split at mO
   ·rename_i k;obtain⟨r,h1,h2⟩:=aN.1 mO;refine aaw hs hh hk mM qv vo xV Az mU mS hc rfl e1 rfl fun cb qE tT bc p6 back yT=>?_
    refine qA k r rfl e1 hc (by rw[wA];exact h1) cb qE tT bc p6 yT (fun t' ht nC w' Ct ia=>?_) (fun hr=>sj (by rw[<-h2,hr];rfl));obtain⟨rU,h3,h4⟩:=back t' nC Ct;exact fin _ (by rw[<-h2,ht];rfl) rU w' h3 (ia.perm h4)
   cases mO
  rename_i og
  have Uq:kids.length=idx.length+wl.toNat:=by
   rcases F2 with⟨k,h1,h2,h3⟩|h
   ·exact absurd ⟨h1,h3 c hc,by rw[h2];rfl⟩ og
   exact h
  split at mO
  ·rename_i j hj;split at mO
   ·rename_i k nZ;obtain⟨r,h1,h2⟩:=aN.1 mO;refine aax hs hh hk mM qv vo xV Az mU mS hc og F1 (by omega) hj nZ fun cb qE tT bc p6 back yT=>?_
    refine vM j c k r hc og hj nZ (by rw[wA];exact h1) cb qE tT bc p6 yT (fun t' ht nC w' Ct ia=>?_) (fun hr=>sj (by rw[<-h2,hr];rfl));obtain⟨rU,h3,h4⟩:=back t' nC Ct;exact fin _ (by rw[<-h2,ht];rfl) rU w' h3 (ia.perm h4)
   cases mO
  rename_i hj;refine aaz hs hh hk mM qv vo xV Az mU mS hc og F1 (by omega) hj fun bc yT=>?_
  rw[wA] at yT nn uQ;split at mO
  ·rename_i Ay;obtain⟨c58,c42,n3⟩:=Ay;have pW:(idx++[c]).length -1=idx.length:=by simp
   rw[pW] at mO;split at mO
   ·rename_i k nZ;obtain⟨r,h1,h2⟩:=aN.1 mO;refine aaC hs hh hk nn qv yT c58 c42 n3 F1 Uq nZ fun cb qE tT sU p6 back tI=>?_
    have um:k=.node () [] [] false 0 1 none full []:=by
     obtain⟨np,ND,hb⟩:=KX (idx++[c]) (qe wl kids (.node () [] [] false 0 0 none full [])) (j:=idx.length) (by simp);obtain⟨g1,g2,g3,g4⟩:=Iu Uq (.node () [] [] false 0 0 none full []);rw[hb] at nZ;dsimp only at nZ;rw[xW _ ND (by rw[dt,g4];omega),if_neg (by omega),if_pos rfl,dA,g2] at nZ;simp[Tr.nL,Tr.Nz,Tr.pr] at nZ;exact nZ.symm
    subst um;rw[uQ] at h1 tI;refine TV qv _ sl s' _ r nk oE (by rw[<-uQ];exact nn) (by simp[Tr.kids]) (by simp[Tr.path]) (by simp[Tr.kids]) p6 h1 tI (fun t' ht nC w' Ct ia=>?_) (fun hr=>sj (by rw[<-h2,hr];rfl));obtain⟨rU,h3,h4⟩:=back t' nC Ct;exact fin _ (by rw[<-h2,ht];rfl) rU w' h3 (ia.perm h4)
   cases mO
  rename_i Ay
  have AD:c=58\/c=42\/nt=3:=by
   by_cases e1:c=58
   ·exact .inl e1
   by_cases e2:c=42
   ·exact .inr (.inl e2)
   exact .inr (.inr (cg fun e3=>Ay ⟨e1,e2,e3⟩))
  split at mO
  ·rename_i rl;split at mO
   ·rename_i k0 od;have N8:kids[kids.length-1]? =some k0:=by rw[<-c8];exact od
    have Ur:=List.mem_of_getLast? od;rw[CW,wS] at mO;split at mO
    ·rename_i ui;obtain⟨r,h1,h2⟩:=aN.1 mO;refine aaE hs hh hk nn qv yT AD rl F1 N8 (F3 k0 Ur) ui fun cb qE tT sU p6 back tI=>?_
     have:=abc k0 r rl od ui.2.2.1 (by rw[wA];exact ui.2.1) (by rw[wA];exact ui.2.2.2) (by rw[wA];exact h1);rw[wA] at this;refine this cb qE tT sU p6 tI (fun t' ht nC w' Ct ia=>?_) (fun hr=>sj (by rw[<-h2,hr];rfl));obtain⟨rU,h3,h4⟩:=back t' nC Ct
     have qh:kids.length=kids.length-1+1:=by
      have:=(ae.1 N8).1;omega
     refine fin _ (by rw[<-h2,ht,dm,Uc qh]) rU w' h3 (ia.perm h4)
    rename_i ui;exact aaG hs hh hk nn qv yT AD rl F1 N8 (F3 k0 Ur) ui zH (sj (by cases mO;rfl))
   cases mO
  rename_i rl;have abf:wl=false:=by simpa using rl
  refine aaD hs hh hk nn qv yT AD abf fun sU tI=>?_
  rw[uQ] at mO tI;refine TV qv _ sl s' (.node () tp idx wl nt pr h0 f0 kids) na nk oE (by rw[<-uQ];exact nn) F1 F4 F3 (HT.mk hs hh hk) mO tI fin sj
theorem Us {l:List UInt8} (h:l.Nodup):l.length<=256:=by
 have:=h.length_le_of_subset (l₂:=(List.range 256).map UInt8.ofNat) fun x _=>by
  rw[aZ];exact⟨x.toNat,by rw[List.mem_range];exact x.toNat_lt,by simp⟩
 simpa using this
def Bd (f:F):Prop:=∀s v,f s=some v->(lg s).length <=100000
theorem II (p:List UInt8) (s:List Tok):(lg (bs p++s)).length =p.length+(lg s).length :=by rw[CI,Fx,ax]
theorem Bd.at {f:F} (h:Bd f) (p:List UInt8) (c:UInt8):Bd (at_ f p c):=fun s v hs=>by
 unfold at_ at hs;split at hs
 ·have:=h _ v hs;rw[II] at this;omega
 cases hs
theorem Bd.P {f:F} (h:Bd f) (p wn:List UInt8):Bd (fun s=>f (bs p++.P wn::s)):=fun s v hs=>by
 have:=h _ v hs;rw[II] at this;simp[lg] at this;omega
theorem _root_.Gt.oG.ex {t:T0} {f:F} (x:oG true t f) (hn:t.nt≠2):∃s v,f s=some v:=by
 cases x with
 |pa=>exact absurd rfl hn
 |pk=>exact absurd rfl hn
 |ca=>exact⟨_,_,x9 _ _⟩
 |st wn wk hp oy nG hh nj mM hlen hk oX mW nN hw wu qw hA q5=>
  rcases q5 rfl with h1|h1|h1|⟨k0,h1,h2,h3⟩
  ·obtain⟨k,rfl⟩:=b7.1 h1;exact⟨_,_,hh⟩
  ·obtain⟨_,_,_,_,⟨s,v,h5⟩,_⟩:=hw h1;exact⟨_,v,h5⟩
  ·obtain⟨d,l,rfl⟩:=List.exists_cons_of_length_pos (Nat.lt_of_lt_of_le Nat.zero_lt_two h1);obtain⟨s,v,h5⟩:=mW d (.head _);exact⟨_,v,h5⟩
  subst h1;obtain⟨s,v,h5⟩:=mW 47 (.head _);exact⟨_,v,h5⟩
theorem _root_.Gt.oG.K3 {t:T0} {f:F} (x:oG true t f) (hn:t.nt≠2) (hb:Bd f):t.path.length<=100000:=by
 obtain⟨s,v,hs⟩:=x.ex hn
 cases x with
 |pa=>exact absurd rfl hn
 |pk=>exact absurd rfl hn
 |ca=>simp[Tr.path]
 |st wn wk hp oy nG=>
  obtain⟨r,rfl⟩:=nG s v hs;have:=hb _ v hs;rw[II] at this;simp only[oZ];omega
theorem _root_.Gt.St.abg {path idx:List UInt8} {mm:Bool} {nt:Nat} {h0:Option Nat} {f0:List UInt8} {kids:List T0} {f:F} (x:St true path idx mm nt h0 f0 kids f) (hb:Bd f):∀k∈kids,k.path.length<=100000:=fun k hk=>by
 obtain⟨j,hj⟩:=bY hk;have oC:=(ae.1 hj).1;rcases cn j idx.length with h|h
 ·have:=x.oX j k h hj;exact oG.K3 (x.hk j _ k (ao h) hj) (by omega) (hb.at _ _)
 cases mm with
 |false=>have:=x.hlen;simp at this;omega
 |true=>
  have hl:=x.hlen;simp at hl;obtain⟨wn,wk,h1,h2,h3,h4,⟨s,v,h5⟩,_⟩:=x.hw rfl;have e:j=idx.length:=by omega
  subst e;rw[h1] at hj;cases hj;rw[h4];have:=hb _ v h5;rw[II] at this;simp[lg] at this;simp;omega
theorem Ut (n:Nat) (tp idx:List UInt8) (wl:Bool) (nt pr:Nat) (h0:Option Nat) (f0:List UInt8) (kids:List T0) (p full:List UInt8) (nc h:Nat):wv (n+1) (.node () tp idx wl nt pr h0 f0 kids) p full nc h=Gt.stepT (fun k p q=>wv n k p full q h) (if Gs.mK p tp<tp.length then Gt.split (.node () tp idx wl nt pr h0 f0 kids) () (Gs.mK p tp) (full.take (nc+Gs.mK p tp)) else .node () tp idx wl nt pr h0 f0 kids) full nc h (p.drop (Gs.mK p tp)):=KW _ _ _ _ _ _
theorem Uu {R:Ending->World->Prop} {w:World} {D:Nat->Prop} {hb num:Nat} {full:List UInt8} (qv:full.length<=100000) (N9:∀c∈full,c≠92):∀(g:Nat),
  (∀(t:T0) (f:F) (sl:Bool) (c:UInt8) (q:List Tok) (nc:Nat) (na:Option T0),oG true t f->t.nt≠2->Ok sl (.b c::q)->(∀s v,f s=some v->∃r,s=.b c::r)->Bd f->lg (.b c::q)<:+full->nc+(lg (.b c::q)).length <=full.length->wv g t (lg (.b c::q)) full nc num=some na->IE R w D hb num full t (lg (.b c::q)) nc na)/\
  (∀(t:T0) (f:F) (n:List UInt8) (q:List Tok) (nc:Nat) (na:Option T0),oG true t f->t.nt=2->t.path=58::n->word n->(q=[]\/∃r,q=.b 47::r)->Ok false q->Bd f->(58::(n++lg q))<:+full->nc+(58::(n++lg q)).length <=full.length->wv g t (58::(n++lg q)) full nc num=some na->IE R w D hb num full t (58::(n++lg q)) nc na)
 |0=>⟨fun _ _ _ _ _ _ _ _ _ _ _ _ _ _ h=>(by cases h),fun _ _ _ _ _ _ _ _ _ _ _ _ _ _ _ h=>(by cases h)⟩
 |g+1=>by
  obtain⟨Iz,N6⟩:=Uu (R:=R) (w:=w) (D:=D) (hb:=hb) (num:=num) qv N9 g;constructor
  ·intro t f sl c q nc na hr tU nk tc hb sQ vo sJ nb Hn Hr fr ht mU fin sj;have mM:(lg (.b c::q)).length <=100000:=br sQ.length_le qv
   cases ht with
   | @mk path idx mm nt pr h0 yV kids _ Oa kv hv Hs Hh Hk hs hh hk=>
   refine TI hs hh hk mM qv vo mU fun vp IJ pI uR=>?_
   rw[Ut] at sJ;have oE:∀c'∈lg (.b c::q),c'≠92:=fun c' qj=>N9 c' (sQ.subset qj)
   cases hr with
   |pa=>exact absurd rfl tU
   |pk=>exact absurd rfl tU
   | @ca _ _ vT ajn _ wQ n hn=>
    obtain⟨r,e⟩:=tc _ _ (x9 _ _);simp at e;have hc:c=47:=e.1.symm;subst hc;have hl:Gs.mK (lg (.b 47::q)) []=0:=Gs.HY _;rw[hl,cm,if_neg (gi _)] at sJ pI;rw[hl] at uR;rw[ID] at sJ;have pB:=hb _ _ (x9 _ _);simp[lg] at pB
    cases pI with
    | @mk _ _ _ _ _ _ _ _ _ Ob Oc Od rV Oe qE px us p6=>
    refine IF px us p6 mM qv vo (bM _) rfl uR sQ (by simp) (.inr rfl) (fun k hk=>by rw[aj.1 hk];simp[Tr.path];omega) (by simp) (s':=.b 47::q) nk rfl oE sJ (fun _ _ _ e=>by cases e) (fun j c k r _ _ hj=>by cases hj) (fun k0 r _ od uo=>by
     simp at od;subst od;exact absurd rfl uo) fin sj
   | @st _ _ _ _ _ _ _ _ _ _ wn wk hp oy nG Ij nj KM hlen ow oX mW nN hw wu qw hA q5=>
    have X:St true path idx mm nt h0 yV kids f:=(oG.st (pr:=pr) wn wk hp oy nG Ij nj KM hlen ow oX mW nN hw wu qw hA q5).Ir oy;obtain⟨i,s',hi,qG,hl,hd,Eg⟩:=NF path (.b c::q) hp;obtain⟨Iy,yd⟩:=Ug (qG▸nk);have oO:i<=(lg (.b c::q)).length :=by have:=(Gs.zu (lg (.b c::q)) path).1;omega
    rw[hl] at sJ pI uR;have IK:∀c'∈lg s',c'≠92:=fun c' qj=>oE c' (dB (hd▸qj))
    have Uv:∀c',(lg (.b c::q))[i]? =some c'->∀d q',s'=.b d::q'->c'=d:=fun c' qj d q' e=>by
     have:((lg (.b c::q)).drop i)[0]? =some c':=by rw[bL];exact qj
     rw[hd,e] at this;simpa[lg] using this.symm
    have abh:∀c',(lg (.b c::q))[i]? =some c'->∀j,idxOf c' idx=some j->∃q',s'=.b c'::q':=fun c' qj j hj=>by
     have h1:(lg s')[0]? =some c':=by rw[<-hd,bL];exact qj
     have h2:=KM c' (ap (Eb hj))
     match s',h1 with
     |.b d::q',h1=>exact⟨q',by simp[lg] at h1;rw[h1]⟩
     |.P m::q',h1=>simp[lg] at h1;exact absurd h1.symm h2.1
     |.A m::q',h1=>simp[lg] at h1;exact absurd h1.symm h2.2
    by_cases mS:i<path.length
    ·obtain⟨x,hx⟩:=gx mS
     have e0:Gt.split (.node () path idx mm nt pr h0 yV kids) () i (full.take (nc+i))=.node () (path.take i) [x] false nt pr none (full.take (nc+i)) [.node () (path.drop i) idx mm 0 (pr+4294967295) h0 yV kids]:=by
      unfold Gt.split;simp only[ta,oZ,tH,sw,rn,AG,rp,Bu,take_one hx]
     rw[if_pos mS,e0] at sJ pI;rw[ID] at sJ;have K4:=X.ur (pr:=pr)|>.K3 (by simp only[rn];omega) hb;simp only[oZ] at K4
     cases pI with
     | @mk _ _ _ _ _ _ _ _ _ Ob Oc Od rV Oe qE px us p6=>
     refine IF px us p6 mM qv vo oO (by simp;omega) uR sQ (by simp) (.inr rfl) (fun k hk=>by rw[aj.1 hk];simp[Tr.path];omega) (by simp;omega) (s':=s') yd hd IK sJ (fun _ _ _ e=>by omega) (fun j c' k r qj _ hj=>by
       have rG:c'=x:=by
        have:=ap (Eb hj);simpa using this
       subst rG;have h1:(lg s')[0]? =some c':=by rw[<-hd,bL];exact qj
       have oH:=hp c' (ap hx);have Of:=Eg c' hx;exfalso
       match s',h1,Of with
       |.b d::q',h1,Of=>simp[lg] at h1;exact Of (by rw[h1];rfl)
       |.P m::q',h1,_=>simp[lg] at h1;exact oH.1 h1.symm
       |.A m::q',h1,_=>simp[lg] at h1;exact oH.2 h1.symm) (fun k0 r e=>by cases e) fin sj
    have vh:i=path.length:=by omega
    subst vh;rw[if_neg mS] at sJ pI;rw[ID] at sJ;rw[b8] at qG;have rY:(lg (.b c::q)).length =path.length+(lg s').length :=by rw[qG,II]
    have qK:=Us nj;have hwb:mm.toNat<=1:=by cases mm<;>simp
    have K4:=X.ur (pr:=pr)|>.K3 (by simp only[rn];omega) hb;simp only[oZ] at K4
    cases pI with
    | @mk _ _ _ _ _ _ _ _ _ Ob Oc Od rV Oe qE px us p6=>
    refine IF px us p6 mM qv vo oO rfl uR sQ (by omega) (.inr hlen) (X.abg hb) K4 (s':=s') yd hd IK sJ (fun _ _ _ e=>by omega) (fun j c' k r qj _ hj nZ yW=>?_) (fun k0 r rl od uo oB yf yW=>?_) fin sj
    ·obtain⟨q',rfl⟩:=abh c' qj j hj;have Ee:=Eb hj;have oC:=(ae.1 Ee).1;obtain⟨np,og,qD⟩:=KX idx kids oC;rw[qD] at nZ;dsimp only at nZ;rw[xW _ og (by rw[dt];omega),if_neg (by omega),if_pos rfl,dA] at nZ;obtain⟨k1,Uw,e1⟩:=aN.1 nZ;simp at e1;subst e1;have FK:=ow j c' k1 Ee Uw;have aa9:=oX j k1 oC Uw;rw[hd] at yW⊢;exact Iz k1.nL (at_ f path c') Iy c' q' (nc+path.length) r FK.nL (by rw[wS];omega) yd KZ (hb.at _ _) (by rw[<-hd];exact(ef _ _).trans sQ) (by omega) yW
    subst rl;obtain⟨Iw,KU,h1,h2,h3,h4,h5,h6,h7⟩:=X.hw rfl;have Bx:kids.length=idx.length+1:=by simpa using hlen
    have zF:kids.getLast? =some KU:=by rw[c8,Bx];exact h1
    rw[zF] at od;cases od;rw[h4] at oB yf;rw[hd] at yW oB yf⊢
    match s',yd with
    |[],_=>simp[lg] at oB
    |.b d::q',yd=>simp[lg] at oB;exact absurd oB.1 yd.1.1
    |.A m::q',_=>simp[lg] at oB
    |.P m::q',yd=>
     obtain⟨_,Ef,hq,tS⟩:=yd;have e:=Ue Ef h2 hq oB yf;subst e
     exact N6 k0.nL _ m q' nc r h7.nL (by rw[wS];exact h3) (by rw[CW];exact h4) h2 hq tS (hb.P _ _) (by
      have:(58::(m++lg q'))=(lg (.b c::q)).drop path.length:=hd.symm
      rw[this];exact(ef _ _).trans sQ) (by
      have:(lg (.P m::q')).length =(58::(m++lg q')).length :=rfl
      omega) yW
  intro t f n q nc na hr tU CY hw hq nk hb sQ vo sJ nb Hn Hr fr ht mU fin sj;have mM:(58::(n++lg q)).length <=100000:=br sQ.length_le qv
  have hl:Gs.mK (58::(n++lg q)) (58::n)=n.length+1:=by
   have:=Gs.Nt (58::n) (lg q) [];rw[aS,Gs.HY] at this;exact this
  have hd:(58::(n++lg q)).drop (n.length+1)=lg q:=by simp
  have FL:¬(n.length+1<(58::n:List UInt8).length):=by simp
  have te:(58::(n++lg q)).length =n.length+1+(lg q).length :=by simp;omega
  have IK:∀c'∈lg q,c'≠92:=fun c' qj=>N9 c' (sQ.subset (by simp[qj]))
  have oO:n.length+1<=(58::(n++lg q)).length :=by omega
  cases ht with
  | @mk path idx mm nt pr h0 yV kids _ Oa kv hv Hs Hh Hk hs hh hk=>
  simp only[oZ] at CY;subst CY;refine TI hs hh hk mM qv vo mU fun vp IJ pI uR=>?_
  rw[Ut] at sJ;rw[hl] at sJ pI uR;rw[if_neg FL] at sJ pI;rw[ID] at sJ
  cases pI with
  | @mk _ _ _ _ _ _ _ _ _ Ob Oc Od rV Oe qE px us p6=>
  cases hr with
  |st wn wk hp oy=>simp only[rn] at tU;omega
  |pa Ij nN=>
   refine IF px us p6 mM qv vo oO (by simp) uR sQ (by simp) (.inr rfl) (by simp) (by simp;omega) (s':=q) nk hd IK sJ (fun _ _ e=>by cases e) (fun j c' k r _ _ hj=>by cases hj) (fun k0 r e=>by cases e) fin sj
  | @pk _ _ _ _ _ _ k _ Ij vM FK oX ot mW=>
   have Ux:∀c',(58::(n++lg q))[n.length+1]? =some c'->c'=47:=fun c' qj=>by
    have:((58::(n++lg q)).drop (n.length+1))[0]? =some c':=by rw[bL];exact qj
    rw[hd] at this;rcases hq with rfl|⟨r,rfl⟩
    ·simp[lg] at this
    simp[lg] at this;exact this.symm
   have qh:k.path.length<=100000:=oG.K3 FK (by omega) fun s v hs=>by
    split at hs
    ·cases hs
    exact hb s v hs
   refine IF px us p6 mM qv vo oO (by simp) uR sQ (by simp) (.inl ⟨k,rfl,rfl,Ux⟩) (fun k2 ow=>by rw[aj.1 ow];exact qh) (by simp;omega) (s':=q) nk hd IK sJ (fun k2 r e _ qj yW=>?_) (fun j c' k r qj og=>absurd ⟨rfl,Ux c' qj,rfl⟩ og) (fun k0 r e=>by cases e) fin sj;cases e;rw[hd] at yW⊢;rcases hq with rfl|⟨r2,rfl⟩
   ·rw[dq (by simp[lg])] at qj;cases qj
   refine Iz k.nL _ false 47 r2 (nc+(58::n).length) r FK.nL (by rw[wS];omega) nk (fun s v hs=>?_) (fun s v hs=>?_) (by rw[<-hd];exact(ef _ _).trans sQ) (by rw[te] at vo;simp;omega) yW
   ·split at hs
    ·cases hs
    rename_i e;rcases ot s v hs with rfl|h
    ·exact absurd rfl e
    exact h
   split at hs
   ·cases hs
   exact hb s v hs
theorem abi (w:World) (D:Nat->Prop) {nb hb num cap:Nat} {ad:Option Addr} {Hs:SH} (hs:Own 84 1 (.slice ad 0 cap) 0 [] Hs) {r:List Tok} (hr:Gt.Good r) (hl:(lg r).length <=100000) (oE:∀c∈lg r,c≠92) (ol:vL new (lg r) num=some na) (hH:HF w D ((Rx nb (mu [] [] false 0 0 (.slice ad 0 cap) (.slice none 0 0) [47]) 115::(Hs++([]++[])))++(Rx hb [I (num:Int)] 3::Hr)) w):
  Calls Tryd.prog 57 #[Pt nb 0,S (lg r),(Sx hb 1 1)] w fun e w'=>(∃t' nC,na=some t'/\e=.returned (.tuple #[])/\HT t' nb nC/\HF w D (nC++Hr) w')\/(na=none/\wP e/\HF w D [] w'):=by
 refine enter D ((Rx nb (mu [] [] false 0 0 (.slice ad 0 cap) (.slice none 0 0) [47]) 115::(Hs++([]++[])))++(Rx hb [I (num:Int)] 3::Hr)) Tryd.func57 rfl Tryd.ntmps57 rfl rfl hH fun c hc=>?_
 subst hc;obtain⟨nk,q,rfl⟩:=hr;unfold vL at ol;have e2:(new:T0).nL =.node () [] [] false 0 1 none [47] []:=rfl;simp only[e2,oZ,rp,and_self,if_true] at ol;obtain⟨r1,hi,Uy⟩:=aN.1 ol;refine j3<|gz<|gD<|gB<|gF<|gC<|gz<|gD<|gB<|gJ rfl<|gH tz rfl<|gA (gG da rfl (.head _) rfl)<|gA (jj rfl rfl) ?_;rw[Bn];refine gJ rfl<|gH tz rfl<|gO cy rfl rfl rfl (.z) rfl rfl<|gC<|gz<|gz<|hO (H':=(Rx nb (mu [] [] false 0 1 (.slice ad 0 cap) (.slice none 0 0) [47]) 115::(Hs++([]++[])))++(Rx hb [I (num:Int)] 3::Hr)) (fun w1 h1=>h1)<|gD<|gB<|gJ rfl<|gH pU rfl<|gA (gG ag rfl (.head _) rfl)<|gA (ig aa rfl)<|gA (ie rfl rfl)<|gB<|gZ 30 rfl (fun th=>?_) (fun th=>?_)
 ·refine gU ?_;refine gI (gX rfl) ?_;refine gI (gQ p5 rfl) ?_;refine gI (gG bj rfl (.head _) rfl) ?_;refine gI (iu az rfl) ?_;refine gI (ie rfl rfl) ?_;refine gT ?_;refine gC ?_;refine gV rfl (fun AH=>?_) (fun AH=>absurd AH (by decide));refine gz ?_;refine gD ?_;refine gB ?_;refine gB ?_;refine gB ?_;refine gB ?_;refine ku (H1:=(Rx nb (mu [] [] false 0 1 (.slice ad 0 cap) (.slice none 0 0) [47]) 115::(Hs++([]++[])))++[Rx hb [I (num:Int)] 3]) (Hk:=Hr) (fun v ni=>v=.tuple #[]/\∃t',r1=some t'/\HT t' nb ni) (fun ni=>r1=none) (by simp) (fun e0 mL=>?_) Tryd.call70 rfl rfl (fun w1 fa=>?_) ?_ (fun ni e w' h1 h2 h3=>.inr ⟨by rw[<-Uy,h1];rfl,h2,h3.sub (ar _)⟩)
  ·simp only[aS,aW,af,aB,aC,or_false] at mL;rcases mL with rfl|mL|rfl
   ·rfl
   ·exact hs.w e0 mL
   rfl
  ·refine(TH w1 _ hl _ false (.b 47::q) (.node () [] [] false 0 1 none [47] []) nb _ [] r1 nk oE hl (by simp[Tr.kids]) (by simp[Tr.path]) (by simp[Tr.kids]) (HT.mk (bs:=[]) hs HV.nil oq.nil) hi fa).mono fun e w' h=>?_
   rcases h with⟨t',nC,h1,h2,h3,h4⟩|⟨h1,h2,h3⟩
   ·rw[aS nC] at h4;exact⟨nC,h3.w,h4,.inl ⟨_,h2,rfl,t',h1,h3⟩⟩
   exact⟨[],by simp,h3,.inr ⟨h2,h1⟩⟩
  rintro v ni ⟨rfl,t',qQ,sq⟩;refine gC<|gz ?_
  cases sq with
  | @mk tp idx wl nt pr h0 f0 kids _ Oa kv hv nU Hh Hk mJ hh hk=>
  refine gD<|gB ?_;refine gJ rfl<|gH sX rfl ?_;exact gO dS rfl rfl rfl (.z) rfl rfl<|gC<|jD rfl fun w' ia=>.inl ⟨_,_,by rw[<-Uy,qQ];rfl,rfl,HT.mk (nt:=1) mJ hh hk,ia⟩
 exact absurd th (by decide)
theorem abj (w:World) (D:Nat->Prop) {nb hb num:Nat} {r:List Tok} {t:T0} {f:F} (hr:Gt.Good r) (hl:(lg r).length <=100000) (oE:∀c∈lg r,c≠92) (ye:oG true t f) (pI:t.nt=1) (tc:∀s v,f s=some v->∃r,s=.b 47::r) (r9:Bd f) (ol:vL t (lg r) num=some na) (ht:HT t nb Hn) (hH:HF w D (Hn++(Rx hb [I (num:Int)] 3::Hr)) w):
  Calls Tryd.prog 57 #[Pt nb 0,S (lg r),(Sx hb 1 1)] w fun e w'=>(∃t' nC,na=some t'/\e=.returned (.tuple #[])/\HT t' nb nC/\HF w D (nC++Hr) w')\/(na=none/\wP e/\HF w D [] w'):=by
 refine enter D (Hn++(Rx hb [I (num:Int)] 3::Hr)) Tryd.func57 rfl Tryd.ntmps57 rfl rfl hH fun c hc=>?_
 subst hc
 have uH:¬(t.nL.path=[]/\t.nL.kids=[]):=by
  rintro⟨h1,h2⟩;rw[CW] at h1;rw[NW] at h2
  cases t with
  |node a=>
  obtain⟨k,_,e,_⟩:=(ye.Ir (.inr pI)).head tc h1;simp only[rp] at h2;rw[h2] at e;cases e
 obtain⟨nk,q,rfl⟩:=hr;unfold vL at ol;simp only[uH,if_false] at ol;have abk:=ye.nL;have tU:t.nL.nt=1:=by rw[wS];exact pI
 cases ht with
 | @mk tp idx wl nt pr h0 f0 kids _ Oa kv hv Hs Hh Hk hs hh hk=>
 rw[CW,NW] at uH;simp only[oZ,rp] at uH;obtain⟨ad,cap,rfl⟩:=hs.slice;refine j3<|gz<|gD<|gB<|gF<|gC<|gz<|gD<|gB<|gJ rfl<|gH tz rfl<|gA (gG da rfl (.head _) rfl)<|gA (jj rfl rfl) ?_;rw[Bn];refine gJ rfl<|gH tz rfl<|gO cy rfl rfl rfl (.z) rfl rfl<|gC<|gz<|gz<|hO (H':=(Rx nb (mu tp idx wl nt (pr+1) (.slice ad kids.length cap) hv f0) 115::(Hs++(Hh++Hk)))++(Rx hb [I (num:Int)] 3::Hr)) (fun w1 h1=>?_) ?_
 ·exact h1
 refine hY (fun bc H'=>Sub [(0,Pt nb 0),(1,S (lg (.b 47::q))),(2,(Sx hb 1 1)),(6,S (lg (.b 47::q))),(37,.bool false)] bc/\H'=(Rx nb (mu tp idx wl nt (pr+1) (.slice ad kids.length cap) hv f0) 115::(Hs++(Hh++Hk)))++(Rx hb [I (num:Int)] 3::Hr)) (fun J2=>?_) ?_
 ·refine gD<|gB<|gJ rfl<|gH pU rfl<|gA (gG ag rfl (.head _) rfl)<|gA (ig aa rfl)<|gA (ie rfl rfl)<|gB<|gZ 30 rfl (fun th=>?_) (fun th=>?_)
  ·refine gU<|gI (gX rfl)<|gI (gQ p5 rfl)<|gI (gG bj rfl (.head _) rfl)<|gI (iu az rfl)<|gI (ie rfl rfl)<|gT<|gC ?_;have oT:tp=[]:=bw.1 (by have:=of_decide_eq_true th;omega);have e:decide (((kids.length:Nat):Int)=0)=false:=decide_eq_false fun e=>uH ⟨oT,bw.1 (by omega)⟩
   refine J2 _ _ ⟨?_,rfl⟩;rw[e];exact .of rfl
  refine gE ?_;refine gE ?_;refine gE ?_;refine gE ?_;refine gE ?_;refine gE ?_;refine hG ?_;refine gC ?_;exact J2 _ _ ⟨.of rfl,rfl⟩
 rintro bc H' ⟨mJ,rfl⟩;refine gN mJ ?_;clear mJ;refine iJ rfl<|gL<|gz<|gD<|gF<|gC<|gz<|j1<|gW<|jw ?_;refine(Uu hl oE _).1 _ f false 47 q 0 na abk (by rw[tU];decide) nk tc r9 (fp _) (by omega) ol nb _ Hr _ (HT.mk hs hh hk) (.of rfl) (fun t' h1 nC w' h2 h3=>.inl ⟨t',nC,h1,rfl,h2,h3⟩) (fun h1 e w' h2 h3=>.inr ⟨h1,h2,h3⟩)
theorem abl (w:World) (D:Nat->Prop) {nb hb num:Nat} {r:List Tok} {t:T0} {f:F} (hr:Gt.Good r) (hl:(lg r).length <=100000) (oE:∀c∈lg r,c≠92) (pz:TS t f) (r9:Bd f) (ol:vL t (lg r) num=some na) (ht:HT t nb Hn) (hH:HF w D (Hn++(Rx hb [I (num:Int)] 3::Hr)) w):
  Calls Tryd.prog 57 #[Pt nb 0,S (lg r),(Sx hb 1 1)] w fun e w'=>(∃t' nC,na=some t'/\e=.returned (.tuple #[])/\HT t' nb nC/\HF w D (nC++Hr) w')\/(na=none/\wP e/\HF w D [] w'):=by
 rcases pz with⟨rfl,rfl⟩|⟨h1,h2,h3⟩
 ·cases ht with
  |mk hs hh hk=>
  cases hk;cases hh;obtain⟨ad,cap,rfl⟩:=hs.slice;exact abi w D hs hr hl oE ol hH
 exact abj w D hr hl oE h1 h2 h3 r9 ol ht hH
end Go.Proofs
namespace Go.Proofs
open Go
theorem Tryd.abm (p:Addr) (x:Bool) (w:World) (hc:w.cell? p=some (.bool x)) (hz:w.frozen? p=false):
  CallsD Tryd.prog 46 #[.pointer (some p)] .returning w fun e u' w'=>e=.returned (.tuple #[])/\u'=.returning /\w'=w.setCell p (.bool false):=by
 refine callsD_of_wpS Tryd.func46 rfl fun Uz cs hu=>?_
 apply wpS_region;simp[wpOpsS,go_sem,recoverD,hu,Tryd.ntmps46,hc,hz];cases Uz;simp_all[bodyPostS,results,Tryd.results46]
theorem Tryd.abn (p:Addr) (x:Bool) (u:TypeId) (pv:Value) (UA:List PanicEntry) (w:World) (hc:w.cell? p=some (.bool x)) (hz:w.frozen? p=false):
  CallsD Tryd.prog 46 #[.pointer (some p)] (.panicking ({v:=.iface u pv,recovered:=false}::UA)) w fun e u' w'=>e=.returned (.tuple #[])/\u'=.panicking ({v:=.iface u pv,recovered:=true}::UA)/\w'=w.setCell p (.bool true):=by
 refine callsD_of_wpS Tryd.func46 rfl fun Uz cs hu=>?_
 apply wpS_region;simp[wpOpsS,go_sem,recoverD,hu,Tryd.ntmps46,hc,hz,bodyPostS,results,Tryd.results46]
theorem Tryd.abo (g:Nat) (FN:Array Value) (eg:∀args w,(callFunc g args).run Tryd.prog w=.ok (.enter g args) w) (w:World) (K:Bool->World->Prop)
  (hf:Calls Tryd.prog g FN (w.alloc (.cells #[.bool false] 4)) fun e w1=>w1.cell? ⟨w.heap.size,0,none⟩=some (.bool false)/\w1.frozen? ⟨w.heap.size,0,none⟩=false/\
   ((∃v,e=.returned v/\K false ((w1.setCell ⟨w.heap.size,0,none⟩ (.bool false)).setCell ⟨w.heap.size,0,none⟩ (.bool false)))\/(∃u pv,e=.panicked [{v:=.iface u pv,recovered:=false}]/\K true (w1.setCell ⟨w.heap.size,0,none⟩ (.bool true))))):
  Calls Tryd.prog 31 #[.func (.func g) #[] FN] w fun e w'=>∃b,e=.returned (.bool b)/\K b w':=by
 have hmf:∀(fn:Fn) (first cap:Array Value) (w:World),(Instr.makeFunc fn first cap).run Tryd.prog w=.ok (.func fn first cap) w:=fun _ _ _ _=>rfl
 go_enter_defers Tryd.func31,Tryd.ntmps31
 go_wp2
 refine hf.mono ?_;rintro e w1 ⟨hc,hz,⟨v,rfl,hK⟩|⟨u,pv,rfl,hK⟩⟩
 ·go_wp2
  refine leaves_cons (f:=46) (args:= #[.pointer (some ⟨w.heap.size,0,none⟩)]) (by simp) (by simp[go_sem]) ?_;refine(Tryd.abm ⟨w.heap.size,0,none⟩ false _ ?_ ?_).mono ?_
  ·simp[go_sem,hc]
  ·simp[go_sem,hz]
  rintro e u' HS ⟨rfl,rfl,rfl⟩;simp[Leaves,settle,results,Tryd.results31,go_sem,hc];exact hK
 go_wp2
 refine leaves_cons (f:=46) (args:= #[.pointer (some ⟨w.heap.size,0,none⟩)]) (by simp) (by simp[go_sem]) ?_;refine(Tryd.abn ⟨w.heap.size,0,none⟩ false u pv [] _ hc hz).mono ?_;rintro e u' HS ⟨rfl,rfl,rfl⟩;simp[Leaves,settle,results,Tryd.results31,go_sem,hc];exact hK
theorem UB (g:Nat) (FN:Array Value) (eg:∀args w,(callFunc g args).run Tryd.prog w=.ok (.enter g args) w) (w w0:World) (D:Nat->Prop) (H:Bw.SH) (hw:Bw.HF w0 D H w) (J:Bool->Bw.SH->Prop)
  (hf:∀b w1,w0.heap.size<=b->Bw.HF w0 D (Rx b [.bool false] 4::H) w1->Calls Tryd.prog g FN w1 fun e w2=>∃H2,Bw.HF w0 D (Rx b [.bool false] 4::H2) w2/\
   ((∃v,e=.returned v/\J false H2)\/(∃u pv,e=.panicked [{v:=.iface u pv,recovered:=false}]/\J true H2))):
  Calls Tryd.prog 31 #[.func (.func g) #[] FN] w fun e w'=>∃t H2,e=.returned (.bool t)/\J t H2/\Bw.HF w0 D H2 w':=by
 refine(Tryd.abo g FN eg w (fun t w'=>∃H2,J t H2/\Bw.HF w0 D H2 w') ?_).mono fun e w' ⟨t,h1,H2,h2,h3⟩=>⟨t,H2,h1,h2,h3⟩
 refine(hf w.heap.size _ hw.size (hw.push (.row [.bool false] 4 (0,0)))).mono fun e w2 ⟨H2,h1,h2⟩=>?_
 have hc:=Bw.oQ h1 (b:=w.heap.size) (off:=0) (.head _) rfl;have hz:=Bw.M7 h1 (b:=w.heap.size) (off:=0) (.head _);refine⟨hc,by simpa using hz,?_⟩;rcases h2 with⟨v,rfl,h2⟩|⟨u,pv,rfl,h2⟩
 ·exact .inl ⟨v,rfl,H2,h2,((h1.setCell .z (.bool false)).setCell .z (.bool false)).sub (ai _ _)⟩
 exact .inr ⟨u,pv,rfl,H2,h2,(h1.setCell .z (.bool true)).sub (ai _ _)⟩
end Go.Proofs
namespace Go.Proofs
open Go Bw Gt
variable {tb:Nat} {Hn:SH} {na:Option T0}
def nw (nb:Nat) (m s:Nat):List Value:=[Pt nb 0,.int .u16 (m:Int),.int .u16 (s:Int)]
theorem abp (nb:Nat) (w:World):(Instr.build 87 #[(0,Pt nb 0)]).run Tryd.prog w=.ok (.agg (nw nb 0 0).toArray) w:=by
 simp[Instr.build,Tryd.zeroValue87,Tryd.runUnderlying87,bi,eO,qp,Instr.fill,Cv,nw]
theorem _root_.Bw.kD {P:Program} {c:Cx} {n:Nat} {fr:SF} {H:SH} {ty t u:TypeId} {x y:Operand} {i j:Nat} (hx:ev fr x=some (.int .u16 (i:Int))) (hy:ev fr y=some (.int .u16 (j:Int))):nB P c n (.call ⟨.builtin .max, #[x,y], #[t,u]⟩) ty fr H (.int .u16 ((max i j:Nat):Int)):=l9 hx hy
theorem abq (w:World):Calls Tryd.prog 42 #[] w fun e w'=>∃nb tb,e=.returned (Pt tb 0)/\HF w (fun _=>False) [Rx tb (nw nb 0 0) 87,Rx nb (mu [] [] false 0 0 (.slice none 0 0) (.slice none 0 0) [47]) 115] w':=by
 refine enter (fun _=>False) [] Tryd.func42 rfl Tryd.ntmps42 rfl rfl (HF.start w _) fun c hc=>?_
 subst hc;refine gz<|gD<|gF<|gC<|gz<|gD<|gA (iN (vs:=[(7,S [47])]) rfl (fun w1=>TA _ w1))<|jc (l:=mu [] [] false 0 0 (.slice none 0 0) (.slice none 0 0) [47]) rfl (by simp[qp,mu]) rfl (fun nb ti=>?_);refine gA (iN (vs:=[(0,Pt nb 0)]) rfl (fun w1=>abp nb w1))<|jc (l:=nw nb 0 0) rfl (by simp[qp,nw]) rfl (fun tb NP=>?_);exact gF<|gC<|ic rfl rfl fun w' ia=>⟨nb,tb,rfl,ia⟩
theorem abr (w:World) (D:Nat->Prop) {nb m s num:Nat} {r:List Tok} {t:T0} {f:F} (hr:Gt.Good r) (hl:(lg r).length <=20000) (oE:∀c∈lg r,c≠92) (pz:TS t f) (r9:Bd f) (ol:vL t (lg r) num=some na) (ht:HT t nb Hn) (hH:HF w D (Rx tb (nw nb m s) 87::Hn) w):Calls Tryd.prog 44 #[Pt tb 0,S (lg r),I (num:Int)] w fun e w'=>(∃t' nC,na=some t'/\e=.returned (.tuple #[])/\HT t' nb nC/\HF w D (Rx tb (nw nb (max m ((lg r).count 58+(lg r).count 42)) (max s ((lg r).count 47))) 87::nC) w')\/(na=none/\wP e/\HF w D [] w'):=by
 refine enter D (Rx tb (nw nb m s) 87::Hn) Tryd.func44 rfl Tryd.ntmps44 rfl rfl hH fun c hc=>?_
 subst hc
 have ot:(lg r)[0]? =some 47:=by
  obtain⟨_,q,rfl⟩:=hr;rfl
 generalize hp:lg r=p at*;refine gz<|gz<|gD<|gB<|gA (iG (i:=0) (b:=47) aa rfl rfl ot)<|gA (iF rfl rfl)<|gC<|gV rfl (fun h8=>absurd h8 (by decide)) (fun h8=>?_);refine gL<|gz<|gD<|gB<|gJ rfl<|gH Nq rfl<|gA (gG bK rfl (.head _) rfl)<|gB<|gB<|je (jn bR bh ez (v:=I (num:Int)) rfl) rfl rfl (fun hb hhb=>?_);refine ku (H1:=Hn++[Rx hb [I (num:Int)] 3]) (Hk:=[Rx tb (nw nb m s) 87]) (fun v ni=>v=.tuple #[]/\∃t',na=some t'/\HT t' nb ni) (fun ni=>na=none) ?_ (fun e0 mL=>?_) Tryd.call57 rfl rfl (fun w1 fa=>?_) ?_ (fun ni e w' h1 h2 h3=>.inr ⟨h1,h2,h3.sub (ar _)⟩)
 ·have p1:=oN [[Rx hb [I (num:Int)] 3],[Rx tb (nw nb m s) 87],Hn] [0,1,2] [2,0,1] (by decide);simpa using p1
 ·rcases aB.1 mL with mL|mL
  ·exact ht.w e0 mL
  rw[aj.1 mL]
 ·subst hp;refine(abl w1 _ hr (by omega) oE pz r9 ol ht fa).mono fun e w' h=>?_
  rcases h with⟨t',nC,h1,h2,h3,h4⟩|⟨h1,h2,h3⟩
  ·rw[aS nC] at h4;exact⟨nC,h3.w,h4,.inl ⟨_,h2,rfl,t',h1,h3⟩⟩
  exact⟨[],by simp,h3,.inr ⟨h2,h1⟩⟩
 rintro v rU ⟨rfl,t',qQ,sq⟩;refine jb (H':=Rx tb (nw nb m s) 87::rU) (fun w1 h1=>h1.perm aF)<|gC<|gz<|hY (fun bc H'=>Sub [(0,Pt tb 0),(1,S p)] bc/\(Rx tb (nw nb (max m (p.count 58+p.count 42)) s) 87)::rU=H') (fun J3=>?_) ?_
 ·refine jM (fun _=>True) mixed<|im 0 rfl (fun _ _=>trivial) (gM rfl)<|im 1 rfl (fun _ _=>trivial) (gM rfl)<|im 2 rfl (fun _ _=>trivial) (gX rfl)<|im 3 rfl (fun _ _=>trivial) (gQ Kz rfl)<|im 5 rfl (fun _ _=>trivial) (gM rfl)<|jQ 4 6 rfl rfl (by kernel_rfl) ?_ ?_
  ·refine jk (gG fP rfl (.head _) rfl) (fun _ _=>trivial) rfl<|iQ 6 rfl (by kernel_rfl)<|jR (xs:=[.tmp 23]) (vs:=[S p]) (fun v H2=>v=.int .u16 ((p.count 58+p.count 42:Nat):Int)/\H2=(Rx tb (nw nb m s) 87)::rU) Tryd.call58 rfl rfl (fun _ _ _ _ _=>trivial) (fun w1 fa=>(S9 w1 p hl).mono fun e w' ⟨h1,h2⟩=>⟨_,_,h1,fa.o9 h2 (fun e he=>by cases he),rfl,rfl⟩) ?_;rintro v H2 ⟨rfl,rfl⟩;exact im 7 rfl (fun _ _=>trivial) (kD rfl rfl)<|im 8 rfl (fun _ _=>trivial) (gX rfl)<|im 9 rfl (fun _ _=>trivial) (gQ Kz rfl)<|iQ 10 rfl (by kernel_rfl)<|jK (b:=tb) (off:=0+1) (l:=nw nb m s) (T:=87) (fz:=(0,0)) eO rfl rfl rfl (.z) rfl rfl (fun _ _=>trivial)<|jz (by kernel_rfl)<|J3 _ _ ⟨.of rfl,rfl⟩
  refine jR (xs:=[.tmp 23]) (vs:=[S p]) (fun v H2=>v=.int .u16 ((p.count 58+p.count 42:Nat):Int)/\H2=(Rx tb (nw nb m s) 87)::rU) Tryd.call58 rfl rfl (fun _ _ _ _ _=>trivial) (fun w1 fa=>(S9 w1 p hl).mono fun e w' ⟨h1,h2⟩=>⟨_,_,h1,fa.o9 h2 (fun e he=>by cases he),rfl,rfl⟩) ?_;rintro v H2 ⟨rfl,rfl⟩;exact iQ 4 rfl (by kernel_rfl)<|jk (gG fP rfl (.head _) rfl) (fun _ _=>trivial) rfl<|im 7 rfl (fun _ _=>trivial) (kD rfl rfl)<|im 8 rfl (fun _ _=>trivial) (gX rfl)<|im 9 rfl (fun _ _=>trivial) (gQ Kz rfl)<|iQ 10 rfl (by kernel_rfl)<|jK (b:=tb) (off:=0+1) (l:=nw nb m s) (T:=87) (fz:=(0,0)) eO rfl rfl rfl (.z) rfl rfl (fun _ _=>trivial)<|jz (by kernel_rfl)<|J3 _ _ ⟨.of rfl,rfl⟩
 rintro bc H' ⟨IL,rfl⟩;refine gN IL ?_;clear IL;refine hY (fun bc H'=>Sub [(0,Pt tb 0),(1,S p)] bc/\(Rx tb (nw nb (max m (p.count 58+p.count 42)) (max s (p.count 47))) 87)::rU=H') (fun J4=>?_) ?_
 ·refine jM (fun _=>True) mixed<|im 0 rfl (fun _ _=>trivial) (gM rfl)<|im 1 rfl (fun _ _=>trivial) (gM rfl)<|im 2 rfl (fun _ _=>trivial) (gX rfl)<|im 3 rfl (fun _ _=>trivial) (gQ KA rfl)<|im 5 rfl (fun _ _=>trivial) (gM rfl)<|jQ 4 6 rfl rfl (by kernel_rfl) ?_ ?_
  ·refine jk (gG fP rfl (.head _) rfl) (fun _ _=>trivial) rfl<|iQ 6 rfl (by kernel_rfl)<|jR (xs:=[.tmp 33]) (vs:=[S p]) (fun v H2=>v=.int .u16 ((p.count 47:Nat):Int)/\H2=(Rx tb (nw nb (max m (p.count 58+p.count 42)) s) 87)::rU) Tryd.call59 rfl rfl (fun _ _ _ _ _=>trivial) (fun w1 fa=>(Ta w1 p hl).mono fun e w' ⟨h1,h2⟩=>⟨_,_,h1,fa.o9 h2 (fun e he=>by cases he),rfl,rfl⟩) ?_;rintro v H2 ⟨rfl,rfl⟩;exact im 7 rfl (fun _ _=>trivial) (kD rfl rfl)<|im 8 rfl (fun _ _=>trivial) (gX rfl)<|im 9 rfl (fun _ _=>trivial) (gQ KA rfl)<|iQ 10 rfl (by kernel_rfl)<|jK (b:=tb) (off:=0+2) (l:=nw nb (max m (p.count 58+p.count 42)) s) (T:=87) (fz:=(0,0)) eO rfl rfl rfl (.z) rfl rfl (fun _ _=>trivial)<|jz (by kernel_rfl)<|J4 _ _ ⟨.of rfl,rfl⟩
  refine jR (xs:=[.tmp 33]) (vs:=[S p]) (fun v H2=>v=.int .u16 ((p.count 47:Nat):Int)/\H2=(Rx tb (nw nb (max m (p.count 58+p.count 42)) s) 87)::rU) Tryd.call59 rfl rfl (fun _ _ _ _ _=>trivial) (fun w1 fa=>(Ta w1 p hl).mono fun e w' ⟨h1,h2⟩=>⟨_,_,h1,fa.o9 h2 (fun e he=>by cases he),rfl,rfl⟩) ?_;rintro v H2 ⟨rfl,rfl⟩;exact iQ 4 rfl (by kernel_rfl)<|jk (gG fP rfl (.head _) rfl) (fun _ _=>trivial) rfl<|im 7 rfl (fun _ _=>trivial) (kD rfl rfl)<|im 8 rfl (fun _ _=>trivial) (gX rfl)<|im 9 rfl (fun _ _=>trivial) (gQ KA rfl)<|iQ 10 rfl (by kernel_rfl)<|jK (b:=tb) (off:=0+2) (l:=nw nb (max m (p.count 58+p.count 42)) s) (T:=87) (fz:=(0,0)) eO rfl rfl rfl (.z) rfl rfl (fun _ _=>trivial)<|jz (by kernel_rfl)<|J4 _ _ ⟨.of rfl,rfl⟩
 rintro bc H' ⟨IL,rfl⟩;refine gN IL ?_;clear IL;exact jq rfl fun w' ia=>.inl ⟨t',rU,qQ,rfl,sq,ia⟩
theorem abt (w:World) (D:Nat->Prop) {ca cb cc:Nat} {nb m s i:Nat} {r:List Tok} {t:T0} {f:F} (hr:Gt.Good r) (hl:(lg r).length <=20000) (oE:∀c∈lg r,c≠92) (pz:TS t f) (r9:Bd f) (ol:vL t (lg r) (i+1)=some na) (ht:HT t nb Hn) (hi:i<=1000000000) (hH:HF w D (Rx tb (nw nb m s) 87::(Hn++[Rx ca [Pt tb 0] 67,Rx cb [S (lg r)] 9,Rx cc [I (i:Nat)] 3])) w):Calls Tryd.prog 43 #[Pt ca 0,Pt cb 0,Pt cc 0] w fun e w'=>(∃t' nC,na=some t'/\e=.returned (.tuple #[])/\HT t' nb nC/\HF w D (Rx tb (nw nb (max m ((lg r).count 58+(lg r).count 42)) (max s ((lg r).count 47))) 87::(nC++[Rx ca [Pt tb 0] 67,Rx cb [S (lg r)] 9,Rx cc [I (i:Nat)] 3])) w')\/(na=none/\wP e/\HF w D [Rx ca [Pt tb 0] 67,Rx cb [S (lg r)] 9,Rx cc [I (i:Nat)] 3] w'):=by
 refine enter D (Rx tb (nw nb m s) 87::(Hn++[Rx ca [Pt tb 0] 67,Rx cb [S (lg r)] 9,Rx cc [I (i:Nat)] 3])) Tryd.func43 rfl Tryd.ntmps43 rfl rfl hH fun c hc=>?_
 subst hc;refine gD<|gA (gG (b:=ca) (off:=0) (wf:=true) (l:=[Pt tb 0]) (T:=67) (fz:=(0,0)) (v:=Pt tb 0) Tryd.isAgg67 rfl (by simp) rfl)<|gA (gG (b:=cb) (off:=0) (wf:=true) (l:=[S (lg r)]) (T:=9) (fz:=(0,0)) (v:=S (lg r)) ag rfl (by simp) rfl)<|gA (gG (b:=cc) (off:=0) (wf:=true) (l:=[I (i:Nat)]) (T:=3) (fz:=(0,0)) (v:=I (i:Nat)) aY rfl (by simp) rfl)<|gA (iy i (by omega))<|ku (H1:=Rx tb (nw nb m s) 87::Hn) (Hk:=[Rx ca [Pt tb 0] 67,Rx cb [S (lg r)] 9,Rx cc [I (i:Nat)] 3]) (fun v ni=>v=.tuple #[]/\∃t' nC,na=some t'/\HT t' nb nC/\ni=(Rx tb (nw nb (max m ((lg r).count 58+(lg r).count 42)) (max s ((lg r).count 47))) 87)::nC) (fun ni=>na=none) (.of_eq rfl) (fun e0 mL=>?_) Tryd.call44 rfl rfl (fun w1 fa=>?_) ?_ (fun ni e w' h1 h2 h3=>.inr ⟨h1,h2,h3.sub (aG _ _)⟩)
 ·rcases af.1 mL with rfl|mL
  ·rfl
  exact ht.w e0 mL
 ·refine(abr w1 _ hr hl oE pz r9 ol ht fa).mono fun e w' h=>?_
  rcases h with⟨t',nC,h1,h2,h3,h4⟩|⟨h1,h2,h3⟩
  ·refine⟨_,fun e0 mL=>?_,h4,.inl ⟨_,h2,rfl,t',nC,h1,h3,rfl⟩⟩;rcases af.1 mL with rfl|mL
   ·rfl
   exact h3.w e0 mL
  exact⟨[],by simp,h3,.inr ⟨h2,h1⟩⟩
 rintro v ni ⟨rfl,t',nC,qQ,sq,rfl⟩;exact gC<|jq rfl fun w' ia=>.inl ⟨t',nC,qQ,rfl,sq,ia⟩
theorem abu (nb:Nat):HT new nb [Rx nb (mu [] [] false 0 0 (.slice none 0 0) (.slice none 0 0) [47]) 115]:=HT.mk (path:=[]) (idx:=[]) (mm:=false) (nt:=0) (pr:=0) (h:=none) (full:=[47]) (kids:=[]) (bs:=[]) Own.nil HV.nil oq.nil
def oU (l:List (List Tok)):Nat:=l.foldl (fun m r=>max m ((lg r).count 58+(lg r).count 42)) 0
def oY (l:List (List Tok)):Nat:=l.foldl (fun m r=>max m ((lg r).count 47)) 0
theorem By {α:Type} {l:List α} {k:Nat} {x:α} (h:l[k]? =some x):l.take (k+1)=l.take k++[x]:=by
 rw[eZ,h];rfl
theorem abv {l:List (List Tok)} {k:Nat} {r:List Tok} (h:l[k]? =some r):oU (l.take (k+1))=max (oU (l.take k)) ((lg r).count 58+(lg r).count 42):=by
 rw[By h];simp[oU]
theorem abw {l:List (List Tok)} {k:Nat} {r:List Tok} (h:l[k]? =some r):oY (l.take (k+1))=max (oY (l.take k)) ((lg r).count 47):=by
 rw[By h];simp[oY]
theorem Bd.pM {f:F} (h:Bd f) {r:List Tok} (hl:(lg r).length <=100000) (v):Bd (Gt.pM f r v):=fun s u hs=>by
 rcases ya hs with rfl|hs
 ·exact hl
 exact h s u hs
def vq (w:World) (sv:Value) (l:List (List UInt8)):Prop:=∃ad cp,sv=.slice ad l.length cp/\∀(j:Nat) p,l[j]? =some p->∃b o,ad=some ⟨b,o,none⟩/\w.cell? ⟨b,o+j,none⟩=some (S p)
theorem K5 (w:World) (rs:List (List Tok)) (sv:Value) (hg:∀r∈rs,Gt.Good r) (hl:∀r∈rs,(lg r).length <=20000) (oE:∀r∈rs,∀c∈lg r,c≠92) (hn:rs.length<=1000000) (pe:vq w sv (rs.map lg)):Calls Tryd.prog 29 #[sv] w fun e w'=>(∃t tb nb Hn,rO new (rs.map lg) 0=.inl t/\e=.returned (.tuple #[Pt tb 0,I (-1)])/\HT t nb Hn/\HF w (fun _=>False) (Rx tb (nw nb (oU rs) (oY rs)) 87::Hn) w')\/(∃j tb,rO new (rs.map lg) 0=.inr j/\e=.returned (.tuple #[Pt tb 0,I (j:Nat)])/\HF w (fun _=>False) [] w'):=by
 refine enter (fun _=>False) [] Tryd.func29 rfl Tryd.ntmps29 rfl rfl (HF.start w _) fun c hc=>?_
 subst hc;obtain⟨ad,cp,rfl,vI⟩:=pe;rw[aQ];refine gz<|gD<|gF<|gF<|gC<|gz<|gD<|iP (fun v H2=>∃nb tb,v=Pt tb 0/\H2=[Rx tb (nw nb 0 0) 87,Rx nb (mu [] [] false 0 0 (.slice none 0 0) (.slice none 0 0) [47]) 115]) Tryd.call42 rfl rfl (fun w1 fa=>(abq w1).mono fun e w' ⟨nb,tb,h1,h2⟩=>⟨_,_,h1,fa.o9 h2 (fun e0 mL=>by simp only[af,aC,or_false] at mL;rcases mL with rfl|rfl<;>rfl),nb,tb,rfl,rfl⟩) ?_;rintro v H2 ⟨nb,tb,rfl,rfl⟩;refine iK Tryd.zeroValue67 rfl rfl (fun ca qS=>?_);refine gO Tryd.sizeOf67 rfl rfl rfl .z rfl rfl<|gC<|gz<|gz<|hO (H':=[Rx ca [Pt tb 0] 67,Rx tb (nw nb 0 0) 87,Rx nb (mu [] [] false 0 0 (.slice none 0 0) (.slice none 0 0) [47]) 115]) (fun w1 fa=>fa)<|gD<|gB<|gA (iu aE rfl)<|gB<|gC<|gW ?_
 refine iC (fun N bc H'=>∃k t f Hn,k+N=rs.length/\rO new (rs.map lg) 0=rO t ((rs.drop k).map lg) k/\TS t f/\Bd f/\HT t nb Hn/\Sub [(8,.slice ad rs.length cp),(4,Pt ca 0),(9,I (rs.length:Nat)),(10,I (k:Nat))] bc/\H'=(Rx ca [Pt tb 0] 67)::Rx tb (nw nb (oU (rs.take k)) (oY (rs.take k))) 87::Hn) rs.length
  ⟨0,new,fun _=>none,[Rx nb (mu [] [] false 0 0 (.slice none 0 0) (.slice none 0 0) [47]) 115],by omega,rfl,.inl ⟨rfl,rfl⟩,fun s v h=>(by cases h),abu nb,.of rfl,rfl⟩ ?_
 rintro N bc H' ⟨k,t,f,Hn,hk,vt,pz,r9,ht,hs,rfl⟩ ih;refine gN hs ?_;clear hs;refine gz<|gD<|gA (ik rfl rfl)<|gC<|gz<|gS rfl (fun yg=>?_) (fun yg=>?_)
 ·refine gL<|gz<|gW<|gz ?_;have qh:k<rs.length:=by omega
  obtain⟨r,tW⟩:=gx qh;have sK:=ap tW;obtain⟨lb,lo,rfl,AI⟩:=vI k (lg r) (by rw[aD,tW];rfl)
  obtain⟨na,ol⟩:∃na,vL t (lg r) (k+1)=some na:=by
   by_cases ha:Ap f r
   ·obtain⟨t',h1,_⟩:=(Eh pz (hg r sK) (k+1)).1 ha;exact⟨_,h1⟩
   exact⟨_,(Eh pz (hg r sK) (k+1)).2 ha⟩
  have IM:(rs.drop k).map lg=lg r::(rs.drop (k+1)).map lg:=by rw[bl qh,(ae.1 tW).2];rfl
  refine gD<|gB<|gA (ij (i:=k) aE ah rfl rfl qh) ?_;rw[aT];refine gA (hZ (v:=S (lg r)) ag rfl AI id)<|iK ez rfl rfl (fun cc Bt=>?_);refine iK ck rfl rfl (fun cb rF=>?_);refine gO bh rfl rfl rfl (.s .z) rfl rfl<|gO ah rfl rfl rfl .z rfl rfl<|gC<|gz<|hO (H':=Rx tb (nw nb (oU (rs.take k)) (oY (rs.take k))) 87::(Hn++[Rx ca [Pt tb 0] 67,Rx cb [S (lg r)] 9,Rx cc [I (k:Nat)] 3])) (fun w1 fa=>?_) ?_
  ·have h1:HF w (fun _=>False) (Rx cb [S (lg r)] 9::Rx cc [I (k:Nat)] 3::Rx ca [Pt tb 0] 67::Rx tb (nw nb (oU (rs.take k)) (oY (rs.take k))) 87::Hn) w1:=fa;have p1:=oN [[Rx cb [S (lg r)] 9],[Rx cc [I (k:Nat)] 3],[Rx ca [Pt tb 0] 67],[Rx tb (nw nb (oU (rs.take k)) (oY (rs.take k))) 87],Hn] [0,1,2,3,4] [3,4,2,0,1] (by decide);exact h1.perm (by simpa using p1)
  refine gD<|gA (kH (vs:=[Pt ca 0,Pt cb 0,Pt cc 0]) rfl)<|iP (fun v H2=>∃t1,v=.bool t1/\((t1=false/\∃t' nC,na=some t'/\HT t' nb nC/\H2=(Rx tb (nw nb (max (oU (rs.take k)) ((lg r).count 58+(lg r).count 42)) (max (oY (rs.take k)) ((lg r).count 47))) 87)::(nC++[Rx ca [Pt tb 0] 67,Rx cb [S (lg r)] 9,Rx cc [I (k:Nat)] 3]))\/(t1=true/\na=none/\H2=[Rx ca [Pt tb 0] 67,Rx cb [S (lg r)] 9,Rx cc [I (k:Nat)] 3]))) Tryd.call31 rfl rfl (fun w1 fa=>?_) ?_
  ·refine(UB 43 #[Pt ca 0,Pt cb 0,Pt cc 0] Tryd.call43 w1 w (fun _=>False) _ fa (fun t1 H2=>((t1=false/\∃t' nC,na=some t'/\HT t' nb nC/\H2=(Rx tb (nw nb (max (oU (rs.take k)) ((lg r).count 58+(lg r).count 42)) (max (oY (rs.take k)) ((lg r).count 47))) 87)::(nC++[Rx ca [Pt tb 0] 67,Rx cb [S (lg r)] 9,Rx cc [I (k:Nat)] 3]))\/(t1=true/\na=none/\H2=[Rx ca [Pt tb 0] 67,Rx cb [S (lg r)] 9,Rx cc [I (k:Nat)] 3]))) (fun b w2 FA tA=>?_)).mono fun e w' ⟨t1,H2,h1,h2,h3⟩=>⟨_,_,h1,h3,t1,rfl,h2⟩
   have qZ:List.Perm ((Rx b [.bool false] 4::(Rx tb (nw nb (oU (rs.take k)) (oY (rs.take k))) 87::(Hn++[Rx ca [Pt tb 0] 67,Rx cb [S (lg r)] 9,Rx cc [I (k:Nat)] 3])):SH)) ((Rx tb (nw nb (oU (rs.take k)) (oY (rs.take k))) 87::(Hn++[Rx ca [Pt tb 0] 67,Rx cb [S (lg r)] 9,Rx cc [I (k:Nat)] 3]))++[Rx b [.bool false] 4]):=aF (l₁:=([Rx b [.bool false] 4]:SH));have hh:=tA.perm qZ;have nj:=bS.1 hh.nd
   have K6:∀e0∈(Rx tb (nw nb (oU (rs.take k)) (oY (rs.take k))) 87::(Hn++[Rx ca [Pt tb 0] 67,Rx cb [S (lg r)] 9,Rx cc [I (k:Nat)] 3]):SH),e0.w=true:=fun e0 mL=>by
    rcases af.1 mL with rfl|mL
    ·rfl
    rcases aB.1 mL with mL|mL
    ·exact ht.w e0 mL
    simp only[af,aC,or_false] at mL;rcases mL with rfl|rfl|rfl<;>rfl
   refine(abt w2 (fun b=>∃e∈(Rx tb (nw nb (oU (rs.take k)) (oY (rs.take k))) 87::(Hn++[Rx ca [Pt tb 0] 67,Rx cb [S (lg r)] 9,Rx cc [I (k:Nat)] 3]):SH),e.b=b) (hg r sK) (hl r sK) (oE r sK) pz r9 ol ht (by omega) (hh.loc (fun e he=>ay _ he) nj.1)).mono fun e w' h=>?_
   rcases h with⟨t',nC,h1,h2,h3,h4⟩|⟨h1,⟨tt,vv,h2⟩,h3⟩
   ·refine⟨_,?_,.inl ⟨_,h2,.inl ⟨rfl,t',nC,h1,h3,rfl⟩⟩⟩
    have h5:=tA.back qZ K6 (fun e0 mL=>by
     rcases af.1 mL with rfl|mL
     ·rfl
     rcases aB.1 mL with mL|mL
     ·exact h3.w e0 mL
     simp only[af,aC,or_false] at mL;rcases mL with rfl|rfl|rfl<;>rfl) h4
    exact h5.perm (aF (l₂:=([Rx b [.bool false] 4]:SH)))
   refine⟨_,?_,.inr ⟨tt,vv,h2,.inr ⟨rfl,h1,rfl⟩⟩⟩;have h5:=tA.back qZ K6 (fun e0 mL=>by simp only[af,aC,or_false] at mL;rcases mL with rfl|rfl|rfl<;>rfl) h3;exact h5.perm (aF (l₂:=([Rx b [.bool false] 4]:SH)))
  rintro v H2 ⟨t1,rfl,hJ⟩;refine gC<|gV rfl (fun pA=>?_) (fun pA=>?_)
  ·refine gz ?_
   obtain⟨_,abx,rfl⟩:t1=true/\na=none/\H2=[Rx ca [Pt tb 0] 67,Rx cb [S (lg r)] 9,Rx cc [I (k:Nat)] 3]:=by
    rcases hJ with⟨h,_⟩|h
    ·rw[pA] at h;cases h
    exact h
   refine iV mixed (by kernel_rfl)<|gK (gG (b:=ca) (off:=0) (wf:=true) (l:=[Pt tb 0]) (T:=67) (fz:=(0,0)) (v:=Pt tb 0) Tryd.isAgg67 rfl (by simp) rfl)<|gK (gG (b:=cc) (off:=0) (wf:=true) (l:=[I (k:Nat)]) (T:=3) (fz:=(0,0)) (v:=I (k:Nat)) aY rfl (by simp) rfl)<|gK (iT rfl)<|gK (iT rfl)<|iH<|jl rfl rfl rfl fun w' ia=>.inr ⟨k,tb,?_,rfl,ia.sub (ar _)⟩
   rw[vt,IM];simp only[rO,ol,abx]
  refine gL<|il ?_
  obtain⟨_,t',nC,Og,Ei,rfl⟩:t1=false/\∃t' nC,na=some t'/\HT t' nb nC/\H2=(Rx tb (nw nb (max (oU (rs.take k)) ((lg r).count 58+(lg r).count 42)) (max (oY (rs.take k)) ((lg r).count 47))) 87)::(nC++[Rx ca [Pt tb 0] 67,Rx cb [S (lg r)] 9,Rx cc [I (k:Nat)] 3]):=by
   rcases hJ with h|⟨h,_⟩
   ·exact h
   rw[pA] at h;cases h
  refine gD<|gA (iy k (by omega))<|gB<|gC ?_
  have q4:Ap f r:=bD fun h=>by
   have:=(Eh pz (hg r sK) (k+1)).2 h;rw[ol,Og] at this;cases this
  obtain⟨t2,h5,h6⟩:=(Eh pz (hg r sK) (k+1)).1 q4;rw[ol,Og] at h5;cases h5;refine hO (H':=Rx ca [Pt tb 0] 67::Rx tb (nw nb (oU (rs.take (k+1))) (oY (rs.take (k+1)))) 87::nC) (fun w1 fa=>?_) (ih (N-1) _ _ (by omega) ⟨k+1,t',_,nC,by omega,?_,h6,r9.pM (by have:=hl r sK;omega) _,Ei,.of rfl,rfl⟩)
  ·rw[abv tW,abw tW];have p1:=oN [[Rx tb (nw nb (max (oU (rs.take k)) ((lg r).count 58+(lg r).count 42)) (max (oY (rs.take k)) ((lg r).count 47))) 87],nC,[Rx ca [Pt tb 0] 67],[Rx cb [S (lg r)] 9],[Rx cc [I (k:Nat)] 3]] [0,1,2,3,4] [3,4,2,0,1] (by decide);have h7:=fa.perm (H':=[Rx cb [S (lg r)] 9,Rx cc [I (k:Nat)] 3]++(Rx ca [Pt tb 0] 67::Rx tb (nw nb (max (oU (rs.take k)) ((lg r).count 58+(lg r).count 42)) (max (oY (rs.take k)) ((lg r).count 47))) 87::nC)) (by simpa using p1);exact h7.sub (aG _ _)
  rw[vt,IM];simp only[rO,ol,Og]
 refine ir rfl<|gz ?_;have hke:k=rs.length:=by omega
 subst hke;rw[cH] at vt;rw[b8];exact gD<|gA (gG (b:=ca) (off:=0) (wf:=true) (l:=[Pt tb 0]) (T:=67) (fz:=(0,0)) (v:=Pt tb 0) Tryd.isAgg67 rfl (by simp) rfl)<|gF<|gF<|gC<|jl rfl rfl rfl fun w' ia=>.inl ⟨t,tb,nb,Hn,vt,rfl,ht,ia.sub (ai _ _)⟩
theorem vq.old {w w1:World} {sv:Value} {l:List (List UInt8)} {H:SH} (h:vq w sv l) (hw:HF w (fun _=>False) H w1):vq w1 sv l:=by
 obtain⟨ad,cp,rfl,hc⟩:=h;refine⟨ad,cp,rfl,fun j p hj=>?_⟩;obtain⟨b,o,e,h1⟩:=hc j p hj;exact⟨b,o,e,hw.pT h1 id⟩
theorem K7 (w:World) (rs:List (List Tok)) (sv:Value) (hg:∀r∈rs,Gt.Good r) (hl:∀r∈rs,(lg r).length <=20000) (oE:∀r∈rs,∀c∈lg r,c≠92) (hn:rs.length<=1000000) (pe:vq w sv (rs.map lg)):Calls Tryd.prog 27 #[sv] w fun e w'=>e=.returned (I (match rO new (rs.map lg) 0 with|.inl _=> -1|.inr j=>(j:Int)))/\HF w (fun _=>False) [] w':=by
 refine enter (fun _=>False) [] Tryd.func27 rfl Tryd.ntmps27 rfl rfl (HF.start w _) fun c hc=>?_
 subst hc;refine gz<|gD<|gF<|gC<|gz<|gD<|gB<|iP (fun v H2=>∃tb,v=.tuple #[Pt tb 0,I (match rO new (rs.map lg) 0 with|.inl _=> -1|.inr j=>(j:Int))]/\H2=[]) Tryd.call29 rfl rfl (fun w1 fa=>(K5 w1 rs sv hg hl oE hn (pe.old fa)).mono fun e w' h=>?_) ?_
 ·rcases h with⟨t,tb,nb,Hn,h1,h2,h3,h4⟩|⟨j,tb,h1,h2,h3⟩
  ·rw[h1];exact⟨_,_,h2,fa.o9 (h4.sub (ar _)) (by simp),tb,rfl,rfl⟩
  rw[h1];exact⟨_,_,h2,fa.o9 h3 (by simp),tb,rfl,rfl⟩
 rintro v H2 ⟨tb,rfl,rfl⟩;exact gB<|gA (iz rfl rfl)<|gA (iz rfl rfl)<|gF<|gC<|gz<|gD<|gB<|gF<|gC<|ic rfl rfl fun w' ia=>⟨rfl,ia⟩
end Go.Proofs
