/- Lemmas of the walk and plain facts (GtQa .. JlP3). -/
import Derived.Test.YtmneeannkgnbpaaDoorL1
import Derived.Test.YtmneeannkgnbpaaDoorP27
import Derived.Test.YtmneeannkgnbpaaDoorP01
namespace Gt
open Gs Tr
structure Tb (F0:F) (p0:List UInt8) (cP cS:Nat):Prop where
 ok:∀s v,F0 s=some v->Ok false s
 w:∀s v,F0 s=some v->nW s<=cP
 sl:∀s v,F0 s=some v->nS s<=cS
 nd:∀t,¬(47::47::t)<:+p0
structure IA (F0:F) (p0:List UInt8) (n:T0) (f:F) (pre:List Tok) (p:List UInt8) (vs:Vs):Prop where
 ur:oG true n f
 nt:n.nt≠2
 sub:∀s v,f s=some v->F0 (pre++s)=some v
 ne:∃s v,f s=some v
 hd:∃c q,p=c::q/\∀s v,f s=some v->∃r,s=.b c::r
 rL:pL pre p0 vs p
structure IB (F0:F) (p0:List UInt8) (pre:List Tok) (c:UInt8) (q:List UInt8) (vs:Vs) (wn:List UInt8) (wk:T0) (fw:F):Prop where
 ur:oG true wk fw
 nt:wk.nt=2
 path:wk.path=58::wn
 wd:word wn
 sub:∀s v,fw s=some v->F0 (pre++.P wn::s)=some v
 ne:∃s v,fw s=some v
 rL:pL pre p0 vs (c::q)
 QO:c≠47
structure Gh where
 e:Sk
 pre:List Tok
 c:UInt8
 q:List UInt8
 vs:Vs
 wn:List UInt8
 wk:T0
 fw:F
structure IG (F0:F) (p0:List UInt8) (g:Gh):Prop where
 ib:IB F0 p0 g.pre g.c g.q g.vs g.wn g.wk g.fw
 e:∃P nt pr h full kids,g.e=⟨P++g.c::g.q,.node () P [] true nt pr h full kids,g.vs.length⟩/\kids[kids.length-1]? =some g.wk
def U (u:List UInt8->List UInt8) (vs:Vs):Vs:=vs.map fun x=>(x.1,u x.2)
theorem Fc (u:List UInt8->List UInt8) (vs:Vs):(U u vs).length =vs.length:=aQ _
theorem agh (u:List UInt8->List UInt8) (vs:Vs) (n:Nat):(U u vs).take n=U u (vs.take n):=(List.map_take ..).symm
theorem Xv (u:List UInt8->List UInt8) (vs ws:Vs):U u (vs++ws)=U u vs++U u ws:=dX
def SI (F0:F) (p0:List UInt8):List UInt8->Vs->List Gh->Prop
 |_,_,[]=>True
 |p,vs,g::gs=>IG F0 p0 g/\p<:+g.e.path/\vs.take g.vs.length=g.vs/\gs.length<=nS g.pre/\SI F0 p0 g.e.path g.vs gs
theorem SI.zj {F0:F} {p0 p p':List UInt8} {vs:Vs}:∀{gs:List Gh},SI F0 p0 p vs gs->p'<:+p->SI F0 p0 p' vs gs
 |[],_,_=>trivial
 |_::_,⟨h1,h2,h3,h4,h5⟩,h=>⟨h1,h.trans h2,h3,h4,h5⟩
theorem SI.more {F0:F} {p0 p:List UInt8} {vs:Vs} (ws:Vs):∀{gs:List Gh},SI F0 p0 p vs gs->SI F0 p0 p (vs++ws) gs
 |[],_=>trivial
 |g::_,⟨h1,h2,h3,h4,h5⟩=>⟨h1,h2,by
   have hl:g.vs.length<=vs.length:=by
    have:=congrArg List.length h3;rw[eH] at this;omega
   rw[cE hl];exact h3,h4,h5⟩
def DJ:List Gh->Nat
 |[]=>0
 |g::gs=>1+size g.wk+DJ gs
def Snd (F0:F) (p0:List UInt8) (u:List UInt8->List UInt8) (r:n6):Prop:=(∃s k v,r.h=some k/\F0 s=some (k,r.full)/\MT s p0=some v/\r.ps=U u v)\/(r.h=none/\r.full=[])
structure u9 (F0:F) (p0:List UInt8) (s:List Tok) (k:Nat) (full:List UInt8) (v:Vs):Prop where
 f:F0 s=some (k,full)
 m:MT s p0=some v
 mT:∀x w,F0 x=some w->MT x p0≠none->¬BT x s
 o1:∀x w,F0 x=some w->BT x s->MT x (other p0)=none
 o2:∀x w,F0 x=some w->BT x s->¬PT (yF x s) x 0 p0
 o3:(other p0).length <p0.length->∀x w,F0 x=some w->BT x s->¬Ak x (other p0)
abbrev CT:=List Tok->Nat->List UInt8->Prop
def Fe (pre:List Tok) (f:F):CT:=fun s k full=>∃s',s=pre++s'/\f s'=some (k,full)
def CB (pre:List Tok) (wn:List UInt8) (fw:F):CT:=fun s k full=>∃s3,s=pre++.P wn::s3/\fw s3=some (k,full)
def MB (pre:List Tok) (f:F) (gs:List Gh):CT:=fun s k full=>∃g MC,gs=g::MC/\CB g.pre g.wn g.fw s k full/\pre≠[]/\∀y w,f y=some w->BT (pre++y) s/\yF (pre++y) s<=pre.length
def CA (pre:List Tok) (f:F) (gs:List Gh):CT:=fun s k full=>Fe pre f s k full\/MB pre f gs s k full
structure vc (F0:F) (p0:List UInt8) (cP:Nat) (u:List UInt8->List UInt8) (C:CT) (r:n6):Prop where
 len:r.ps.length<=cP
 snd:Snd F0 p0 u r
 Xw:∀s k full v,u9 F0 p0 s k full v->C s k full->r.h=some k/\r.full=full/\r.ps=U u v
theorem vc.imp {F0:F} {p0:List UInt8} {cP:Nat} {u:List UInt8->List UInt8} {C C':CT} {r:n6} (h:vc F0 p0 cP u C r) (hc:∀s k full v,u9 F0 p0 s k full v->C' s k full->C s k full):vc F0 p0 cP u C' r:=
 ⟨h.len,h.snd,fun s k full v hb hC=>h.Xw s k full v hb (hc s k full v hb hC)⟩
theorem vc.no {F0:F} {p0:List UInt8} {cP:Nat} {u:List UInt8->List UInt8} {C:CT} {ps:Vs} {ts:Bool} (hl:ps.length<=cP) (h:∀s k full v,u9 F0 p0 s k full v->¬C s k full):vc F0 p0 cP u C ⟨none,ps,ts,[]⟩:=
 ⟨hl,.inr ⟨rfl,rfl⟩,fun s k full v hb hC=>absurd hC (h s k full v hb)⟩
theorem pL.lt {s:List Tok} {a p:List UInt8} {v:Vs} (h:pL s a v p) (hs:s≠[]):p.length<a.length:=by
 cases h with
 |nil=>exact absurd rfl hs
 |b h=>have:=h.zj.length_le;simp only[aI];omega
 |P h0 h=>
  have:=h.zj.length_le;rw[aA] at this;have:=Cf a;omega
theorem QP {s:List Tok} {v:Vs} (h:MT s []=some v):s=[]\/∃n r,s=.A n::r:=by
 match s,h with
 |[],_=>exact .inl rfl
 |.b c::s,h=>simp[MT] at h
 |.P n::s,h=>simp[MT,af6] at h
 |.A n::s,_=>exact .inr ⟨n,s,rfl⟩
theorem u9.MD {F0:F} {p0:List UInt8} {s:List Tok} {k:Nat} {full:List UInt8} {v vs:Vs} (hb:u9 F0 p0 s k full v) {y r:List Tok} {w} (hy:y≠[]) (he:pL y p0 vs [47]) (hx:F0 (y++r)=some w) (qi:BT (y++r) s):False:=by
 have mS:=he.lt hy;have Bx:1<p0.length:=mS
 have zF:p0[p0.length-1]? =some 47:=by
  obtain⟨t,rfl⟩:=he.zj;simp
 have ME:other p0=p0.dropLast:=by
  unfold other;rw[if_pos ⟨Bx,zF⟩,dn]
 refine hb.o3 (by rw[ME,fx];omega) _ _ hx qi ?_;rw[ME];have:=he.last (by simp);exact this.Ak (af7 r)
theorem u9.more {F0:F} {p0:List UInt8} {s:List Tok} {k:Nat} {full:List UInt8} {v vs:Vs} (hb:u9 F0 p0 s k full v) {pre:List Tok} {p:List UInt8} {w} (nG:pre≠[]) (hp:p≠[]) (he:pL pre p0 vs p) (hx:F0 (pre++bs (p++[47]))=some w) (qi:BT (pre++bs (p++[47])) s):False:=by
 by_cases ot:[47]<:+p0
 ·obtain⟨t,ht⟩:=ot
  obtain⟨p1,rfl⟩:∃p1,p=p1++[47]:=by
   obtain⟨a,ha⟩:=he.zj;rcases cV p with e|⟨l,x,e⟩
   ·exact absurd e hp
   rw[cW] at e;subst e;rw[<-ha,<-aw] at ht;have:=List.append_inj_right' ht rfl;exact⟨l,by rw[this]⟩
  have h2:pre++bs (p1++[47]++[47])=(pre++bs p1)++[.b 47,.b 47]:=by simp[bs]
  rw[h2] at hx qi;exact hb.MD (by simp[nG]) he.Xo hx qi
 have ME:other p0=p0++[47]:=by
  unfold other;rw[if_neg];rintro⟨_,h⟩;apply ot;obtain⟨h1,h2⟩:=ae.1 h;refine⟨p0.dropLast,?_⟩;have mW:p0≠[]:=by rintro rfl;simp at h1
  have:=List.dropLast_concat_getLast mW;rw[List.getLast_eq_getElem,h2] at this;exact this
 have h1:=hb.o1 _ _ hx qi;have h3:=(he.snoc [47] hp).MT (r:=bs (p++[47]));rw[<-ME,h1] at h3;have h4:=G2 (p++[47]) [] (p++[47]);rw[aS] at h4;rw[h4,if_pos (by simp)] at h3;simp[MT] at h3
section
variable {F0:F} {p0:List UInt8} {u:List UInt8->List UInt8} {cP cS:Nat}
def RA (F0:F) (p0:List UInt8) (u:List UInt8->List UInt8) (cP cS M:Nat):Prop:=∀n f pre p vs gs,size n+DJ gs<=M->IA F0 p0 n f pre p vs->SI F0 p0 p vs gs->gs.length<=nS pre->∃g r,n7 u cP cS g n p (U u vs) (gs.map Gh.e)=some r/\vc F0 p0 cP u (CA pre f gs) r
def RB (F0:F) (p0:List UInt8) (u:List UInt8->List UInt8) (cP cS M:Nat):Prop:=∀pre c q vs wn wk fw gs P idx nt pr h full kids,1+size wk+DJ gs<=M->IB F0 p0 pre c q vs wn wk fw->SI F0 p0 (c::q) vs gs->gs.length<=nS pre->idxOf c idx=none->kids[kids.length-1]? =some wk->
 ∃g r,n7 u cP cS g (.node () P idx true nt pr h full kids) (P++c::q) (U u vs) (gs.map Gh.e)=some r/\vc F0 p0 cP u (CB pre wn fw) r
theorem IB.room {pre c q vs wn wk fw} (tb:Tb F0 p0 cP cS) (h:IB F0 p0 pre c q vs wn wk fw):vs.length+1<=cP:=by
 obtain⟨s,v,hs⟩:=h.ne;have:=tb.w _ _ (h.sub s v hs);rw[G4,<-h.rL.len] at this;simp only[nW] at this;omega
theorem agj (a:List UInt8):a.takeWhile (· ≠47)=a.take (sl a):=cZ.1 (fi _)
theorem agk {M:Nat} (tb:Tb F0 p0 cP cS) (ih:RA F0 p0 u cP cS M):RB F0 p0 u cP cS (M+1):=by
 intro pre c q vs wn wk fw gs P idx nt pr h full kids hM zk q9 QQ hi hl;have ve:=zk.room tb;have zY:sl (c::q)≠0:=by rw[My,if_neg zk.QO];omega
 have MF:(U u vs).length <cP:=by rw[Fc];omega
 have qn:=zk.wd.1
 have eU:U u vs++[(wn,u ((c::q).takeWhile (· ≠47)))]=U u (vs++[(wn,(c::q).take (sl (c::q)))]):=by
  rw[Xv,agj];rfl
 have xM:pL (pre++[.P wn]) p0 (vs++[(wn,(c::q).take (sl (c::q)))]) ((c::q).drop (sl (c::q))):=zk.rL.wx (.P zY .nil)
 have QR:∀s3,MT (pre++.P wn::s3) p0=(MT s3 ((c::q).drop (sl (c::q)))).map ((vs++[(wn,(c::q).take (sl (c::q)))])++ ·):=fun s3=>by
  have:=xM.MT (r:=s3);rwa[aw] at this
 have hlen:∀x:List UInt8×List UInt8,(U u vs++[x]).length <=cP:=fun x=>by rw[ax,Fc];exact ve
 by_cases hs:sl (c::q)<(c::q).length
 ·obtain⟨t,ht⟩:=Xq hs
  have Ff:∀s k full v s3,u9 F0 p0 s k full v->s=pre++.P wn::s3->s3≠[]:=by
   rintro s k full v s3 hb rfl rfl;have:=hb.m;rw[QR,ht] at this;simp[MT] at this
  have ye:=zk.ur;have oy:=zk.nt;have Ci:=zk.path;have mU:=zk.sub
  cases ye with
  |st wn' Ea hp agm=>
   simp only[rn] at oy
   omega
  |ca hn=>simp only[rn] at oy;omega
  |pa hh nN=>
   simp only[oZ,aM,true_and] at Ci;subst Ci;refine⟨1,_,age rfl hi rfl hl qn hs MF,vc.no (hlen _) fun s k full v hb hC=>?_⟩;obtain⟨s3,rfl,hf⟩:=hC;have:=nN s3 (Ff _ _ _ _ _ hb rfl)
   rw[this] at hf;cases hf
  |pk hh vM hk oX ot mW=>
   rename_i n ajR vT h2 wQ k;simp only[oZ,aM,true_and] at Ci;subst Ci
   obtain⟨g,r,h1,h2⟩:=ih k _ (pre++[.P n]) ((c::q).drop (sl (c::q))) (vs++[(n,(c::q).take (sl (c::q)))]) gs (by simp only[size,size.zh] at hM;omega)
    {
     ur:=hk
     nt:=by rw[oX];decide
     sub:=fun s v hv=>by
      have CE:(if s=[] then none else fw s)=some v:=hv;split at CE
      ·cases CE
      have:=mU s v CE;rwa[aw]
     ne:=by
      obtain⟨s,v,px,mJ⟩:=mW;exact⟨s,v,(if_neg px).trans mJ⟩
     hd:=⟨47,t,ht,fun s v hv=>by
      have CE:(if s=[] then none else fw s)=some v:=hv;split at CE
      ·cases CE
      rename_i px
      exact(ot s v CE).resolve_left px⟩
     rL:=xM} ((q9.more _).zj (ef _ _)) (by rw[Bb];simp only[nS];omega)
   refine⟨g+1,r,?_,h2.imp fun s k' D9 v hb hC=>?_⟩
   ·rw[af3 rfl hi rfl hl qn hs MF,eU];exact h1
   obtain⟨s3,rfl,hf⟩:=hC;exact .inl ⟨s3,by simp,(if_neg (Ff _ _ _ _ _ hb rfl)).trans hf⟩
 have IM:(c::q).drop (sl (c::q))=[]:=bE (by omega)
 have rj:∀s k full v s3,u9 F0 p0 s k full v->s=pre++.P wn::s3->fw s3=some (k,full)->s3=[]/\v=vs++[(wn,(c::q).take (sl (c::q)))]:=by
  rintro s k full v s3 hb rfl hf;have hm:=hb.m;rw[QR,IM] at hm;obtain⟨v3,QS,hv4⟩:=aN.1 hm;rcases QP QS with rfl|⟨n,r,rfl⟩
  ·simp[MT] at QS;subst QS;exact⟨rfl,by rw[<-hv4];simp⟩
  exfalso;have nk:=tb.ok _ _ hb.f;have e1:pre++.P wn::.A n::r=(pre++[.P wn])++.A n::r:=by simp
  have ago:∀(x:List Tok) (sl:Bool),¬Ok sl (x++.P wn::.A n::r):=by
   intro x
   induction x with
   |nil=>
    intro sl hx
    rcases hx.2.2.1 with h|⟨_,h⟩<;>cases h
   |cons y x Xx=>
    intro sl hx
    cases y with
    |b d=>exact Xx _ hx.2
    |P m=>exact Xx _ hx.2.2.2
    |A m=>have:=hx.2.2;cases x<;>cases this
  exact ago _ _ nk
 have key:∀(A9 zi:List UInt8) (ww:Bool) (Ba:Nat) (wh:Option Nat) (G3:List T0),wk=.node () (58::wn) A9 ww 2 Ba wh zi G3->fw []=wh.map (fun k=>(k,zi))->
   ∃g r,n7 u cP cS g (.node () P idx true nt pr h full kids) (P++c::q) (U u vs) (gs.map Gh.e)=some r/\vc F0 p0 cP u (CB pre wn fw) r:=by
  intro A9 zi ww Ba wh G3 sJ hh;subst sJ
  cases wh with
  |none=>
   obtain⟨ts,h1⟩:=agf (u:=u) (cP:=cP) (cS:=cS) (f:=0) (P:=P) (idx:=idx) (full:=full) (nt:=nt) (pr:=pr) (h:=h) (ps:=U u vs) (sk:=gs.map Gh.e) rfl hi rfl hl qn hs MF;refine⟨1,_,h1,vc.no (hlen _) fun s k full v hb hC=>?_⟩;obtain⟨s3,rfl,hf⟩:=hC;obtain⟨rfl,_⟩:=rj _ _ _ _ _ hb rfl hf
   rw[hh] at hf;cases hf
  |some k=>
   refine⟨1,_,af4 rfl hi rfl hl qn hs MF,hlen _,.inl ⟨pre++[.P wn],k,_,rfl,zk.sub [] _ hh,?_,eU⟩,fun s k' D9 v hb hC=>?_⟩
   ·rw[QR,IM];simp[MT]
   obtain⟨s3,rfl,hf⟩:=hC;obtain⟨rfl,hv⟩:=rj _ _ _ _ _ hb rfl hf;rw[hh] at hf;cases hf;exact⟨rfl,rfl,by rw[hv];exact eU⟩
 have ye:=zk.ur;have oy:=zk.nt;have Ci:=zk.path
 cases ye with
 |st wn' Ea hp agm=>
  simp only[rn] at oy
  omega
 |ca hn=>simp only[rn] at oy;omega
 |pa hh nN=>
  simp only[oZ,aM,true_and] at Ci;subst Ci
  exact key _ _ _ _ _ _ rfl hh
 |pk hh vM hk oX ot mW=>
  simp only[oZ,aM,true_and] at Ci;subst Ci;exact key _ _ _ _ _ _ rfl hh
end
section
variable {F0:F} {p0:List UInt8} {u:List UInt8->List UInt8} {cP cS:Nat}
theorem agp {M:Nat} (G5:RB F0 p0 u cP cS M) {g:Gh} {gs:List Gh} {p:List UInt8} {vs:Vs} (q9:SI F0 p0 p vs (g::gs)) (hM:DJ (g::gs)<=M):
  (U u vs).take g.e.ny=U u g.vs/\g.e.ny<=(U u vs).length /\p<:+g.e.path/\∃k r,n7 u cP cS k g.e.node g.e.path (U u g.vs) (gs.map Gh.e)=some r/\vc F0 p0 cP u (CB g.pre g.wn g.fw) r:=by
 obtain⟨hg,h2,h3,h4,h5⟩:=q9;obtain⟨P,nt,pr,h,full,kids,he,hl⟩:=hg.e;have hc:g.e.ny=g.vs.length:=by rw[he]
 have hle:g.vs.length<=vs.length:=by
  have:=congrArg List.length h3;rw[eH] at this;omega
 refine⟨by rw[hc,agh,h3],by rw[hc,Fc];exact hle,h2,?_⟩;have hp:g.e.path=P++g.c::g.q:=by rw[he]
 have hn:g.e.node=.node () P [] true nt pr h full kids:=by rw[he]
 rw[hp] at h5;rw[hn,hp];exact G5 g.pre g.c g.q g.vs g.wn g.wk g.fw gs P [] nt pr h full kids hM hg.ib (h5.zj (eT _ _)) h4 rfl hl
theorem IA.room {n f pre p vs} (tb:Tb F0 p0 cP cS) (h:IA F0 p0 n f pre p vs):vs.length<=cP/\nS pre<=cS:=by
 obtain⟨s,v,hs⟩:=h.ne;have h1:=tb.w _ _ (h.sub s v hs);have h2:=tb.sl _ _ (h.sub s v hs);rw[G4,<-h.rL.len] at h1;rw[Bb] at h2;omega
theorem MB.one {pre:List Tok} {f:F} {gs:List Gh} {s k full} (h:MB pre f gs s k full):pre≠[]/\∀y w,f y=some w->BT (pre++y) s/\yF (pre++y) s<=pre.length:=by
 obtain⟨_,_,_,_,h1,h2⟩:=h;exact⟨h1,h2⟩
theorem agq {pr vT num:Nat} {full wQ n:List UInt8} {pre:List Tok} {p:List UInt8} {vs:Vs} {gs:List Gh} (tb:Tb F0 p0 cP cS) (qa:IA F0 p0 (.node () [] [] true 3 pr none full [.node () (47::42::n) [] false 3 vT (some num) wQ []]) (one [.b 47,.A n] (num,wQ)) pre p vs):
  ∃g r,n7 u cP cS g (.node () [] [] true 3 pr none full [.node () (47::42::n) [] false 3 vT (some num) wQ []]) p (U u vs) (gs.map Gh.e)=some r/\vc F0 p0 cP u (CA pre (one [.b 47,.A n] (num,wQ)) gs) r:=by
 obtain⟨c,q,rfl,hd⟩:=qa.hd;obtain⟨r0,e0⟩:=hd _ _ (x9 _ _);have hc:c=47:=by simp at e0;exact e0.1.symm
 subst hc;have hF:=qa.sub _ _ (x9 _ _);have hw:=tb.w _ _ hF;rw[G4,<-qa.rL.len] at hw;simp only[nW] at hw
 have hm:MT (pre++[.b 47,.A n]) p0=some (vs++[(n,47::q)]):=by
  rw[qa.rL.MT];simp[MT]
 have hU:U u vs++[(n,u (47::q))]=U u (vs++[(n,47::q)]):=by rw[Xv];rfl
 refine⟨1,_,af5 (by rw[Fc];omega),by simp only[ax,Fc,cX];omega,.inl ⟨_,num,_,rfl,hF,hm,hU⟩,fun s k D9 v hb hC=>?_⟩;rcases hC with⟨s',rfl,sT⟩|hC
 ·unfold one at sT;split at sT
  ·rename_i e;subst e;cases sT;have:=hb.m;rw[hm] at this;cases this;exact⟨rfl,rfl,hU⟩
  cases sT
 obtain⟨h1,h2⟩:=hC.one;obtain⟨qi,qs⟩:=h2 _ _ (x9 _ _);refine absurd ?_ (hb.o2 _ _ hF qi);refine qa.rL.PT (r:=[.b 47,.A n]) (d:=yF (pre++[.b 47,.A n]) s) (i:=0) ⟨rfl,?_⟩;show if yF (pre++[.b 47,.A n]) s<0+pre.length+1 then True else _
 rw[if_pos (by omega)];trivial
theorem oG.nt3 {b:Bool} {k:T0} {f:F} (hr:oG b k f) (h1:k.nt=3):k.kids≠[]:=by
 cases hr with
 |st wn wk hp oy=>simp only[rn] at h1;omega
 |pa=>cases h1
 |pk=>cases h1
 |ca=>exact fun h=>by cases h
theorem St.ags {path idx:List UInt8} {mm:Bool} {nt:Nat} {h:Option Nat} {full:List UInt8} {kids:List T0} {f:F} (x:St true path idx mm nt h full kids f) (p:List UInt8) (ps:Vs):∃ts,(if p=[47]/\mm=true/\nt≠1 then some ⟨none,ps,true,[]⟩
    else if p=[47]/\nt=0 then some ⟨none,ps,true,[]⟩
    else match idxOf 47 idx with
    |some i=>
     match kids[i]? with
     |some k=>(if k.nt=3/\k.kids=[] then none else some ⟨none,ps,(decide (k.path.length=1)&&k.h.isSome)||(decide (k.nt=3)&&((k.kids.head?).map (·.h.isSome)).getD false),[]⟩)
     |none=>none
    |none=>some (⟨none,ps,false,[]⟩:n6))=some ⟨none,ps,ts,[]⟩:=by
 split
 ·exact⟨_,rfl⟩
 split
 ·exact⟨_,rfl⟩
 cases hi:idxOf 47 idx with
 |none=>exact⟨_,rfl⟩
 |some i=>
  have hj:=Eb hi;have mS:=(ae.1 hj).1;have ym:i<kids.length:=by have:=x.hlen;omega
  have hk:=ao ym;have hr:=x.hk i 47 _ hj hk;simp only[hk]
  have nN:¬(kids[i].nt =3/\kids[i].kids =[]):=by
   rintro⟨h1,h2⟩;exact oG.nt3 hr h1 h2
  rw[if_neg nN];exact⟨_,rfl⟩
end
section
variable {F0:F} {p0:List UInt8} {u:List UInt8->List UInt8} {cP cS:Nat}
variable {path idx full:List UInt8} {mm:Bool} {nt pr:Nat} {h:Option Nat} {kids:List T0} {f:F} {pre:List Tok} {p:List UInt8} {vs:Vs} {gs:List Gh}
theorem MG (x:St true path idx mm nt h full kids f) (rL:pL pre p0 vs p) {s:List Tok} {k:Nat} {fl:List UInt8} {v:Vs} (hb:u9 F0 p0 s k fl v) (hc:Fe pre f s k fl):
  ∃r,s=pre++(bs path++r)/\f (bs path++r)=some (k,fl)/\path<+:p/\∃v',MT r (p.drop path.length)=some v'/\v=vs++v':=by
 obtain⟨s',rfl,sT⟩:=hc;obtain⟨r,rfl⟩:=x.nG _ _ sT;have hm:=hb.m;rw[rL.MT,G2] at hm;by_cases hp:path.isPrefixOf p=true
 ·rw[if_pos hp] at hm;obtain⟨v',h1,h2⟩:=aN.1 hm;exact⟨r,rfl,sT,dM.1 hp,v',h1,h2.symm⟩
 rw[if_neg hp] at hm;cases hm
theorem MH (x:St true path idx mm nt h full kids f) {c:UInt8} {q:List UInt8} (hp:p=path++c::q) (rL:pL pre p0 vs p) {s:List Tok} {k:Nat} {fl:List UInt8} {v:Vs} (hb:u9 F0 p0 s k fl v) (hc:Fe pre f s k fl):
  (∃r,s=(pre++bs path)++.b c::r/\f (bs path++.b c::r)=some (k,fl))\/∃m r,s=(pre++bs path)++.P m::r/\f (bs path++.P m::r)=some (k,fl):=by
 obtain⟨r,h1,h2,_,v',h4,_⟩:=MG x rL hb hc;subst hp;rw[eE] at h4;rw[<-aw] at h1
 match r,h1,h2,h4 with
 |[],_,_,h4=>simp[MT] at h4
 |.b d::r,h1,h2,h4=>
  have:d=c:=by
   have h5:(if some c=some d then MT r q else none)=some v':=h4;by_cases e:c=d
   ·exact e.symm
   rw[if_neg (fun h=>e (by simpa using h))] at h5;cases h5
  subst this
  exact .inl ⟨r,h1,h2⟩
 |.P m::r,h1,h2,_=>exact .inr ⟨m,r,h1,h2⟩
 |.A m::r,_,h2,_=>rw[x.hA] at h2;cases h2
theorem Xy (x:St true path idx true nt h full kids f) (sub:∀s v,f s=some v->F0 (pre++s)=some v) (hd:∀s v,f s=some v->∃r c,s=.b c::r) {c:UInt8} {q:List UInt8} (rL:pL (pre++bs path) p0 vs (c::q)) {s:List Tok} {k:Nat} {fl:List UInt8} {v:Vs} (hb:u9 F0 p0 s k fl v):¬MB pre f gs s k fl:=fun hs=>by
 obtain⟨wn,wk,_,_,_,_,⟨t,w,ht⟩,_⟩:=x.hw rfl;obtain⟨_,h2⟩:=hs.one;obtain⟨qi,qs⟩:=h2 _ _ ht
 have hP:path≠[]:=by
  rintro rfl;obtain⟨r,c,e⟩:=hd _ _ ht;cases e
 have hl:0<path.length:=aU.2 hP;refine hb.o2 _ _ (sub _ _ ht) qi ?_
 have:=rL.PT (r:=.P wn::t) (d:=yF (pre++(bs path++.P wn::t)) s) (i:=0) (by
  show if yF (pre++(bs path++.P wn::t)) s<0+(pre++bs path).length then c::q≠[] else _
  rw[if_pos (by rw[ax,Z0];omega)]
  simp)
 rwa[aw] at this
theorem agt {M:Nat} (tb:Tb F0 p0 cP cS) (JV:RA F0 p0 u cP cS M) (G5:RB F0 p0 u cP cS M) (x:St true path idx mm nt h full kids f) (qa:IA F0 p0 (.node () path idx mm nt pr h full kids) f pre p vs) (q9:SI F0 p0 p vs gs) (QQ:gs.length<=nS pre) (hM:size (.node () path idx mm nt pr h full kids)+DJ gs<=M+1):
    ∃g r,n7 u cP cS g (.node () path idx mm nt pr h full kids) p (U u vs) (gs.map Gh.e)=some r/\vc F0 p0 cP u (CA pre f gs) r:=by
  have ve:=qa.room tb;have hlen:(U u vs).length <=cP:=by rw[Fc];exact ve.1
  obtain⟨c0,q0,oT,hd⟩:=qa.hd;have agu:p≠[]:=by rw[oT];simp
  have uD:∀s v,f s=some v->∃r c,s=.b c::r:=fun s v hs=>by
    obtain⟨r,e⟩:=hd s v hs;exact⟨r,c0,e⟩
  have agv:DJ gs<=M:=by simp only[size] at hM;omega
  have pop:∀(ps:List UInt8),ps<:+p->(∀s k fl v,u9 F0 p0 s k fl v->¬Fe pre f s k fl)->(∀(e:Sk) (sk:List Sk),ps<:+e.path->e.ny<=(U u vs).length ->∀g,n7 u cP cS (g+1) (.node () path idx mm nt pr h full kids) p (U u vs) (e::sk)=n7 u cP cS g e.node e.path ((U u vs).take e.ny) sk)->gs≠[]->
      ∃g r,n7 u cP cS g (.node () path idx mm nt pr h full kids) p (U u vs) (gs.map Gh.e)=some r/\vc F0 p0 cP u (CA pre f gs) r:=by
    intro ps B9 wq agw mW
    cases gs with
    |nil=>exact absurd rfl mW
    |cons g gs=>
      obtain⟨h1,h2,h3,k,r,h4,h5⟩:=agp G5 q9 agv;refine⟨k+1,r,?_,h5.imp fun s k fl v hb hC=>?_⟩
      · rw[aX,agw _ _ (B9.trans h3) h2,h1];exact h4
      rcases hC with hC|⟨g',MC,e,hC,_⟩
      · exact absurd hC (wq s k fl v hb)
      cases e;exact hC
  by_cases MI:path<+:p
  · obtain⟨t,rfl⟩:=MI
    cases t with
    |nil=>
      rw[aS] at*
      cases h with
      |some k=>
        have hf:f (bs path)=some (k,full):=x.hh
        have hm:MT (pre++bs path) p0=some vs:=by
          rw[qa.rL.MT];have:=G2 path [] path;rw[aS] at this;rw[this];simp[MT]
        refine⟨1,_,get_eq rfl rfl,hlen,.inl ⟨_,k,vs,rfl,qa.sub _ _ hf,hm,rfl⟩,fun s k' fl v hb hC=>?_⟩;rcases hC with hC|hC
        · obtain⟨r,hs,hr,_,v',Fg,hv⟩:=MG x qa.rL hb hC
          have:r=[]:=by
            rw[cH] at Fg;rcases QP Fg with e|⟨n,r',rfl⟩
            · exact e
            rw[x.hA] at hr;cases hr
          subst this;rw[aS,hf] at hr;cases hr;simp[MT] at Fg;subst Fg;rw[aS] at hv;exact⟨rfl,rfl,by rw[hv]⟩
        obtain⟨_,h2⟩:=hC.one
        exact absurd (h2 _ _ hf).1 (hb.mT _ _ (qa.sub _ _ hf) (by rw[hm];simp))
      |none=>
        have wq:∀s k fl v,u9 F0 p0 s k fl v->¬Fe pre f s k fl:=fun s k fl v hb hC=>by
          obtain⟨r,_,hr,_,v',Fg,_⟩:=MG x qa.rL hb hC;rw[cH] at Fg;rcases QP Fg with rfl|⟨n,r',rfl⟩
          · rw[aS,x.hh] at hr;cases hr
          rw[x.hA] at hr;cases hr
        by_cases rj:path=[47]\/gs=[]
        · obtain⟨ts,pz⟩:=x.ags path (U u vs);refine⟨1,_,(agb (f:=0) rfl rfl (rj.imp id fun e=>by rw[e];rfl)).trans pz,vc.no hlen fun s k fl v hb hC=>?_⟩;rcases hC with hC|hC
          · exact wq s k fl v hb hC
          rcases rj with he|rfl
          · obtain⟨h1,h2⟩:=hC.one;obtain⟨s2,w,mJ⟩:=qa.ne;have JW:=qa.rL;rw[he] at JW;exact hb.MD h1 JW (qa.sub _ _ mJ) (h2 _ _ mJ).1
          obtain⟨_,_,e,_⟩:=hC;cases e
        exact pop path (fp _) wq (fun e sk h1 h2 g=>aga rfl rfl (fun e=>rj (.inl e)) h1 h2) (fun e=>rj (.inr e))
    |cons c q=>
      have xM:=qa.rL.Xo
      cases hi:idxOf c idx with
      |some i=>
        have hj:=Eb hi;have mS:=(ae.1 hj).1;have ym:i<kids.length:=by have:=x.hlen;omega
        have hk:=ao ym;have hr:=x.hk i c _ hj hk;have oX:=x.oX i _ mS hk;have nM:kids[i]∈kids:=eG ym;generalize um:kids[i]=k at hk hr oX nM
        have Xz:IA F0 p0 k (at_ f path c) (pre++bs path) (c::q) vs:=
          {
            ur:=hr
            nt:=by rcases oX with e|e<;>rw[e]<;>decide
            sub:=fun s v hs=>by
              unfold at_ at hs;split at hs
              · have:=qa.sub _ _ hs;rwa[<-aw] at this
              cases hs
            ne:=by
              obtain⟨s,v,hs⟩:=x.mW c (ap hj);exact⟨.b c::s,v,(if_pos rfl).trans hs⟩
            hd:=⟨c,q,rfl,KZ⟩
            rL:=xM}
        have tG:∀r v,f (bs path++.b c::r)=some v->at_ f path c (.b c::r)=some v:=fun r v hv=>by
          exact(if_pos rfl).trans hv
        have NY:∀y w,at_ f path c y=some w->f (bs path++y)=some w:=fun y w hy=>by
          unfold at_ at hy;split at hy
          · exact hy
          cases hy
        have rM:size k<=size.zh kids:=Mx nM
        cases mm with
        |false=>
          obtain⟨g,r,h1,h2⟩:=JV k _ (pre++bs path) (c::q) vs gs (by simp only[size] at hM;omega) Xz (q9.zj (eT _ _)) (by rw[Bb];omega);refine⟨g+1,r,(af1 rfl hi hk rfl).trans h1,h2.imp fun s k' fl v hb hC=>?_⟩;rcases hC with hC|⟨g',MC,e,hC,hn,ha⟩
          · rcases MH x rfl qa.rL hb hC with⟨r,e1,e2⟩|⟨m,r,_,e2⟩
            · exact .inl ⟨_,e1,tG _ _ e2⟩
            rw[x.qw rfl] at e2;cases e2
          refine .inr ⟨g',MC,e,hC,by simp[hn],fun y w hy=>?_⟩;have:=ha _ _ (NY _ _ hy);rw[aw];refine⟨this.1,?_⟩;rw[ax]
          omega
        |true=>
          obtain⟨wn,wk,fa,tA,QT,QU,⟨t,w,ht⟩,QV,QW⟩:=x.hw rfl;have hF:=qa.sub _ _ ht;rw[<-aw] at hF;have nk:=tb.ok _ _ hF;obtain⟨y,hy⟩:∃y,pre++bs path=y++[.b 47]:=(MA nk).resolve_left (fun h=>by cases h.2)
          have XA:path≠[]:=by
            rintro rfl;obtain⟨r,c,e⟩:=uD _ _ ht;cases e
          have Im:c≠47:=by
            rintro rfl;rw[hy] at xM;exact tb.nd q xM.behind
          have ajS:nS pre+1<=nS (pre++bs path):=by
            obtain⟨l,d,hl⟩:∃l d,path=l++[d]:=by
              rcases cV path with e|⟨l,d,e⟩
              · exact absurd e XA
              exact⟨l,d,by rw[<-cW];exact e⟩
            rw[hl,CJ,<-aw] at hy;have e1:=List.append_inj_right' hy rfl;have:d=47:=by simpa[bs] using e1
            rw[hl,Bb,this,CJ,Bb];simp[bs,nS]
          have qt:gs.length<cS:=by
            have:=tb.sl _ _ hF;rw[Bb] at this;omega
          let g0:Gh:=⟨⟨path++c::q,.node () path [] true nt pr h full kids,vs.length⟩,pre++bs path,c,q,vs,wn,wk,fun s=>f (bs path++.P wn::s)⟩
          have zF:kids[kids.length-1]? =some wk:=by
            rw[<-fa];congr 1;have:=x.hlen;simp at this;omega
          have Qw:SI F0 p0 (c::q) vs (g0::gs):=
            ⟨{
               ib:={
                       ur:=QW,nt:=QT,path:=QU,wd:=tA,sub:=fun s v hs=>by
                          have:=qa.sub _ _ hs;rwa[<-aw] at this
                       ne:=⟨t,w,ht⟩,rL:=xM,QO:=Im}
               e:=⟨path,nt,pr,h,full,kids,rfl,zF⟩},eT _ _,b8,by show gs.length<=nS (pre++bs path);omega,q9⟩
          have ajT:size k+size wk<=size.zh kids:=by
            have agx:=x.hlen;simp at agx;have mW:i≠idx.length:=by omega
            have e1:kids=kids.take idx.length++[wk]:=by
              have XB:idx.length<kids.length:=by omega
              have e2:kids.drop idx.length=[wk]:=by
                rw[bl XB,bE (by omega)];rw[ao XB] at fa;cases fa;rfl
              rw[<-e2,a8]
            have vg:k∈kids.take idx.length:=by
              rw[List.mem_take_iff_getElem];exact⟨i,by omega,by rw[<-um]⟩
            have hz:∀(l:List T0) (b:T0),size.zh (l++[b])=size.zh l+size b:=by
              intro l b
              induction l with
              |nil=>simp[size.zh]
              |cons a l ih=>simp only[aW,size.zh,ih];omega
            have:=Mx vg;rw[e1,hz];omega
          obtain⟨g,r,h1,h2⟩:=JV k _ (pre++bs path) (c::q) vs (g0::gs) (by show size k+(1+size wk+DJ gs)<=M;simp only[size] at hM;omega) Xz Qw (by show gs.length+1<=_;omega);refine⟨g+1,r,(af2 rfl hi hk rfl (by rw[aQ];exact qt)).trans (by rw[Fc];exact h1),h2.imp fun s k' fl v hb hC=>?_⟩;rcases hC with hC|hC
          · rcases MH x rfl qa.rL hb hC with⟨r,e1,e2⟩|⟨m,r,e1,e2⟩
            · exact .inl ⟨_,e1,tG _ _ e2⟩
            have hm:m=wn:=cg fun hm=>by
              rw[QV m hm] at e2;cases e2
            subst hm;refine .inr ⟨g0,gs,rfl,⟨r,e1,e2⟩,by simp[XA,bs],fun y w hy=>?_⟩;obtain⟨y',rfl⟩:=KZ _ _ hy;rw[e1];have:=Mz (pre++bs path) c m y' r;exact⟨this.1,by rw[this.2];exact bI _⟩
          exact absurd hC (Xy x qa.sub uD xM hb)
      |none=>
        cases mm with
        |true=>
          obtain⟨wn,wk,fa,tA,QT,QU,⟨t,w,ht⟩,QV,QW⟩:=x.hw rfl;have hF:=qa.sub _ _ ht;rw[<-aw] at hF;have nk:=tb.ok _ _ hF;obtain⟨y,hy⟩:∃y,pre++bs path=y++[.b 47]:=(MA nk).resolve_left (fun h=>by cases h.2)
          have Im:c≠47:=by
            rintro rfl;rw[hy] at xM;exact tb.nd q xM.behind
          have zF:kids[kids.length-1]? =some wk:=by
            rw[<-fa];congr 1;have:=x.hlen;simp at this;omega
          have nM:wk∈kids:=ap fa;have rM:size wk<=size.zh kids:=Mx nM
          obtain⟨g,r,h1,h2⟩:=G5 (pre++bs path) c q vs wn wk (fun s=>f (bs path++.P wn::s)) gs path idx nt pr h full kids (by simp only[size] at hM;omega)
            {
              ur:=QW,nt:=QT,path:=QU,wd:=tA,sub:=fun s v hs=>by
                          have:=qa.sub _ _ hs;rwa[<-aw] at this
              ne:=⟨t,w,ht⟩,rL:=xM,QO:=Im} (q9.zj (eT _ _)) (by rw[Bb];omega) hi zF
          refine⟨g,r,h1,h2.imp fun s k' fl v hb hC=>?_⟩;rcases hC with hC|hC
          · rcases MH x rfl qa.rL hb hC with⟨r,_,e2⟩|⟨m,r,e1,e2⟩
            · rw[x.nN c (FJ.1 hi)] at e2;cases e2
            have hm:m=wn:=cg fun hm=>by
              rw[QV m hm] at e2;cases e2
            subst hm;exact⟨r,e1,e2⟩
          exact absurd hC (Xy x qa.sub uD xM hb)
        |false=>
          have wq:∀s k fl v,u9 F0 p0 s k fl v->¬Fe pre f s k fl:=fun s k fl v hb hC=>by
            rcases MH x rfl qa.rL hb hC with⟨r,_,e2⟩|⟨m,r,_,e2⟩
            · rw[x.nN c (FJ.1 hi)] at e2;cases e2
            rw[x.qw rfl] at e2;cases e2
          by_cases rj:c::q=[47]\/gs=[]
          · refine⟨1,_,Xu (f:=0) rfl hi rfl (rj.imp id fun e=>by rw[e];rfl),vc.no hlen fun s k fl v hb hC=>?_⟩;rcases hC with hC|hC
            · exact wq s k fl v hb hC
            rcases rj with he|rfl
            · obtain⟨h1,h2⟩:=hC.one;obtain⟨s2,w,mJ⟩:=qa.ne;obtain⟨r,rfl⟩:=x.nG _ _ mJ;have hF:=qa.sub _ _ mJ;have qi:=(h2 _ _ mJ).1;rw[<-aw] at hF qi;rw[he] at xM;exact hb.MD (by simp[h1]) xM hF qi
            obtain⟨_,_,e,_⟩:=hC;cases e
          exact pop (c::q) (eT _ _) wq (fun e sk h1 h2 g=>af9 rfl hi rfl (fun e=>rj (.inl e)) h1 h2) (fun e=>rj (.inr e))
  have wq:∀s k fl v,u9 F0 p0 s k fl v->¬Fe pre f s k fl:=fun s k fl v hb hC=>by
    obtain⟨_,_,_,h3,_⟩:=MG x qa.rL hb hC;exact MI h3
  by_cases rj:(p=[47]\/(path=p++[47]/\h.isSome=true))\/gs=[]
  · refine⟨1,_,agd (f:=0) MI (rj.imp id fun e=>by rw[e];rfl),vc.no hlen fun s k fl v hb hC=>?_⟩;rcases hC with hC|hC
    · exact wq s k fl v hb hC
    obtain⟨h1,h2⟩:=hC.one;rcases rj with(he|⟨he,hh⟩)|rfl
    · obtain⟨s2,w,mJ⟩:=qa.ne;have JW:=qa.rL;rw[he] at JW;exact hb.MD h1 JW (qa.sub _ _ mJ) (h2 _ _ mJ).1
    · obtain⟨k2,ow⟩:=b7.1 hh;have hf:f (bs path)=some (k2,full):=by rw[x.hh,ow];rfl
      have hF:=qa.sub _ _ hf;have qi:=(h2 _ _ hf).1;rw[he] at hF qi;exact hb.more h1 agu qa.rL hF qi
    obtain⟨_,_,e,_⟩:=hC;cases e
  exact pop p (fp _) wq (fun e sk h1 h2 g=>agc MI (fun e=>rj (.inl e)) h1 h2) (fun e=>rj (.inr e))
theorem XC (tb:Tb F0 p0 cP cS):∀M,RA F0 p0 u cP cS M/\RB F0 p0 u cP cS M
 |0=>⟨fun n f pre p vs gs hM=>by
   cases n
   simp only[size] at hM;omega,fun pre c q vs wn wk fw gs P idx nt pr h full kids hM=>by omega⟩
 |M+1=>by
  obtain⟨JV,G5⟩:=XC tb M;refine⟨fun n f pre p vs gs hM qa q9 QQ=>?_,agk tb JV⟩;have ye:=qa.ur;have oy:=qa.nt
  cases ye with
  |st wn wk hp Ix nG hh nj mM hlen hk oX mW nN hw wu qw hA q5=>
   exact agt tb JV G5 (qa.ur.Ir Ix) qa q9 QQ hM
  |pa=>exact absurd rfl oy
  |pk=>exact absurd rfl oy
  |ca=>exact agq tb qa
end
theorem XD:∀{rs:List (List Tok)} {f:F} {k:Nat} {s:List Tok},s∉rs->xB f k rs s=f s
 |[],_,_,_,_=>rfl
 |r::rs,f,k,s,h=>by
  have h1:s≠r:=fun e=>h (e▸ .head _)
  show xB (pM f r (k+1,lg r)) (k+1) rs s=f s;rw[XD (fun hm=>h (.tail _ hm)),qq _ h1]
theorem JX:∀{rs:List (List Tok)} {f:F} {k i:Nat} {s:List Tok},rs.Nodup->rs[i]? =some s->xB f k rs s=some (k+i+1,lg s)
 |[],_,_,_,_,_,h=>by simp at h
 |r::rs,f,k,0,s,hn,h=>by
  have e:r=s:=by simpa using h
  subst e;show xB (pM f r (k+1,lg r)) (k+1) rs r=_
  rw[XD (bf.1 hn).1,zE]
 |r::rs,f,k,i+1,s,hn,h=>by
  show xB (pM f r (k+1,lg r)) (k+1) rs s=_;rw[JX (bf.1 hn).2 (i:=i) (by simpa using h)];congr 2;omega
theorem MJ {rs:List (List Tok)} (h:rs.Pairwise (fun a b=>apart a b=true)):rs.Nodup:=
 h.imp fun{a b} pq e=>by
  subst e;rw[KI] at pq;cases pq
theorem JY {rs:List (List Tok)} (h:rs.Nodup) {s:List Tok} {v:Nat×List UInt8} (hs:xB (fun _=>none) 0 rs s=some v):∃i,rs[i]? =some s/\v=(i+1,lg s):=by
 rcases Ul hs with hm|hm
 ·obtain⟨i,hi⟩:=fk.1 hm;rw[JX h hi] at hs;cases hs;exact⟨i,hi,by simp⟩
 cases hm
theorem agy {rs:List (List Tok)} (hg:∀r∈rs,Good r) (hp:rs.Pairwise (fun a b=>apart a b=true)) {p0:List UInt8} (ot:∃q,p0=47::q) (nj:∀t,¬(47::47::t)<:+p0) {cP cS:Nat} (hw:∀r∈rs,nW r<=cP/\nS r<=cS) (u:List UInt8->List UInt8) {t:T0} (ht:rO new (rs.map lg) 0=.inl t):
  ∃g r,n7 u cP cS g t p0 [] []=some r/\vc (xB (fun _=>none) 0 rs) p0 cP u (fun _ _ _=>True) r:=by
 obtain⟨t',h1,h2⟩:=N7 rs new (fun _=>none) 0 (.inl ⟨rfl,rfl⟩) hg (fun _ _ _ _ h=>by cases h) hp;rw[ht] at h1;cases h1;have hn:=MJ hp;obtain⟨q,rfl⟩:=ot;rcases h2 with⟨rfl,hf⟩|⟨ye,oy,tc⟩
 ·refine⟨1,_,Xu (P:=[]) (c:=47) (q:=q) (f:=0) rfl rfl rfl (.inr rfl),vc.no (by simp) fun s k full v hb _=>?_⟩;have:=hb.f;rw[hf] at this;cases this
 by_cases mW:rs=[]
 ·subst mW;exfalso;simp only[List.map_nil,rO] at ht;cases ht;cases oy
 obtain⟨r0,rs',rfl⟩:=List.exists_cons_of_ne_nil mW
 have tb:Tb (xB (fun _=>none) 0 (r0::rs')) (47::q) cP cS:=
  {
   ok:=fun s v hs=>by obtain⟨i,hi,_⟩:=JY hn hs;exact(hg _ (ap hi)).1
   w:=fun s v hs=>by obtain⟨i,hi,_⟩:=JY hn hs;exact(hw _ (ap hi)).1
   sl:=fun s v hs=>by obtain⟨i,hi,_⟩:=JY hn hs;exact(hw _ (ap hi)).2
   nd:=nj}
 obtain⟨g,r,h3,h4⟩:=(XC (u:=u) tb (size t)).1 t _ [] (47::q) [] [] (by simp[DJ])
  {ur:=ye,nt:=by rw[oy];decide,sub:=fun s v h=>h,ne:=⟨r0,_,JX hn (i:=0) rfl⟩,hd:=⟨47,q,rfl,tc⟩,rL:=.nil } trivial (bM _)
 exact⟨g,r,h3,h4.imp fun s k full v hb _=>.inl ⟨s,rfl,hb.f⟩⟩
theorem XE:∀{a b c:List Tok},BT a b->BT b c->BT a c
 |[],_,_,h,_=>by cases h
 |_::_,[],_,h,_=>by cases h
 |_::_,_::_,[],_,h=>by cases h
 |x::a,y::b,z::c,h,h2=>by
  rcases h with⟨rfl,h⟩|⟨hn,h⟩
  ·rcases h2 with⟨rfl,h2⟩|⟨tU,h2⟩
   ·exact .inl ⟨rfl,XE h h2⟩
   exact .inr ⟨tU,h2⟩
  rcases h2 with⟨rfl,h2⟩|⟨tU,h2⟩
  ·exact .inr ⟨hn,h⟩
  exact .inr ⟨by rintro rfl;omega,by omega⟩
theorem QX:∀{a b:List Tok} {p:List UInt8} {sa sb:Bool},Ok sa a->Ok sb b->apart a b=true->MT a p≠none->MT b p≠none->BT a b\/BT b a
 |[],[],_,_,_,_,_,h,_,_=>by cases h
 |[],y::r,p,_,_,_,_,h,ha,hb=>by
  exfalso;have hp:p=[]:=cg fun hp=>ha (if_neg hp)
  subst hp
  cases y with
  |b c=>exact hb rfl
  |P n=>exact hb rfl
  |A n=>cases h
 |x::s,[],p,_,_,_,_,h,ha,hb=>by
  exfalso;have hp:p=[]:=cg fun hp=>hb (if_neg hp)
  subst hp
  cases x with
  |b c=>exact ha rfl
  |P n=>exact ha rfl
  |A n=>cases h
 |x::s,y::r,p,_,_,oa,ob,h,ha,hb=>by
  by_cases e:x=y
  ·subst e;rw[zw] at h
   cases x with
   |b c=>
    have h1:(if p.head? =some c then MT s (p.drop 1) else none)≠none:=ha;have h2:(if p.head? =some c then MT r (p.drop 1) else none)≠none:=hb;by_cases hc:p.head? =some c
    ·rw[if_pos hc] at h1 h2;exact(QX oa.2 ob.2 h h1 h2).imp (fun h=>.inl ⟨rfl,h⟩) (fun h=>.inl ⟨rfl,h⟩)
    rw[if_neg hc] at h1;exact absurd rfl h1
   |P n=>
    have h1:(if sl p=0 then none else(MT s (p.drop (sl p))).map ((n,p.take (sl p)):: ·))≠none:=ha;have h2:(if sl p=0 then none else(MT r (p.drop (sl p))).map ((n,p.take (sl p)):: ·))≠none:=hb;by_cases hc:sl p=0
    ·rw[if_pos hc] at h1;exact absurd rfl h1
    rw[if_neg hc] at h1 h2
    exact(QX oa.2.2.2 ob.2.2.2 h (fun e=>h1 (by rw[e];rfl)) (fun e=>h2 (by rw[e];rfl))).imp (fun h=>.inl ⟨rfl,h⟩) (fun h=>.inl ⟨rfl,h⟩)
   |A n=>
    exfalso;have e1:s=[]:=oa.2.2;have e2:r=[]:=ob.2.2;rw[e1,e2] at h;cases h
  rw[yR e] at h
  cases x with
  |A n=>cases h
  |b c=>
   cases y with
   |A n=>cases h
   |P n=>exact .inl (.inr ⟨e,by simp[rk]⟩)
   |b d=>
    exfalso;have h1:(if p.head? =some c then MT s (p.drop 1) else none)≠none:=ha;have h2:(if p.head? =some d then MT r (p.drop 1) else none)≠none:=hb;by_cases hc:p.head? =some c
    ·by_cases hd:p.head? =some d
     ·rw[hc] at hd;cases hd;exact e rfl
     rw[if_neg hd] at h2;exact h2 rfl
    rw[if_neg hc] at h1;exact h1 rfl
  |P n=>
   cases y with
   |A n=>cases h
   |P m=>cases h
   |b d=>exact .inr (.inr ⟨fun e2=>e e2.symm,by simp[rk]⟩)
theorem MK:∀s:List Tok,nW s<=(lg s).count 58+(lg s).count 42
 |[]=>bM _
 |.b c::s=>by
  have:=MK s;simp only[nW,lg,dZ]
  omega
 |.P n::s=>by
  have:=MK s;simp only[nW,lg,dZ,fc,beq_self_eq_true,if_true]
  omega
 |.A n::s=>by
  have:=MK s;simp only[nW,lg,dZ,fc,beq_self_eq_true,if_true];omega
theorem ML:∀s:List Tok,nS s<=(lg s).count 47
 |[]=>bM _
 |.b c::s=>by
  have:=ML s;simp only[nS,lg,dZ,beq_iff_eq]
  omega
 |.P n::s=>by
  have:=ML s;simp only[nS,lg,dZ,fc]
  omega
 |.A n::s=>by
  have:=ML s;simp only[nS,lg,dZ,fc];omega
theorem agA {p:List UInt8} (h:¬BH p):∀t,¬(47::47::t)<:+p:=fun t ⟨a,ha⟩=>by
 refine h ⟨a.length,?_,?_⟩<;>rw[<-ha]<;>simp
theorem QY {l:List (List nz)} (ht:zS l) (path:List UInt8):∀{n:Nat},n<=l.length->
  (qP l path n=none->∀i a,i<n->l[i]? =some a->qV a path=none)/\
  ∀m,qP l path n=some m->∃b,m<n/\l[m]? =some b/\qV b path≠none/\∀i a,i<n->i≠m->l[i]? =some a->qV a path≠none->sN (mY b) (mY a)
 |0,_=>⟨fun _ _ _ h=>absurd h (Nat.not_lt_zero _),fun m h=>by cases h⟩
 |n+1,hn=>by
  obtain⟨Cz,qz⟩:=QY ht path (n:=n) (by omega);have ha:=ao (show n<l.length by omega);generalize l[n]=a at ha;have qS:=ht.clean a (ap ha)
  have e:qP l path (n+1)=match qV a path,qP l path n with
   |none,b=>b
   |some _,none=>some n
   |some _,some m=>match l[m]? with
    |none=>some m
    |some b=>if dec (sN (mY a) (mY b)) then some n else some m:=by
   show(match l[n]? with
    |none=>qP l path n
    |some a=>match qV a path,qP l path n with
     |none,b=>b
     |some _,none=>some n
     |some _,some m=>match l[m]? with
      |none=>some m
      |some b=>if dec (sN (mY a) (mY b)) then some n else some m)=_
   rw[ha]
  rw[e]
  cases n9:qV a path with
  |none=>
   constructor
   ·intro h i x hi hx;rcases fT.1 hi with hi|rfl
    ·exact Cz h i x hi hx
    rw[ha] at hx;cases hx;exact n9
   intro m h;obtain⟨b,h1,h2,h3,h4⟩:=qz m h;refine⟨b,by omega,h2,h3,fun i x hi mW hx hm=>?_⟩;rcases fT.1 hi with hi|rfl
   ·exact h4 i x hi mW hx hm
   rw[ha] at hx;cases hx;exact absurd n9 hm
  |some v=>
   cases hb:qP l path n with
   |none=>
    constructor
    ·intro h;cases h
    intro m h;cases h;refine⟨a,gl _,ha,by rw[n9];simp,fun i x hi mW hx hm=>?_⟩
    exact absurd (Cz hb i x (by omega) hx) hm
   |some m=>
    obtain⟨b,h1,h2,h3,h4⟩:=qz m hb;have rF:=ht.clean b (ap h2);simp only[h2];constructor
    ·intro h;split at h<;>cases h
    intro m' h;by_cases hd:dec (sN (mY a) (mY b))=true
    ·rw[if_pos hd] at h;cases h;have pq:=(qS.Cg rF).1 (p8.1 hd);refine⟨a,gl _,ha,by rw[n9];simp,fun i x hi mW hx hm=>?_⟩;have r8:=ht.clean x (ap hx);by_cases xm:i=m
     ·subst xm;rw[h2] at hx;cases hx;exact p8.1 hd
     exact(qS.Cg r8).2 (XE pq ((rF.Cg r8).1 (h4 i x (by omega) xm hx hm)))
    rw[if_neg hd] at h;cases h;refine⟨b,by omega,h2,h3,fun i x hi mW hx hm=>?_⟩;rcases fT.1 hi with hi|rfl
    ·exact h4 i x hi mW hx hm
    rw[ha] at hx;cases hx
    have q4:apart (oh a) (oh b)=true:=(qS.apart rF).1 ((ht i a ha).2 b (List.mem_take_iff_getElem.2 ⟨m,by
     have:=(ae.1 h2).1;omega,(ae.1 h2).2⟩))
    rw[qS.match] at hm;rw[rF.match] at h3;rcases QX qS.E7.1 rF.E7.1 q4 hm h3 with hh|hh
    ·exact absurd (p8.2 ((qS.Cg rF).2 hh)) hd
    exact(rF.Cg qS).2 hh
def QZ (l:List (List nz)) (path:List UInt8) (u:List UInt8->List UInt8) (r:n6):Prop:=(∃i a v,l[i]? =some a/\r.h=some (i+1)/\r.full=nV a/\qV a path=some v/\r.ps=U u v)\/(r.h=none/\r.full=[])
def Q0 (l:List (List nz)) (path:List UInt8) (u:List UInt8->List UInt8) (r:n6):Prop:=(qP l path l.length=none/\r.h=none/\r.full=[])\/∃m a v,qP l path l.length=some m/\l[m]? =some a/\qV a path=some v/\r.h=some (m+1)/\r.full=nV a/\r.ps=U u v
theorem XF {l:List (List nz)} {i:Nat} {s:List Tok} (h:(l.map oh)[i]? =some s):∃a,l[i]? =some a/\s=oh a:=by
 rw[aD] at h;obtain⟨a,h1,h2⟩:=aN.1 h;exact⟨a,h1,h2.symm⟩
theorem XG {l:List (List nz)} {path:List UInt8} (hf:BJ l path) (ho:¬zg l path) {m:Nat} (hb:qP l path l.length=some m):∃b v,l[m]? =some b/\qV b path=some v/\u9 (xB (fun _=>none) 0 (l.map oh)) path (oh b) (m+1) (lg (oh b)) v:=by
 obtain⟨_,xi,⟨q,hq⟩,nj,_⟩:=hf;have nD:=xi.clean;have hn:=MJ xi.pw;obtain⟨sd,sf⟩:=QY xi path (bI l.length);obtain⟨b,py,qD,MM,agB⟩:=sf m hb;have rF:=nD b (ap qD);obtain⟨v,hv⟩:=Option.ne_none_iff_exists'.1 MM;have hV:∀x∈l,∀t∈mY x,wm t:=fun x hx=>JS (nD x hx).k2
 have nN:∀x∈l,sN (mY x) (mY b)->¬JU x b path:=fun x hx qi Fh=>ho (by
  unfold zg;rw[hb]
  exact⟨b,qD,x,hx,qi,Fh⟩)
 have key:∀x w,xB (fun _=>none) 0 (l.map oh) x=some w->∃a i,l[i]? =some a/\a∈l/\x=oh a:=fun x w hx=>by
  obtain⟨i,hi,_⟩:=JY hn hx;obtain⟨a,ha,e⟩:=XF hi;exact⟨a,i,ha,ap ha,e⟩
 have nM:b∈l:=ap qD
 have tq:u9 (xB (fun _=>none) 0 (l.map oh)) path (oh b) (m+1) (lg (oh b)) v:=
  {
   f:=by
    have:=JX (f:=fun _=>none) (k:=0) hn (i:=m) (s:=oh b) (by rw[aD,qD];rfl);rw[this];simp
   m:=by rw[<-rF.match];exact hv
   mT:=fun x w hx hm qi=>by
    obtain⟨a,i,ha,uq,rfl⟩:=key x w hx;have qS:=nD a uq;rw[<-qS.match] at hm;by_cases xm:i=m
    ·subst xm;rw[qD] at ha;cases ha;exact Xs qi
    exact Xt qi ((rF.Cg qS).1 (agB i a (ae.1 ha).1 xm ha hm))
   o1:=fun x w hx qi=>by
    obtain⟨a,i,ha,uq,rfl⟩:=key x w hx;have qS:=nD a uq;rw[<-qS.match];exact cg fun mW=>nN a uq ((qS.Cg rF).2 qi) (.inl mW)
   o2:=fun x w hx qi hpt=>by
    obtain⟨a,i,ha,uq,rfl⟩:=key x w hx;have qS:=nD a uq;refine nN a uq ((qS.Cg rF).2 qi) (.inr (.inl ?_));unfold G1;rw[Mv path _ (mY a) 0 0 (hV a uq) (bM _),Xn (hV a uq) (hV b nM),<-E9,<-E9,dT];exact hpt
   o3:=fun mS x w hx qi hbg=>by
    obtain⟨a,i,ha,uq,rfl⟩:=key x w hx;have qS:=nD a uq;refine nN a uq ((qS.Cg rF).2 qi) (.inr (.inr ⟨mS,?_⟩));unfold JT;rw[Mw (other path) (mY a) 0 (hV a uq) (bM _),<-E9,dT]
    exact hbg}
 exact⟨b,v,qD,hv,tq⟩
theorem XH {l:List (List nz)} {path:List UInt8} (hf:BJ l path) {cP cS:Nat} (hw:∀r∈l.map oh,nW r<=cP/\nS r<=cS) (u:List UInt8->List UInt8) {t:T0} (ht:rO new ((l.map oh).map lg) 0=.inl t):
  ∃g r,n7 u cP cS g t path [] []=some r/\r.ps.length<=cP/\QZ l path u r/\(¬zg l path->Q0 l path u r):=by
 have hf0:=hf;obtain⟨_,xi,⟨q,hq⟩,nj,_⟩:=hf;have nD:=xi.clean
 have hg:∀r∈l.map oh,Good r:=fun r hr=>by
  obtain⟨x,hx,rfl⟩:=aZ.1 hr;exact(nD x hx).E7
 have hn:=MJ xi.pw;obtain⟨g,r,h1,h2⟩:=agy hg xi.pw ⟨q,hq.symm⟩ (agA nj) hw u ht;have u6:∀i a,l[i]? =some a->lg (oh a)=nV a:=fun i a hi=>E4 (nD a (ap hi)).k2
 have XI:QZ l path u r:=by
  rcases h2.snd with⟨s,k,v,h3,h4,h5,h6⟩|h3
  ·obtain⟨i,hi,he⟩:=JY hn h4;obtain⟨a,ha,rfl⟩:=XF hi;obtain⟨rfl,we⟩:=Prod.mk.inj he;exact .inl ⟨i,a,v,ha,h3,we.trans (u6 i a ha),by rw[(nD a (ap ha)).match];exact h5,h6⟩
  exact .inr h3
 refine⟨g,r,h1,h2.len,XI,fun ho=>?_⟩;obtain⟨sd,sf⟩:=QY xi path (bI l.length)
 cases hb:qP l path l.length with
 |none=>
  rcases XI with⟨i,a,v,ha,_,_,hm,_⟩|h3
  ·have:=sd hb i a (ae.1 ha).1 ha;rw[hm] at this;cases this
  exact .inl ⟨hb,h3⟩
 |some m=>
  obtain⟨b,v,qD,hv,tq⟩:=XG hf0 ho hb;obtain⟨h3,h4,h5⟩:=h2.Xw _ _ _ _ tq trivial;exact .inr ⟨m,b,v,hb,qD,hv,h3,by rw[h4,u6 m b qD],h5⟩
def str:Tok->Bw.Tok
 |.b c=>.b c
 |.P _=>.P
 |.A _=>.A
def pS:List Tok->List (List UInt8)
 |[]=>[]
 |.P n::s=>n::pS s
 |.b _::s=>pS s
 |.A _::s=>pS s
def Cj (s:List Tok):Prop:=∀n,Tok.A n∉s
theorem Cj.tl {x:Tok} {s:List Tok} (h:Cj (x::s)):Cj s:=fun n hn=>h n (.tail _ hn)
theorem Q4 (s:List UInt8):Bw.qm s=sl s:=by
 unfold Bw.qm sl;congr 2;funext c;by_cases h:c=47<;>simp[h]
theorem Q5:∀(s:List Tok) (p:List UInt8) (vs:List (List UInt8)),Cj s->Bw.sm (s.map str) p vs=(MT s p).map fun v=>vs++v.map (·.2)
 |[],p,vs,_=>by
  by_cases h:p=[]<;>simp[Bw.sm,MT,h]
 |.b c::s,p,vs,h=>by
  cases p with
  |nil=>simp[Bw.sm,MT,str]
  |cons d q=>
   by_cases rI:d=c
   ·subst rI;simp[Bw.sm,MT,str,Q5 s q vs h.tl]
   simp[Bw.sm,MT,str,rI]
 |.P n::s,p,vs,h=>by
  by_cases h0:sl p=0
  ·simp[Bw.sm,MT,str,Q4,h0]
  simp only[aX,str,Bw.sm,MT,Q4,if_neg h0];rw[Q5 s _ _ h.tl,gw];congr 1;funext v
  simp
 |.A n::s,p,vs,h=>absurd (.head _) (h n)
theorem Q6:∀(s:List Tok) (p:List UInt8) (v:Vs),Cj s->MT s p=some v->v.map (·.1)=pS s
 |[],p,v,_,h=>by
  unfold MT at h;split at h
  ·cases h;rfl
  cases h
 |.b c::s,p,v,h,hm=>by
  unfold MT at hm;split at hm
  ·exact Q6 s _ v h.tl hm
  cases hm
 |.P n::s,p,v,h,hm=>by
  unfold MT at hm;split at hm
  ·cases hm
  obtain⟨w,hw,rfl⟩:=aN.1 hm
  simp[pS,Q6 s _ w h.tl hw]
 |.A n::s,p,v,h,_=>absurd (.head _) (h n)
theorem XJ:∀(n acc t:List UInt8),(∀c∈n,c≠47)->(t=[]\/∃r,t=47::r)->Bw.nh (n++t) (some acc)=((Bw.nh t none).1,(acc++n)::(Bw.nh t none).2)
 |[],acc,t,_,ht=>by
  rcases ht with rfl|⟨r,rfl⟩
  ·simp[Bw.nh]
  simp[Bw.nh]
 |c::n,acc,t,h,ht=>by
  show(if c=47 then _ else Bw.nh (n++t) (some (acc++[c])))=_;rw[if_neg (h c (.head _)),XJ n (acc++[c]) t (fun x hx=>h x (.tail _ hx)) ht];simp
theorem Q7:∀(s:List Tok) (sl:Bool),Ok sl s->Cj s->Bw.nh (lg s) none=(s.map str,pS s)
 |[],_,_,_=>rfl
 |.b c::s,sl,h,ha=>by
  show(if c=58 then _ else if c=42 then _ else(.b c::(Bw.nh (lg s) none).1,(Bw.nh (lg s) none).2))=_
  rw[if_neg h.1.1,if_neg h.1.2,Q7 s _ h.2 ha.tl];rfl
 |.P n::s,sl,h,ha=>by
  show(if (58:UInt8)=58 then((.P ::(Bw.nh (n++lg s) (some [])).1,(Bw.nh (n++lg s) (some [])).2):List Bw.Tok×List (List UInt8)) else _)=_
  rw[if_pos rfl,XJ n [] (lg s) (fun c hc=>(h.2.1.2 c hc).1) (by
   rcases h.2.2.1 with rfl|⟨r,rfl⟩
   ·exact .inl rfl
   exact .inr ⟨_,rfl⟩),Q7 s _ h.2.2.2 ha.tl]
  rfl
 |.A n::s,_,_,ha=>absurd (.head _) (ha n)
theorem XK:∀(q q':List Tok) (c:UInt8) (x:List Tok) (n:List UInt8) (s:List Tok),apart (q'++.b c::x) (q++.P n::s)=true->q'.map str=q.map str->q'=q
 |[],q',_,_,_,_,_,he=>by simpa using he
 |a::q,q',c,x,n,s,h,he=>by
  cases q' with
  |nil=>cases he
  |cons a' q2=>
   obtain⟨h1,h2⟩:=List.cons.inj he;by_cases Ao:a'=a
   ·subst Ao;rw[aW,aW,apart,if_pos rfl] at h;rw[XK q q2 c x n s h h2]
   rw[aW,aW,apart,if_neg Ao] at h;cases a'<;>cases a<;>simp[parts] at h<;>simp[str] at h1;exact absurd (by rw[h1]) Ao
theorem XL (d:Nat):∀(t:List UInt8) (r:List Tok) (i:Nat) (p:List UInt8),PT d r (i+t.length) p->PT d (bs t++r) i (t++p)
 |[],r,i,p,h=>h
 |c::t,r,i,p,h=>⟨rfl,XL d t r (i+1) p (by have e:i+1+t.length=i+(c::t).length :=(by simp;omega);rw[e];exact h)⟩
theorem Q8:∀(y:List Tok) (t:List UInt8),y.map str=t.map Bw.Tok.b->y=bs t
 |[],[],_=>rfl
 |[],_::_,h=>by cases h
 |_::_,[],h=>by cases h
 |a::y,c::t,h=>by
  obtain⟨h1,h2⟩:=List.cons.inj h
  cases a with
  |b d=>
   have ue:d=c:=by simpa[str] using h1
   rw[ue,Q8 y t h2];rfl
  |P _=>cases h1
  |A _=>cases h1
section
variable {α:Type} {l:List α} {Fi:α->List Tok} {F0:F} {p0:List UInt8} {s:List Tok} {k:Nat} {full:List UInt8} {v:Vs}
theorem Q9 (hb:u9 F0 p0 s k full v) (hF:∀a∈l,∃w,F0 (Fi a)=some w) (q4:∀a∈l,Fi a=s\/apart (Fi a) s=true):∀(u pre:List Tok) (p:List UInt8) (vs:Vs),s=pre++u->pL pre p0 vs p->
  Bw.GZ (fun a=>(Fi a).map str) l (pre.map str) (u.map str) p
 |[],_,_,_,_,_=>trivial
 |.A _::_,_,_,_,_,_=>trivial
 |.b c::u,pre,p,vs,hs,he=>by
  have hm:=hb.m;rw[hs,he.MT] at hm;obtain⟨w,hw,_⟩:=aN.1 hm
  cases p with
  |nil=>simp[MT] at hw
  |cons d p'=>
   have ue:d=c:=by
    by_cases h:d=c
    ·exact h
    simp[MT,h] at hw
   subst ue;have h:=Q9 hb hF q4 u (pre++[.b d]) p' (vs++[]) (by rw[hs];simp) (he.wx (.b .nil));rw[dX] at h
   exact h
 |.P n::u,pre,p,vs,hs,he=>by
  have hm:=hb.m;rw[hs,he.MT] at hm;obtain⟨w,hw,_⟩:=aN.1 hm;have h0:sl p≠0:=fun h=>by simp[MT,h] at hw
  have XM:∀a∈l,∀(c:UInt8) (x:List Bw.Tok),(Fi a).map str=pre.map str++.b c::x->∃y,Fi a=pre++.b c::y/\y.map str=x:=fun a ha c x hx=>by
   obtain⟨q',z,e1,e2,e3⟩:=List.map_eq_append_iff.1 hx;obtain⟨t,y,e4,e5,e6⟩:=List.map_eq_cons_iff.1 e3
   have htc:t=.b c:=by
    cases t<;>simp[str] at e5;rw[e5]
   subst htc e4
   have hq:q'=pre:=by
    rcases q4 a ha with e|e
    ·rw[e1,hs] at e;have hl:q'.length=pre.length:=by have:=congrArg List.length e2;simpa using this
     exact(List.append_inj e hl).1
    rw[e1,hs] at e;exact XK _ _ _ _ _ _ e e2
   exact⟨y,by rw[e1,hq],e6⟩
  refine⟨fun c s' hp=>⟨fun a ha t x s2 hx ht=>?_,fun a ha t hx ht=>?_⟩,?_⟩
  ·obtain⟨y,hy,Ra⟩:=XM a ha c (t.map Bw.Tok.b++.P ::x) (hx.trans (by simp));obtain⟨t',z,e1,e2,e3⟩:=List.map_eq_append_iff.1 Ra;obtain⟨t1,x',e4,e5,e6⟩:=List.map_eq_cons_iff.1 e3
   obtain⟨m,rfl⟩:∃m,t1=.P m:=by
    cases t1 with
    |P m=>exact⟨m,rfl⟩
    |b _=>cases e5
    |A _=>cases e5
   have Ei:t'=bs t:=Q8 t' t e2;obtain⟨w',ia⟩:=hF a ha;have qi:=Mz pre c n (bs t++.P m::x') u;subst e1 e4 Ei;rw[hy] at ia;rw[hs] at hb;have ho:=hb.o2 _ w' ia qi.1;rw[qi.2] at ho;refine bD fun h2=>ho (he.PT ?_)
   subst hp ht;refine⟨rfl,XL _ t _ _ s2 ?_⟩;show if _<_ then s2≠[] else _
   rw[if_pos (by omega)];exact h2
  ·obtain⟨y,hy,Ra⟩:=XM a ha c (t.map Bw.Tok.b) (hx.trans (by simp));have Ei:y=bs t:=Q8 y t Ra;obtain⟨w',ia⟩:=hF a ha;have qi:=Mz pre c n (bs t) u;subst Ei;rw[hy] at ia;rw[hs] at hb;refine hb.mT _ w' ia ?_ qi.1;rw[he.MT,hp,ht]
   have:MT (.b c::bs t) (c::t)=some []:=by
    show(if (c::t).head? =some c then MT (bs t) ((c::t).drop 1) else none)=_;rw[if_pos (show(c::t).head? =some c from rfl)];have h:=G2 t [] t;rw[aS] at h;show MT (bs t) t=_;rw[h,if_pos (dM.2 (fo _)),cH];rfl
   rw[this];simp
  have h:=Q9 hb hF q4 u (pre++[.P n]) (p.drop (sl p)) (vs++[(n,p.take (sl p))]) (by rw[hs];simp) (he.wx (.P h0 .nil));rw[dX] at h;rw[Q4];exact h
end
theorem XN:∀{x y:List Tok},apart x y=true->x.map str≠y.map str
 |[],[],h,_=>by cases h
 |[],_::_,_,e=>by cases e
 |_::_,[],_,e=>by cases e
 |a::x,b::y,h,e=>by
  obtain⟨e1,e2⟩:=List.cons.inj e;by_cases pq:a=b
  ·subst pq;rw[zw] at h;exact XN h e2
  rw[yR pq] at h;cases a<;>cases b<;>simp[parts] at h<;>simp[str] at e1;exact pq (by rw[e1])
theorem Rb {α:Type} {tk DF:α->List Bw.Tok} {l:List α} (h:∀a∈l,tk a=DF a):∀(u p:List Bw.Tok) (s:List UInt8),Bw.GZ tk l p u s->Bw.GZ DF l p u s
 |[],_,_,_=>trivial
 |.b _::u,_,_,ha=>Rb h u _ _ ha
 |.P ::u,_,_,ha=>⟨fun c s' e=>⟨fun a m t u s2 h1 h2=>(ha.1 c s' e).1 a m t u s2 ((h a m).trans h1) h2,fun a m t h1 h2=>(ha.1 c s' e).2 a m t ((h a m).trans h1) h2⟩,Rb h u _ _ ha.2⟩
 |.A ::_,_,_,_=>trivial
def XO (l:List (List nz)):Prop:=∀a∈l,∀p∈a,p.k.toNat≠2
theorem JZ {a:List nz} (h:∀p∈a,p.k.toNat≠2) (hc:Clean a):Cj (oh a):=fun n hn=>by
 obtain⟨p,hp,h1⟩:=dP.1 hn;have h2:=h p hp;have h3:=hc.k2 p hp;unfold u7 at h1;split at h1
 ·unfold bs at h1;simp at h1
 split at h1
 ·simp at h1
 omega
theorem Clean.len {l:List nz} (h:Clean l):(nV l).length <=1000:=by
 have key:∀(n j:Nat),n+j=l.length->(nV (l.drop j)).length <=61*n+(if j%2=0 then 40 else 0):=by
  intro n
  induction n with
  |zero=>intro j hj;rw[bE (by omega)];exact bM _
  |succ n ih=>
   intro j hj;obtain⟨p,hp⟩:∃p,l[j]? =some p:=gx (by omega);have pt:=h.2.2.2 j p hp;have e1:nV (l.drop j)=wV p++nV (l.drop (j+1)):=by rw[E5 hp];simp[nV]
   have hi:=ih (j+1) (by omega);rw[e1,ax];by_cases h0:j%2=0
   ·have hk:=pt.1.2 h0;have:=(pt.2.2.2.1 hk).2.1;have e:wV p=p.nm:=by unfold wV;rw[if_neg (by omega),if_neg (by omega)];rfl
    rw[e,if_pos h0];rw[if_neg (by omega)] at hi;omega
   have hk:p.k.toNat≠0:=fun e=>h0 (pt.1.1 e)
   have:=(pt.2.2.2.2 hk).1.2.2
   have e:(wV p).length <=1+p.nm.length:=by
    unfold wV;rw[ax];split
    ·simp
    split<;>simp
   rw[if_neg h0];rw[if_pos (by omega)] at hi;omega
 have:=key l.length 0 (by omega);rw[dT] at this;have:=h.2.1;simp at*;omega
theorem agG:∀(s:List Tok),Cj s->(∀c∈lg s,c≠92)->(∀c∈lg s,c≠42)->Bw.uE (lg s):=fun s _ h1 h2=>by
 generalize lg s=x at*
 induction x with
 |nil=>trivial
 |cons c r ih=>exact⟨h1 c (.head _),fun e=>absurd e (h2 c (.head _)),ih (fun d hd=>h1 d (.tail _ hd)) (fun d hd=>h2 d (.tail _ hd))⟩
theorem agH {s:List Tok}:∀{sl:Bool},Ok sl s->Cj s->∀c∈lg s,c≠42:=by
 induction s with
 |nil=>intro _ _ _ c hc;cases hc
 |cons t s ih=>
  intro sl h ha c hc
  cases t with
  |b d=>
   rcases af.1 hc with rfl|hc
   ·exact h.1.2
   exact ih h.2 ha.tl c hc
  |P n=>
   rcases af.1 hc with rfl|hc
   ·decide
   rcases aB.1 hc with hc|hc
   ·exact(h.2.1.2 c hc).2.2
   exact ih h.2.2.2 ha.tl c hc
  |A n=>exact absurd (.head _) (ha n)
def MN (i:Nat):List UInt8:=[114,UInt8.ofNat (48+i/10),UInt8.ofNat (48+i%10)]
def getM:List UInt8:=[71,69,84]
def zm (a:List nz) (i:Nat):Bw.RB:=⟨getM,nV a,MN i⟩
def vE (l:List (List nz)):List Bw.RB:=l.zipIdx.map fun p=>zm p.1 p.2
theorem J0 (l:List (List nz)):(vE l).length =l.length:=by simp[vE]
theorem MO {l:List (List nz)} {i:Nat}:(vE l)[i]? =(l[i]?).map fun a=>zm a i:=by
 unfold vE;rw[aD,List.getElem?_zipIdx];cases l[i]? <;>simp
theorem XP {a:List nz} (hc:Clean a) (h:∀p∈a,p.k.toNat≠2):Bw.nh (nV a) none=((oh a).map str,pS (oh a)):=by
 rw[<-E4 hc.k2];exact Q7 _ _ hc.E7.1 (JZ h hc)
theorem agI {a:List nz} (hc:Clean a) (h:∀p∈a,p.k.toNat≠2) (i:Nat):(zm a i).ok where
 hd:=by
  obtain⟨_,s,hs⟩:=hc.E7;show(nV a).head? =_;rw[<-E4 hc.k2,hs];rfl
 uE:=by
  show Bw.uE (nV a);have h1:=hc.lg.2;rw[<-E4 hc.k2] at h1⊢;exact agG _ (JZ h hc) h1 (agH hc.E7.1 (JZ h hc))
 pl:=hc.len
 ml:=by show getM.length<=1000;decide
theorem agJ {l:List (List nz)} {path:List UInt8} (hf:BJ l path) (hr:XO l) (ho:¬zg l path) {m:Nat} (hb:qP l path l.length=some m) {num:Int} {p al:List UInt8} {ns vs:List (List UInt8)}
  (ol:Bw.Aj (vE l) getM (Bw.qU (Bw.KS (vE l)) getM 1002 [] path [] none) num p ns vs al):∃b v,l[m]? =some b/\qV b path=some v/\num=(m:Nat)/\p=nV b/\ns=v.map (·.1)/\vs=v.map (·.2):=by
 obtain⟨b,v,qD,hv,tq⟩:=XG hf ho hb;have xi:=hf.2.1;have nD:=xi.clean;have pB:=ap qD;have rF:=nD b pB;refine⟨b,v,qD,hv,?_⟩
 have mem:∀k∈(vE l).zipIdx.reverse,∃a,l[k.2]? =some a/\a∈l/\k.1=zm a k.2:=fun k hk=>by
  obtain⟨r,i⟩:=k;have h:=fm.1 (List.mem_reverse.1 hk);simp only at h;rw[MO] at h;obtain⟨a,h1,h2⟩:=aN.1 h;exact⟨a,h1,ap h1,h2.symm⟩
 have J8:∀k∈(vE l).zipIdx.reverse,Bw.DG k=((oh ((l[k.2]?).getD [])).map str):=fun k hk=>by
  obtain⟨a,h1,h2,h3⟩:=mem k hk;rw[h1,dO];unfold Bw.DG;rw[h3];show(Bw.nh (nV a) none).1=_;rw[XP (nD a h2) (hr a h2)]
 have XQ:=xi.pw;have nj:=MJ XQ
 have XR:∀(i j:Nat) a c,l[i]? =some a->l[j]? =some c->i≠j->apart (oh a) (oh c)=true:=fun i j a c hi hj wU=>by
  have Ka:=ae.1 hi;have Nc:=ae.1 hj;obtain⟨BK,Kw⟩:=Ka;obtain⟨yL,sn⟩:=Nc;have h:=List.pairwise_iff_getElem.1 XQ;rcases Nat.lt_or_gt_of_ne wU with mS|mS
  ·have:=h i j (by simpa using BK) (by simpa using yL) mS;simpa[Kw,sn] using this
  have:=h j i (by simpa using yL) (by simpa using BK) mS;rw[Fy];simpa[Kw,sn] using this
 have od:(zm b m,m)∈(vE l).zipIdx.reverse :=List.mem_reverse.2 (fm.2 (by
  show(vE l)[m]? =some (zm b m)
  rw[MO,qD];rfl))
 have e0:Bw.DG (zm b m,m)=(oh b).map str:=by rw[J8 _ od];simp only;rw[qD];rfl
 have XS:=JZ (hr b pB) rF
 have al:=Q9 (l:=(vE l).zipIdx.reverse) (Fi:=fun k=>oh ((l[k.2]?).getD [])) tq (fun k hk=>by
  obtain⟨a,h1,h2,h3⟩:=mem k hk;rw[h1,dO]
  exact⟨_,JX (i:=k.2) nj (by rw[aD,h1];rfl)⟩) (fun k hk=>by
  obtain⟨a,h1,h2,h3⟩:=mem k hk;rw[h1,dO];by_cases xQ:k.2=m
  ·rw[xQ,qD] at h1;cases h1;exact .inl rfl
  exact .inr (XR _ _ _ _ h1 qD xQ)) (oh b) [] path [] rfl .nil
 have al2:=Rb (fun k hk=>(J8 k hk).symm) _ _ _ al
 have Qy:=Bw.QH (tk:=Bw.DG) (m:=Bw.mk') (bx:=getM) (l:=(vE l).zipIdx.reverse) (fun k hk=>by
  obtain⟨a,h1,h2,h3⟩:=mem k hk
  unfold Bw.mk';rw[h3];rfl) (by decide) (fun k hk hA=>by
  obtain⟨a,h1,h2,h3⟩:=mem k hk;rw[J8 k hk,h1,dO] at hA;obtain⟨t,ht,he⟩:=aZ.1 hA
  cases t with
  |A n=>exact JZ (hr a h2) (nD a h2) n ht
  |b _=>cases he
  |P _=>cases he) (fun k hk k' s7 he=>by
  obtain⟨a,h1,h2,h3⟩:=mem k hk;obtain⟨a',zr,HN,Nx⟩:=mem k' s7;rw[J8 k hk,J8 k' s7,h1,zr,dO,dO] at he;have um:k.2=k'.2:=bD fun mW=>XN (XR _ _ _ _ h1 zr mW) he
  rw[um] at h1;rw[h1] at zr;cases zr
  exact Prod.ext (by rw[h3,Nx,um]) um) od (B:=1002) (by
   have h1:=Bw.EN (nV b) none;have h2:=rF.len;show(Bw.nh (nV b) none).1.length <1002
   omega) ((oh b).map str) 1002 [] path [] (v.map (·.2)) (by simp) (by rw[e0];rfl) (by
   rw[Q5 _ _ _ XS,tq.m];rfl) al2
 have hK:Bw.KS (vE l)=Bw.om Bw.DG Bw.mk' (vE l).zipIdx.reverse :=rfl;rw[hK,Qy] at ol
 have HU:(Bw.nh (nV b) none).2=v.map (·.1):=by
  rw[XP rF (hr b pB)];exact(Q6 _ _ _ XS tq.m).symm
 generalize Ff:(Bw.o8.stop (.nO (zm b m,m) (v.map (·.2))):Bw.o8 (Bw.RB×Nat))=o at ol
 cases ol with
 |nO h hl=>
  cases Ff
  exact⟨rfl,rfl,HU,rfl⟩
 |xK ho _ _ _=>
  subst Ff
  rcases ho with h|⟨h,_⟩<;>cases h
 |o7 ho _ _=>
  subst Ff
  rcases ho with h|⟨h,_⟩<;>cases h
 |none=>cases Ff
end Gt
