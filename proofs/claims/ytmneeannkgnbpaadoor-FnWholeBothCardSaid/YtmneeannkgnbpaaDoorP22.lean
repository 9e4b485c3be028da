/- Lemmas of the walk and plain facts (JeE5 .. JeSh). -/
import Derived.Test.YtmneeannkgnbpaaDoorL1
import Derived.Test.YtmneeannkgnbpaaDoorL2
import Derived.Test.YtmneeannkgnbpaaDoorP21
import Derived.Test.YtmneeannkgnbpaaDoorP01
set_option maxRecDepth 20000
namespace Go.Proofs.Ec
open Go Bw
structure Cl (T:List NR):Prop where
 kids:∀r∈T,∀a∈r.kids,∃x∈T,x.n=a
 mV:∀r∈T,∀a,r.mV=some a->∃x∈T,x.n=a
 mP:∀r∈T,∀a,r.mP=some a->∃x∈T,x.n=a
 self:∀r∈T,r.n∉r.kids/\r.mV≠some r.n/\r.mP≠some r.n
 nd:(T.map NR.n).Nodup
theorem EH {T:List NR} {r:NR} (nj:(T.map NR.n).Nodup) (h:r∈T):q7 T r.n=r.nP:=by
 obtain⟨a,b,rfl⟩:=eR h
 have h2:a.find? (fun x=>x.n==r.n)=none:=by
  rw[List.find?_eq_none];intro x hx;simp only[beq_iff_eq];intro e;rw[dX,List.nodup_append] at nj;exact nj.2.2 x.n (aZ.2 ⟨x,hx,rfl⟩) r.n (by simp) e
 simp[q7,List.find?_append,h2]
theorem getD_some {l:List UInt8} {i:Nat} (h:i<l.length):l[i]? =some (l.getD i 0):=by simp[List.getD,ao h]
theorem adE {w0 w:World} {D:Nat->Prop} {H:SH} {T:List NR} {r:NR} {B:Nat} (hw:HF w0 D H w) (hs:∀e∈mI T,e∈H) (nD:Cl T) (pQ:r.ok B) (hr:r∈T):
  ∀i p,(r.kids.map fun a=>(a,q7 T a))[i]? =some p->∃a,r.ad=some ⟨a,0,none⟩/\w.cell? ⟨a,i,none⟩=some (Pt p.1 0)/\w.cell? ⟨p.1,9,none⟩=some (.int .u8 (p.2.toNat:Int)):=by
 intro i p hp;rw[aD] at hp
 cases hk:r.kids[i]? with
 |none=>rw[hk] at hp;cases hp
 |some a=>
  rw[hk] at hp;simp only[dm,bk] at hp;subst hp;have hi:=(ae.1 hk).1;obtain⟨ab,spare,h1,h2⟩:=pQ.arr hi;obtain⟨x,hx,rfl⟩:=nD.kids r hr a (ap hk);refine⟨ab,h1,?_,?_⟩
  ·refine oQ hw (wf:=true) (l:=r.kids.map (Pt · 0)++spare) (t:=131) (fz:=(0,0)) (hs _ (qN hr ?_)) ?_
   ·simp[NR.mI,h2]
   rw[n8,ak (by simpa using hi)];simp[hk]
  rw[show(q7 T x.n)=x.nP from EH nD.nd hx];exact oQ hw (hs _ (qN hx (.head _))) rfl
theorem adF (w:World) (D:Nat->Prop) (T:List NR) (rb root rt eb zb z B t np mR:Nat) (bx path pp:List UInt8) (hp:Option Nat) (pad:Option Addr) (r0:NR)
  (hH:HF w D (nF rb root rt eb::nI eb zb::nK zb rb z::mI T) w) (nD:Cl T) (nk:∀r∈T,r.ok B) (hB:B+2<1000000) (vS:r0∈T) (Jm:r0.n=root) (V4:path≠[]) (py:bx.length<=1000) (mM:path.length<=1000000)
  (PH:∀r∈T,r.pre.length<=1000000) (ht:t<3):
  Calls Tryd.prog 84 #[Pt rb 0,S bx,S path,.int .u8 (t:Int),.agg #[PO hp,S pp,.slice pad np mR]] w fun e w'=>e=.returned (.tuple #[])/\∃h T',xI T h hp bx t np pp root path T'/\(∀r∈T',r.ok (B+2))/\
   HF w D (nT h hp pp pad np mR::nF rb root rt eb::nI eb zb::nK zb rb (max z np)::mI T') w':=by
 refine enter D (nF rb root rt eb::nI eb zb::nK zb rb z::mI T) Tryd.func84 rfl Tryd.ntmps84 rfl rfl hH fun c hc=>?_
 subst hc;refine gz<|gD<|jc (l:=[PO hp,S pp,.slice pad np mR]) rfl rfl rfl (fun h hh=>?_);refine gC<|gz<|gD<|gH BM rfl<|gA (gG bF rfl (.head _) rfl)<|gA (iu aE rfl) ?_;refine gF<|gC<|gz<|gz<|gD<|gB ?_;refine gJ rfl<|gH VM rfl<|gA (gG Tryd.isAgg127 rfl (.tail _ (.head _)) rfl)<|gJ rfl<|gH VK rfl<|gA (gG Tryd.isAgg103 rfl (m2 (.head _)) rfl) ?_;refine gJ rfl<|gA (gG aY rfl (m3 (.head _)) rfl)<|gB<|gA (ik rfl rfl)<|gC<|hY (fun bc H'=>Sub [(0,Pt rb 0),(1,S bx),(3,.int .u8 (t:Int)),(9,Pt h 0),(2,S path)] bc/\H'=nT h hp pp pad np mR::nF rb root rt eb::nI eb zb::nK zb rb (max z np)::mI T) (fun V5=>?_) ?_
 ·refine gS rfl (fun h35=>?_) (fun h35=>?_)
  ·refine gD<|gB<|gJ rfl<|gH VM rfl<|gA (gG Tryd.isAgg127 rfl (.tail _ (.head _)) rfl)<|gJ rfl ?_;exact gH VK rfl<|gA (gG Tryd.isAgg103 rfl (m2 (.head _)) rfl)<|gB<|gJ rfl<|gO bh rfl rfl rfl (.s (.s (.s .z))) rfl rfl<|gC<|V5 _ _ ⟨.of rfl,by rw[show max z np=np by omega];rfl⟩
  exact gL<|V5 _ _ ⟨.of rfl,by rw[show max z np=z by omega];rfl⟩
 rintro bc H' ⟨hs,rfl⟩;refine gN hs ?_;clear hs;refine gz<|gD<|gB<|gJ rfl<|gH VL rfl<|gA (gG aq rfl (.tail _ (.head _)) rfl)<|gF<|gC<|gz<|gz<|gD<|gB<|gA (jP (p:=some ⟨root,0,none⟩) aK rfl)<|gC<|iJ rfl<|gL<|gz<|gD<|gB<|gF<|gC<|gW ?_
 refine iC (fun N bc H'=>∃r s,List.length s=N/\s≠[]/\List.length s<=1000000/\r∈T/\Sub [(0,Pt rb 0),(1,S bx),(3,.int .u8 (t:Int)),(9,Pt h 0),(11,Pt r.n 0),(12,S s)] bc/\H'=nT h hp pp pad np mR::nF rb root rt eb::nI eb zb::nK zb rb (max z np)::mI T/\∀T',xI T h hp bx t np pp r.n s T'->xI T h hp bx t np pp root path T') path.length
  ⟨r0,path,rfl,V4,mM,vS,by rw[Jm];exact .of rfl,rfl,fun T' h=>Jm▸h⟩ ?_
 rintro N bc H' ⟨r,s,hN,zY,xU,hr,hs,rfl,Jn⟩ ih;refine gN hs ?_;clear hs;have n5:(Rx r.n r.row 141)∈(nT h hp pp pad np mR::nF rb root rt eb::nI eb zb::nK zb rb (max z np)::mI T):=.tail _ (.tail _ (.tail _ (.tail _ (qN hr (.head _)))));have nQ:=PH r hr;have rH:=(nk r hr).uX;have pQ:=nk r hr;have PF:=pQ.LL;have adH:s[0]? =some (s.headD 0):=by cases s with|nil=>exact absurd rfl zY|cons=>rfl
 obtain⟨T0,hT⟩:=Nf hr;have Gp:∀x∈T0,x∈T:=fun x hx=>hT.mem_iff.2 (.tail _ hx)
 have adI:=(hT.map NR.n).nodup_iff.1 nD.nd;have PI:(T0.map NR.n).Nodup :=(bf.1 adI).2;refine gW<|gz<|gD<|gB<|gA (ig aa rfl)<|gF<|gC<|gz<|gD<|gB<|gJ rfl<|gH yZ rfl<|gA (gG ag rfl n5 rfl)<|gA (ig aa rfl)<|gF<|gC<|gz<|gD<|gF<|gC<|gz<|gD<|gB<|gF<|gC<|gz<|gz<|gD<|gB<|gB<|gA (ik rfl rfl)<|gC<|hY (fun bc H'=>Sub [(0,Pt rb 0),(1,S bx),(3,.int .u8 (t:Int)),(9,Pt h 0),(11,Pt r.n 0),(12,S s),(13,I (s.length:Nat)),(14,I (r.pre.length:Nat)),(15,I ((0:Nat):Int)),(16,I ((min r.pre.length s.length:Nat):Int))] bc/\H'=nT h hp pp pad np mR::nF rb root rt eb::nI eb zb::nK zb rb (max z np)::mI T) (fun V6=>?_) ?_
 ·refine gS rfl (fun xo=>?_) (fun xo=>?_)
  ·refine gD<|gB<|gF<|gC<|V6 _ _ ⟨?_,rfl⟩;rw[show(min r.pre.length s.length)=s.length by omega];exact .of rfl
  refine gL<|V6 _ _ ⟨?_,rfl⟩;rw[show(min r.pre.length s.length)=r.pre.length by omega];exact .of rfl
 rintro bc H' ⟨hs,rfl⟩;refine gN hs ?_;clear hs;refine gz<|hY (fun bc H'=>Sub [(0,Pt rb 0),(1,S bx),(3,.int .u8 (t:Int)),(9,Pt h 0),(11,Pt r.n 0),(12,S s),(13,I (s.length:Nat)),(14,I (r.pre.length:Nat)),(15,I ((mK s r.pre:Nat):Int))] bc/\H'=nT h hp pp pad np mR::nF rb root rt eb::nI eb zb::nK zb rb (max z np)::mI T) (fun J2=>?_) ?_
 ·refine gW ?_
  refine iC (fun N bc H'=>∃i,i+N=min r.pre.length s.length/\i+mK (s.drop i) (r.pre.drop i)=mK s r.pre/\Sub [(0,Pt rb 0),(1,S bx),(3,.int .u8 (t:Int)),(9,Pt h 0),(11,Pt r.n 0),(12,S s),(13,I (s.length:Nat)),(14,I (r.pre.length:Nat)),(15,I ((i:Nat):Int)),(16,I ((min r.pre.length s.length:Nat):Int))] bc/\H'=nT h hp pp pad np mR::nF rb root rt eb::nI eb zb::nK zb rb (max z np)::mI T) (min r.pre.length s.length)
   ⟨0,by omega,by simp,.of rfl,rfl⟩ ?_
  rintro N2 bc H' ⟨i,hi,hl,hs,rfl⟩ qz;refine gN hs ?_;clear hs;refine gz<|gz<|iV mixed (by kernel_rfl)<|gK (gM rfl)<|gK (gM rfl)<|gK (ik rfl rfl)<|gK (gM rfl)<|jr 68 rfl (fun yw=>?_) (fun yw=>?_)
  ·have mS:=of_decide_eq_true yw;have mO:=PC s r.pre i _ _ (getD_some (by omega)) (getD_some (by omega));refine gY (gM rfl)<|gY (gM rfl)<|gY (iG (i:=i) (b:=s.getD i 0) aa rfl rfl (getD_some (by omega)))<|gY (gM rfl)<|gY (gX rfl)<|gY (gQ yZ rfl)<|gY (gG ag rfl n5 rfl)<|gY (gM rfl)<|gY (iG (i:=i) (b:=r.pre.getD i 0) aa rfl rfl (getD_some (by omega)))<|gY (ie rfl rfl)<|gK (iL rfl rfl)<|iH<|gS rfl (fun wY=>?_) (fun wY=>?_)
   ·refine gL ?_;refine gz ?_;refine gW ?_;refine gL ?_;refine il ?_;refine gD ?_;refine gB ?_;refine gA (iB rfl rfl rfl (by omega) (by omega)) ?_;refine gF ?_;refine gC ?_;have e:s.getD i 0=r.pre.getD i 0:=bU.1 (by omega);rw[if_pos e] at mO;exact qz (N2-1) _ _ (by omega) ⟨i+1,by omega,by omega,.of rfl,rfl⟩
   refine ir rfl ?_;have e:¬s.getD i 0=r.pre.getD i 0:=fun e=>wY (by rw[e])
   rw[if_neg e] at mO;refine J2 _ _ ⟨?_,rfl⟩;rw[show mK s r.pre=i by omega];exact .of rfl
  refine gP ?_;refine gP ?_;refine gP ?_;refine gP ?_;refine gP ?_;refine gP ?_;refine gP ?_;refine gP ?_;refine gP ?_;refine gP ?_;refine gK (iD rfl rfl) ?_;refine iH ?_;refine iJ rfl ?_;refine ir rfl ?_;have Bi:=of_decide_eq_false yw
  have mO:mK (s.drop i) (r.pre.drop i)=0:=by
   have h1:=zu (s.drop i) (r.pre.drop i);simp only[aA] at h1;omega
  refine J2 _ _ ⟨?_,rfl⟩;rw[show mK s r.pre=i by omega];exact .of rfl
 rintro bc H' ⟨hs,rfl⟩;refine gN hs ?_;clear hs;have V7:=zu s r.pre;refine gz<|gz<|gD<|gB<|gA (ie rfl rfl)<|gC<|gS rfl (fun AV=>?_) (fun AV=>?_)
 ·refine gz ?_;have hl:mK s r.pre=0:=by omega
  refine hO (H':=nT h hp pp pad np mR::qB r.n r.m r (nF rb root rt eb::nI eb zb::nK zb rb (max z np)::(r.Hs++mI T0))) (fun w1 fa=>fa.perm (LP hT))<|gD<|gB<|gB<|gA (iG (i:=0) (b:=s.headD 0) aa rfl rfl adH)<|gJ rfl<|gH Pl rfl<|gO bV rfl rfl rfl (.s .z) rfl rfl<|gC<|gz<|gD<|gB<|gB<|gJ rfl<|gH yZ rfl<|gO ah rfl rfl rfl (.s .z) rfl rfl<|gC<|gz<|gz<|gD<|gH AT rfl<|gA (gG dy rfl (.head _) rfl)<|gA (iA dU rfl)<|gC<|hY (fun bc H'=>Sub [(0,Pt rb 0),(1,S bx),(3,.int .u8 (t:Int)),(9,Pt h 0),(11,Pt r.n 0)] bc/\∃r1 r2,sy h hp bx (if hp.isSome then{r with nP:=s.headD 0,pre:=s,kd:=t} else{r with nP:=s.headD 0,pre:=s}) r1/\r2=r1.po hp np pp/\H'=nT h hp pp pad np mR::qB r.n r.m r2 (nF rb root rt eb::nI eb zb::nK zb rb (max z np)::(r.Hs++mI T0))) (fun V8=>?_) ?_
  ·refine gV rfl (fun Dq=>?_) (fun Dq=>?_)
   ·refine gz<|gD<|gB<|gB<|gJ rfl<|gH wG rfl ?_;refine gO fj rfl rfl rfl (.s .z) rfl rfl<|gC<|gz<|gD<|gB<|gB<|ke ({r with nP:=s.headD 0,pre:=s,kd:=t}) (B:=B+1) (⟨pQ.hm,pQ.hs,pQ.nil,cz pQ.wH,pQ.keys,cz pQ.uX⟩) (by omega) py Dq rfl rfl rfl rfl (fun r1 ha=>?_);refine gC<|gz<|gD<|gB<|gH BM rfl<|gA (gG bF rfl (.head _) rfl) ?_;refine gA (iu aE rfl)<|gJ rfl<|gH AS rfl<|gO bh rfl rfl rfl (.s .z) rfl rfl<|gC<|gD ?_;refine gB<|gH Dg rfl<|gA (gG ag rfl (.head _) rfl)<|gJ rfl<|gH AR rfl<|gO ah rfl rfl rfl (.s .z) rfl rfl ?_;exact gC<|V8 _ _ ⟨.of rfl,r1,_,.inr ⟨Dq,by rw[if_pos Dq];exact ha⟩,rfl,by rw[NR.po,if_pos Dq];rfl⟩
   exact gL<|V8 _ _ ⟨.of rfl,{r with nP:=s.headD 0,pre:=s},_,.inl ⟨by simpa using Dq,by rw[Dq];rfl⟩,rfl,by rw[NR.po,Dq];rfl⟩
  rintro bc H' ⟨hs,r1,r2,ha,rT,rfl⟩;refine gN hs ?_;clear hs;have Gq:r1.ok (B+1):=ha.ok (by split<;>exact⟨pQ.hm,pQ.hs,pQ.nil,pQ.wH,pQ.keys,pQ.uX⟩) py;have wZ:r2.ok (B+1):=rT▸Gq.po;have zZ:=wZ.LL;have e1:r2.n=r.n:=by rw[rT,NR.Gn,ha.n];split<;>rfl
  have e2:r2.m=r.m:=by rw[rT,NR.LN,ha.m];split<;>rfl
  have e3:r2.Hs=r.Hs:=by rw[rT,NR.LO,ha.Hs];split<;>rfl
  refine hY (fun bc H'=>H'=nT h hp pp pad np mR::qB r.n r.m r2.oP (nF rb root rt eb::nI eb zb::nK zb rb (max z np)::(r.Hs++mI T0))) (fun PJ=>?_) ?_
  ·refine gD<|gB<|gB<|gJ rfl<|gH BL rfl<|gA (gG eP rfl (.tail _ (.head _)) rfl)<|gA (jL c7 rfl)<|gB<|gZ 120 rfl (fun LR=>?_) (fun LR=>?_)
   ·refine gU<|gI (gX rfl)<|gI (gQ zU rfl)<|gI (gG aq rfl (.tail _ (.head _)) rfl)<|gI (jg aK rfl)<|gT<|gB<|gZ 127 rfl (fun zA=>?_) (fun zA=>?_)
    ·refine gU<|gI (gX rfl)<|gI (gQ xF rfl)<|gI (gG aq rfl (.tail _ (.head _)) rfl)<|gI (jg aK rfl)<|gT<|gJ rfl<|gH zV rfl<|gO aP rfl rfl rfl (.s .z) rfl rfl<|gC ?_;have el:r2.mP.isNone=(r2.kids.isEmpty&&r2.mV.isNone&&r2.mP.isNone):=by rw[<-zZ,LR,zA];rfl
     exact PJ _ _<|congrArg (fun x=>nT h hp pp pad np mR::Rx r.n x 141::Rx r.m r2.mr 150::(r2.Hm++(nF rb root rt eb::nI eb zb::nK zb rb (max z np)::(r.Hs++mI T0)))) (BU el)
    refine gE ?_;refine gE ?_;refine gE ?_;refine gE ?_;refine gE ?_;refine hG ?_;refine gJ rfl ?_;refine gH zV rfl ?_;refine gO aP rfl rfl rfl (.s .z) rfl rfl ?_;refine gC ?_;have el:false=(r2.kids.isEmpty&&r2.mV.isNone&&r2.mP.isNone):=by rw[<-zZ,LR,zA];rfl
    exact PJ _ _<|congrArg (fun x=>nT h hp pp pad np mR::Rx r.n x 141::Rx r.m r2.mr 150::(r2.Hm++(nF rb root rt eb::nI eb zb::nK zb rb (max z np)::(r.Hs++mI T0)))) (BU el)
   refine gE ?_;refine gE ?_;refine gE ?_;refine gE ?_;refine gE ?_;refine hG ?_;refine gB ?_;refine gE ?_;refine gE ?_;refine gE ?_;refine gE ?_;refine gE ?_;refine hG ?_;refine gJ rfl ?_;refine gH zV rfl ?_;refine gO aP rfl rfl rfl (.s .z) rfl rfl ?_;refine gC ?_;have el:false=(r2.kids.isEmpty&&r2.mV.isNone&&r2.mP.isNone):=by rw[<-zZ,LR];rfl
   exact PJ _ _<|congrArg (fun x=>nT h hp pp pad np mR::Rx r.n x 141::Rx r.m r2.mr 150::(r2.Hm++(nF rb root rt eb::nI eb zb::nK zb rb (max z np)::(r.Hs++mI T0)))) (BU el)
  rintro bc H' rfl;refine jD rfl fun w' ia=>⟨rfl,h,r2.oP::T0,Jn _ ?_,?_,ia.perm (LQ e1 e2 e3)⟩
  ·rw[rT];exact .root hT hl ha
  intro x hx;rcases af.1 hx with rfl|hx
  ·exact wZ.oP.mono (by omega)
  exact(nk x (Gp x hx)).mono (by omega)
 refine gz<|gD<|gB<|gB<|gA (ik rfl rfl)<|gC<|gS rfl (fun adJ=>?_) (fun adJ=>?_)
 ·refine gz ?_;have h0:mK s r.pre≠0:=by omega
  have hl:mK s r.pre<r.pre.length:=by omega
  obtain⟨x,xs,hx⟩:∃x xs,r.pre.drop (mK s r.pre)=x::xs:=by
   cases hx:r.pre.drop (mK s r.pre) with
   |nil=>have:=congrArg List.length hx;simp at this;omega
   |cons x xs=>exact⟨x,xs,rfl⟩
  have oT:r.pre[0]? =some (r.pre.headD 0):=by cases oT:r.pre with|nil=>rw[oT] at hl;simp at hl|cons=>rfl
  refine hO (H':=nT h hp pp pad np mR::qB r.n r.m r (nF rb root rt eb::nI eb zb::nK zb rb (max z np)::(r.Hs++mI T0))) (fun w1 fa=>fa.perm (LP hT))<|js 39 mixed (by kernel_rfl) rfl rfl<|gR (gM rfl)<|gR (gX rfl)<|gR (gQ wG rfl)<|gR (gG dc rfl (.tail _ (.head _)) rfl)<|gR (gM rfl)<|gR (gX rfl)<|gR (gQ yZ rfl)<|gR (gG ag rfl (.tail _ (.head _)) rfl)<|gR (gM rfl)<|gR (jV aa rfl rfl (gu hl) hx)<|gR (gM rfl)<|gR (gM rfl)<|gR (gX rfl)<|gR (gQ BL rfl)<|gR (gG eP rfl (.tail _ (.head _)) rfl)<|gR (gM rfl)<|gR (gX rfl)<|gR (gQ AR rfl)<|gR (gG ag rfl (.tail _ (.head _)) rfl)<|gR (gM rfl)<|gR (gX rfl)<|gR (gQ q6 rfl)<|gR (gG bq rfl (.tail _ (.head _)) rfl)<|gR (gM rfl)<|gR (gX rfl)<|gR (gQ AS rfl)<|gR (gG aY rfl (.tail _ (.head _)) rfl)<|gR (gM rfl)<|gR (gX rfl)<|gR (gQ zU rfl)<|gR (gG aq rfl (.tail _ (.head _)) rfl)<|gR (gM rfl)<|gR (gX rfl)<|gR (gQ xF rfl)<|gR (gG aq rfl (.tail _ (.head _)) rfl)<|gR (gM rfl)<|gR (gX rfl)<|gR (gQ uW rfl)<|gR (gG aO rfl (.tail _ (.head _)) rfl)<|jt<|jH Tryd.call86 rfl rfl (fun w1 fa=>Pr w1 r.kd x xs r.rZ (some r.n) r.mV r.mP r.nf r.ad r.kids.length r.cp r.m r.pc r.f r.mp r.kv (fun i hi=>oQ fa (m2 (.head _)) (Dp hi)) (oQ fa (m2 (.head _)) rfl) (pQ.hm.at fa (fun e he=>.tail _ (.tail _ (.tail _ (ay _ he)))))) (fun b hb=>?_);refine jb (H':=Rx b (r.low b (mK s r.pre)).row 141::nT h hp pp pad np mR::qB r.n r.m r (nF rb root rt eb::nI eb zb::nK zb rb (max z np)::(r.Hs++mI T0))) (fun w1 fa=>by rw[<-adC hx PF];exact fa)<|gF<|gC<|gz<|gz ?_
  have Jo:∀a,a∈r.kids\/r.mV=some a\/r.mP=some a->∃rc∈T0,rc.n=a:=by
   intro a ha;have zH:=nD.self r hr
   have y5:(∃x∈T,x.n=a)/\r.n≠a:=by
    rcases ha with ha|ha|ha
    ·exact⟨nD.kids r hr a ha,fun e=>zH.1 (e▸ha)⟩
    ·exact⟨nD.mV r hr a ha,fun e=>zH.2.1 (e▸ha)⟩
    exact⟨nD.mP r hr a ha,fun e=>zH.2.2 (e▸ha)⟩
   obtain⟨⟨x,h1,h2⟩,h3⟩:=y5;rcases af.1 (hT.mem_iff.1 h1) with h4|h4
   ·exact absurd (h4▸h2) h3
   exact⟨x,h4,h2⟩
  refine gD<|gB<|gJ rfl<|gH BL rfl<|gA (gG eP rfl (m2 (.head _)) rfl)<|gA (iu c7 rfl)<|gB<|gC<|hY (fun bc H'=>Sub [(0,Pt rb 0),(1,S bx),(3,.int .u8 (t:Int)),(9,Pt h 0),(11,Pt r.n 0),(12,S s),(13,I (s.length:Nat)),(15,I ((mK s r.pre:Nat):Int)),(17,Pt b 0)] bc/\H'=(Rx b (r.low b (mK s r.pre)).row 141)::nT h hp pp pad np mR::Rx r.n r.row 141::Rx r.m r.mr 150::((r.Hm++(nF rb root rt eb::nI eb zb::nK zb rb (max z np)::r.Hs))++mI (T0.map (NR.nR (r.kids) b)))) (fun J4=>?_) ?_
  ·refine gW ?_
   refine hO (H':=Rx b (r.low b (mK s r.pre)).row 141::nT h hp pp pad np mR::Rx r.n r.row 141::Rx r.m r.mr 150::((r.Hm++(nF rb root rt eb::nI eb zb::nK zb rb (max z np)::r.Hs))++mI (T0.map (NR.nR (r.kids.take 0) b)))) (fun w1 fa=>fa.perm (.of_eq (by
    have e:T0.map (NR.nR (r.kids.take 0) b)=T0:=by
     rw[fU];conv=>rhs;rw[<-List.map_id T0]
     exact fJ fun x _=>by simp[NR.nR]
    rw[e];simp[qB]))) ?_
   refine iC (fun N bc H'=>∃j,j+N=r.kids.length/\Sub [(0,Pt rb 0),(1,S bx),(3,.int .u8 (t:Int)),(9,Pt h 0),(11,Pt r.n 0),(12,S s),(13,I (s.length:Nat)),(15,I ((mK s r.pre:Nat):Int)),(17,Pt b 0),(182,.slice r.ad r.kids.length r.cp),(183,I (r.kids.length:Nat)),(184,I ((j:Nat):Int))] bc/\H'=(Rx b (r.low b (mK s r.pre)).row 141)::nT h hp pp pad np mR::Rx r.n r.row 141::Rx r.m r.mr 150::((r.Hm++(nF rb root rt eb::nI eb zb::nK zb rb (max z np)::r.Hs))++mI (T0.map (NR.nR (r.kids.take j) b)))) r.kids.length
    ⟨0,by omega,.of rfl,rfl⟩ ?_
   rintro N3 bc H' ⟨j,hj,hs,rfl⟩ ih3;refine gN hs ?_;clear hs;refine gz<|gD<|gA (ik rfl rfl)<|gC<|gz<|gS rfl (fun adL=>?_) (fun adL=>?_)
   ·refine gL<|gz<|gW<|gz<|gD ?_;have mS:j<r.kids.length:=by omega
    obtain⟨ab,spare,Il,hHs⟩:=pQ.arr mS;refine gA (ij (i:=j) c7 bm (by rw[<-Il];rfl) rfl mS)<|gA (gG (v:=Pt r.kids[j] 0) aq rfl (l:=r.kids.map (Pt · 0)++spare) (wf:=true) (T:=131) (fz:=(0,0)) (by rw[hHs];simp) (by rw[n8,aH,aT,ak (by simpa using mS)];simp[mS])) ?_;refine gF<|gC<|gD<|gB<|gB<|gJ rfl<|gH EB rfl ?_;obtain⟨rc,EI,vB⟩:=Jo r.kids[j] (.inl (eG mS));refine kQ (X:=(Rx b (r.low b (mK s r.pre)).row 141::nT h hp pp pad np mR::Rx r.n r.row 141::Rx r.m r.mr 150::(r.Hm++(nF rb root rt eb::nI eb zb::nK zb rb (max z np)::r.Hs)))) (S:=r.kids.take j) bm rfl rfl PI EI vB rfl<|gC<|il<|gD<|gA (iB rfl rfl rfl (by omega) (by omega))<|gB<|gC ?_;have ek:r.kids.take j++[r.kids[j]]=r.kids.take (j+1):=by rw[List.take_succ_eq_append_getElem mS]
    exact ih3 (N3-1) _ _ (by omega) ⟨j+1,by omega,.of rfl,by rw[<-ek];rfl⟩
   refine ir rfl ?_;have ek:r.kids.take j=r.kids:=bJ (by omega);exact J4 _ _ ⟨.of rfl,by rw[ek]⟩
  rintro bc H' ⟨hs,rfl⟩;refine gN hs ?_;clear hs;have Jo:∀a,a∈r.kids\/r.mV=some a\/r.mP=some a->∃rc∈T0,rc.n=a:=Jo;refine gz<|gz<|gD<|gB<|gJ rfl<|gH zU rfl<|gA (gG aq rfl (m2 (.head _)) rfl)<|gA (iA aK rfl)<|gC<|hY (fun bc H'=>Sub [(0,Pt rb 0),(1,S bx),(3,.int .u8 (t:Int)),(9,Pt h 0),(11,Pt r.n 0),(12,S s),(13,I (s.length:Nat)),(15,I ((mK s r.pre:Nat):Int)),(17,Pt b 0)] bc/\H'=(Rx b (r.low b (mK s r.pre)).row 141)::nT h hp pp pad np mR::Rx r.n r.row 141::Rx r.m r.mr 150::((r.Hm++(nF rb root rt eb::nI eb zb::nK zb rb (max z np)::r.Hs))++mI (T0.map (NR.nR (r.kids++r.mV.toList) b)))) (fun V9=>?_) ?_
  ·refine gV rfl (fun LS=>?_) (fun LS=>?_)
   ·obtain⟨p,oH⟩:=b7.1 LS;obtain⟨rc,EI,vB⟩:=Jo p (.inr (.inl oH));refine gD<|gB ?_;refine gJ rfl<|gH zU rfl ?_;refine gA (gG (v:=Pt p 0) aq rfl (m2 (.head _)) (by show some (PO r.mV)=_;rw[oH];rfl))<|gB ?_;refine gJ rfl<|gH EB rfl ?_;exact kQ (X:=(Rx b (r.low b (mK s r.pre)).row 141::nT h hp pp pad np mR::Rx r.n r.row 141::Rx r.m r.mr 150::(r.Hm++(nF rb root rt eb::nI eb zb::nK zb rb (max z np)::r.Hs)))) (S:=r.kids) bm rfl rfl PI EI vB rfl<|gC<|V9 _ _ ⟨.of rfl,by rw[oH];rfl⟩
   refine gL ?_;have xE:r.mV=none:=by cases hh:r.mV with|none=>rfl|some _=>rw[hh] at LS;cases LS
   exact V9 _ _ ⟨.of rfl,by rw[xE];simp⟩
  rintro bc H' ⟨hs,rfl⟩;refine gN hs ?_;clear hs;refine gz<|gz<|gD<|gB<|gJ rfl<|gH xF rfl<|gA (gG aq rfl (m2 (.head _)) rfl)<|gA (iA aK rfl)<|gC<|hY (fun bc H'=>Sub [(0,Pt rb 0),(1,S bx),(3,.int .u8 (t:Int)),(9,Pt h 0),(11,Pt r.n 0),(12,S s),(13,I (s.length:Nat)),(15,I ((mK s r.pre:Nat):Int)),(17,Pt b 0)] bc/\H'=(Rx b (r.low b (mK s r.pre)).row 141)::nT h hp pp pad np mR::Rx r.n r.row 141::Rx r.m r.mr 150::((r.Hm++(nF rb root rt eb::nI eb zb::nK zb rb (max z np)::r.Hs))++mI (T0.map (NR.nR (r.kids++r.mV.toList++r.mP.toList) b)))) (fun Wa=>?_) ?_
  ·refine gV rfl (fun wz=>?_) (fun wz=>?_)
   ·obtain⟨p,oH⟩:=b7.1 wz;obtain⟨rc,EI,vB⟩:=Jo p (.inr (.inr oH));refine gD<|gB ?_;refine gJ rfl<|gH xF rfl ?_;refine gA (gG (v:=Pt p 0) aq rfl (m2 (.head _)) (by show some (PO r.mP)=_;rw[oH];rfl))<|gB ?_;refine gJ rfl<|gH EB rfl ?_;exact kQ (X:=(Rx b (r.low b (mK s r.pre)).row 141::nT h hp pp pad np mR::Rx r.n r.row 141::Rx r.m r.mr 150::(r.Hm++(nF rb root rt eb::nI eb zb::nK zb rb (max z np)::r.Hs)))) (S:=r.kids++r.mV.toList) bm rfl rfl PI EI vB rfl<|gC<|Wa _ _ ⟨.of rfl,by rw[oH];rfl⟩
   refine gL ?_;have xE:r.mP=none:=by cases hh:r.mP with|none=>rfl|some _=>rw[hh] at wz;cases wz
   exact Wa _ _ ⟨.of rfl,by rw[xE];simp⟩
  rintro bc H' ⟨hs,rfl⟩;refine gN hs ?_;clear hs;refine gz<|gD<|gB<|gJ rfl<|gH wG rfl<|gO fj rfl rfl rfl (.s (.s .z)) rfl rfl ?_;refine gC<|gz<|gD<|gB<|gB<|gJ rfl ?_;refine gH yZ rfl<|gA (gG ag rfl (m2 (.head _)) rfl)<|gA (iG (i:=0) (b:=r.pre.headD 0) aa rfl rfl oT)<|gJ rfl<|gH Pl rfl<|gO bV rfl rfl rfl (.s (.s .z)) rfl rfl ?_;refine gC<|gz<|gD<|gB<|gB<|gJ rfl ?_;refine gH yZ rfl<|gA (gG ag rfl (m2 (.head _)) rfl)<|gB<|gA (jm aa rfl rfl (gu hl))<|gJ rfl<|gH yZ rfl ?_;refine gO ah rfl rfl rfl (.s (.s .z)) rfl rfl<|gC<|gz<|gD<|gB<|gJ rfl ?_;refine gH BL rfl<|gO fW rfl rfl rfl (.s (.s .z)) rfl rfl<|gC<|gz<|gD<|gB ?_;refine gJ rfl<|gH AR rfl<|gO ah rfl rfl rfl (.s (.s .z)) rfl rfl<|gC<|gz<|gD ?_;refine gB<|iK fZ rfl rfl (fun m2 vg=>?_);refine gJ rfl<|gH q6 rfl<|gO Tryd.sizeOf137 rfl rfl rfl (.s (.s (.s .z))) rfl rfl<|gC<|gz<|gD ?_;refine gB<|gJ rfl<|gH AS rfl<|gO bh rfl rfl rfl (.s (.s (.s .z))) rfl rfl<|gC<|gz ?_;refine gD<|gB<|gJ rfl<|gH zU rfl<|gO bm rfl rfl rfl (.s (.s (.s .z))) rfl rfl<|gC ?_;refine gz<|gD<|gB<|gJ rfl<|gH xF rfl<|gO bm rfl rfl rfl (.s (.s (.s .z))) rfl rfl ?_;refine gC<|gz<|gD<|gB<|gJ rfl<|gH zV rfl ?_;refine gO aP rfl rfl rfl (.s (.s (.s .z))) rfl rfl<|gC<|gz<|gD<|gB<|gJ rfl ?_;refine gH ED rfl<|gO aP rfl rfl rfl (.s (.s (.s .z))) rfl rfl<|gC<|gz<|gD<|gB ?_;refine gJ rfl<|gH uW rfl<|gO bB rfl rfl rfl (.s (.s (.s .z))) rfl rfl<|gC<|gz<|gD ?_;refine gB<|gB<|kR (r.top m2 (mK s r.pre) [] none 0 []) (B:=B+1) (ch:=b) (Q:=Rx m2 (sE (fun _=>none) none []) 150::Rx b (r.low b (mK s r.pre)).row 141::nT h hp pp pad np mR::Rx r.m r.mr 150::((r.Hm++(nF rb root rt eb::nI eb zb::nK zb rb (max z np)::r.Hs))++mI (T0.map (NR.nR (r.kids++r.mV.toList++r.mP.toList) b)))) ⟨.nil,.nil,fun _=>rfl,bM _,⟨fun _ h=>(by cases h),.nil⟩,bM _⟩ (by omega) ?_ rfl rfl rfl (fun uY uB rV vZ=>?_)
  ·exact bG (l₁:=[Rx m2 (sE (fun _=>none) none []) 150,Rx b (r.low b (mK s r.pre)).row 141,nT h hp pp pad np mR])
  refine gC<|gz<|gz ?_;generalize LU:(r.low b (mK s r.pre)::T0.map (NR.nR (r.kids++r.mV.toList++r.mP.toList) b))=TL
  have Wb:∀x∈TL,x.ok (B+2):=by
   intro x y5;rw[<-LU] at y5;rcases af.1 y5 with rfl|y5
   ·exact pQ.low.mono (by omega)
   obtain⟨y,hy,rfl⟩:=aZ.1 y5;exact(nk y (Gp y hy)).nR.mono (by omega)
  refine hO (H':=nT h hp pp pad np mR::qB r.n m2 (r.top m2 (mK s r.pre) [b] uY uB rV) (nF rb root rt eb::nI eb zb::nK zb rb (max z np)::(rV++mI TL))) (fun w1 fa=>fa.perm ?_) ?_
  ·have e1:=PG (r:=r.low b (mK s r.pre)) (n:=b) (m:=r.m) (Hs:=r.Hs) (T:=T0.map (NR.nR (r.kids++r.mV.toList++r.mP.toList) b)) rfl rfl rfl;have p:=oN [[Rx r.n (r.top m2 (mK s r.pre) [b] uY uB rV).row 141],rV,[Rx m2 (sE (fun _=>none) none []) 150],[Rx b (r.low b (mK s r.pre)).row 141],[nT h hp pp pad np mR],[Rx r.m r.mr 150],r.Hm,[nF rb root rt eb,nI eb zb,nK zb rb (max z np)],r.Hs,mI (T0.map (NR.nR (r.kids++r.mV.toList++r.mP.toList) b))] [0,1,2,3,4,5,6,7,8,9] [4,0,2,7,1,3,5,6,8,9] (by decide);refine List.Perm.trans (.of_eq ?_) (p.trans (.of_eq ?_))
   ·simp[NR.top]
   rw[<-LU,e1];simp[qB,NR.low,NR.top,NR.mr]
  refine gD<|gB<|gB<|gA (ie rfl rfl)<|gC<|hY (fun bc H'=>Sub [(0,Pt rb 0),(1,S bx),(3,.int .u8 (t:Int)),(9,Pt h 0),(11,Pt r.n 0)] bc/\∃r2 BV,(∀r3,r3=r2.oP->xI T h hp bx t np pp r.n s (r3::BV))/\r2.ok (B+2)/\(∀x∈BV,x.ok (B+2))/\r2.n=r.n/\r2.m=m2/\H'=nT h hp pp pad np mR::qB r.n m2 r2 (nF rb root rt eb::nI eb zb::nK zb rb (max z np)::(r2.Hs++mI BV))) (fun Wc=>?_) ?_
  ·refine gS rfl (fun adN=>?_) (fun adN=>?_)
   ·refine gz<|gD<|gB<|gB<|gJ rfl<|gH wG rfl<|gO fj rfl rfl rfl (.s .z) rfl rfl<|gC<|gz<|gD<|gH AT rfl<|gA (gG dy rfl (.head _) rfl)<|gA (iA dU rfl)<|gC<|hY (fun bc H'=>Sub [(0,Pt rb 0),(1,S bx),(3,.int .u8 (t:Int)),(9,Pt h 0),(11,Pt r.n 0)] bc/\∃r1 r3,sy h hp bx ({r.top m2 (mK s r.pre) [b] uY uB rV with kd:=t}) r1/\r3=r1.po hp np pp/\H'=nT h hp pp pad np mR::qB r.n m2 r3 (nF rb root rt eb::nI eb zb::nK zb rb (max z np)::(rV++mI TL))) (fun Wd=>?_) ?_
    ·refine gV rfl (fun Gr=>?_) (fun Gr=>?_)
     ·refine gz<|gD<|gB<|gB<|ke ({r.top m2 (mK s r.pre) [b] uY uB rV with kd:=t}) (B:=B+1) (⟨.nil,vZ,fun h=>(by cases h),bM _,⟨fun _ h=>(by cases h),.nil⟩,by simp[NR.top]⟩) (by omega) py Gr rfl rfl rfl rfl (fun r1 ha=>?_);refine gC<|gz<|gD<|gB<|gH BM rfl<|gA (gG bF rfl (.head _) rfl) ?_;refine gA (iu aE rfl)<|gJ rfl<|gH AS rfl<|gO bh rfl rfl rfl (.s .z) rfl rfl<|gC<|gD ?_;refine gB<|gH Dg rfl<|gA (gG ag rfl (.head _) rfl)<|gJ rfl<|gH AR rfl<|gO ah rfl rfl rfl (.s .z) rfl rfl ?_;exact gC<|Wd _ _ ⟨.of rfl,r1,_,.inr ⟨Gr,ha⟩,rfl,by rw[NR.po,if_pos Gr];rfl⟩
     exact gL<|Wd _ _ ⟨.of rfl,{r.top m2 (mK s r.pre) [b] uY uB rV with kd:=t},_,.inl ⟨by simpa using Gr,rfl⟩,rfl,by rw[NR.po,Gr];rfl⟩
    rintro bc H' ⟨hs,r1,r3,ha,tj,rfl⟩;refine gN hs ?_;clear hs;have adO:NR.ok (B+1) ({r.top m2 (mK s r.pre) [b] uY uB rV with kd:=t}):=⟨.nil,vZ,fun h=>(by cases h),bM _,⟨fun _ h=>(by cases h),.nil⟩,by simp[NR.top]⟩;have e3:r3.Hs=rV:=by rw[tj,NR.LO,ha.Hs];rfl
    refine Wc _ _ ⟨.of rfl,r3,TL,?_,tj▸(ha.ok adO py).po,Wb,by rw[tj,NR.Gn,ha.n];rfl,by rw[tj,NR.LN,ha.m];rfl,by rw[e3]⟩;intro r4 PK;rw[PK,tj,<-LU];exact .split hT h0 hl (by omega) vZ ha
   refine gz ?_
   obtain⟨y,ys,hy⟩:∃y ys,s.drop (mK s r.pre)=y::ys:=by
    cases hy:s.drop (mK s r.pre) with
    |nil=>have:=congrArg List.length hy;simp at this;omega
    |cons y ys=>exact⟨y,ys,rfl⟩
   refine gD<|gB ?_;refine gB<|gB ?_;refine gA (iX aa rfl rfl (by omega))<|gB<|iK fZ rfl rfl (fun m3 hm3=>?_);refine jH (vs:=[.int .u8 (t:Int),S (y::ys),PO (some r.n),.slice none 0 0,S [],Pt m3 0,I 0,PO none,PO none,PO none]) Tryd.call86 (by rw[<-hy];rfl) rfl (fun w1 fa=>Pr w1 t y ys [] (some r.n) none none none none 0 0 m3 0 (fun _=>none) none [] (fun i hi=>oQ fa (.head _) (Dp (f:=fun _=>none) (mp:=none) (nH:=[]) hi)) (oQ fa (.head _) rfl) rfl) (fun b2 sf=>?_);refine gF<|gC ?_;refine gz<|gz<|hO (H':=nT h hp pp pad np mR::qB b2 m3 (sA b2 m3 r.n (s.drop (mK s r.pre)) [] t) (Rx r.n (r.top m2 (mK s r.pre) [b] uY uB rV).row 141::Rx m2 (sE (fun _=>none) none []) 150::nF rb root rt eb::nI eb zb::nK zb rb (max z np)::(rV++mI TL))) (fun w1 fa=>HF.perm (H:=Rx b2 (sA b2 m3 r.n (y::ys) [] t).row 141::Rx m3 (sA b2 m3 r.n (y::ys) [] t).mr 150::nT h hp pp pad np mR::qB r.n m2 (r.top m2 (mK s r.pre) [b] uY uB rV) (nF rb root rt eb::nI eb zb::nK zb rb (max z np)::(rV++mI TL))) fa ?_) ?_
   ·rw[hy];exact(bG (l₁:=[(Rx b2 (sA b2 m3 r.n (y::ys) [] t).row 141:oJ),Rx m3 (sA b2 m3 r.n (y::ys) [] t).mr 150]))
   refine gD<|gH AT rfl<|gA (gG dy rfl (.head _) rfl)<|gA (iA dU rfl)<|gC<|hY (fun bc H'=>Sub [(0,Pt rb 0),(1,S bx),(3,.int .u8 (t:Int)),(9,Pt h 0),(11,Pt r.n 0),(17,Pt b2 0)] bc/\∃r1 r3,sy h hp bx ((sA b2 m3 r.n (s.drop (mK s r.pre)) [] t)) r1/\r3=r1.po hp np pp/\H'=nT h hp pp pad np mR::qB b2 m3 r3 (Rx r.n (r.top m2 (mK s r.pre) [b] uY uB rV).row 141::Rx m2 (sE (fun _=>none) none []) 150::nF rb root rt eb::nI eb zb::nK zb rb (max z np)::(rV++mI TL))) (fun We=>?_) ?_
   ·refine gV rfl (fun Gu=>?_) (fun Gu=>?_)
    ·refine gz<|gD<|gB<|gB<|ke ((sA b2 m3 r.n (s.drop (mK s r.pre)) [] t)) (B:=B+1) (LM) (by omega) py Gu rfl rfl rfl rfl (fun r1 ha=>?_);refine gC<|gz<|gD<|gB<|gH BM rfl<|gA (gG bF rfl (.head _) rfl) ?_;refine gA (iu aE rfl)<|gJ rfl<|gH AS rfl<|gO bh rfl rfl rfl (.s .z) rfl rfl<|gC<|gD ?_;refine gB<|gH Dg rfl<|gA (gG ag rfl (.head _) rfl)<|gJ rfl<|gH AR rfl<|gO ah rfl rfl rfl (.s .z) rfl rfl ?_;exact gC<|We _ _ ⟨.of rfl,r1,_,.inr ⟨Gu,ha⟩,rfl,by rw[NR.po,if_pos Gu];rfl⟩
    exact gL<|We _ _ ⟨.of rfl,(sA b2 m3 r.n (s.drop (mK s r.pre)) [] t),_,.inl ⟨by simpa using Gu,rfl⟩,rfl,by rw[NR.po,Gu];rfl⟩
   rintro bc H' ⟨hs,r1,r3,ha,tj,rfl⟩;refine gN hs ?_;clear hs;refine gD<|gB<|gB<|kR (r.top m2 (mK s r.pre) [b] uY uB rV) (B:=B+1) (ch:=b2) (Q:=nT h hp pp pad np mR::Rx b2 r3.row 141::Rx m3 r3.mr 150::(r3.Hm++(Rx m2 (sE (fun _=>none) none []) 150::nF rb root rt eb::nI eb zb::nK zb rb (max z np)::mI TL))) (NR.adp vZ (by omega)) (by omega) ?_ rfl rfl rfl (fun mX Dj nU oS=>?_)
   ·have p:=oN [[nT h hp pp pad np mR,Rx b2 r3.row 141,Rx m3 r3.mr 150],r3.Hm,[Rx r.n (r.top m2 (mK s r.pre) [b] uY uB rV).row 141],[Rx m2 (sE (fun _=>none) none []) 150,nF rb root rt eb,nI eb zb,nK zb rb (max z np)],rV,mI TL] [0,1,2,3,4,5] [2,4,0,1,3,5] (by decide);refine List.Perm.trans (.of_eq ?_) (p.trans (.of_eq ?_))
    ·simp[qB]
    simp[NR.top]
   refine gC ?_;have pI:r3.n=b2:=by rw[tj,NR.Gn,ha.n];rfl
   have tU:r3.m=m3:=by rw[tj,NR.LN,ha.m];rfl
   have KQ:r3.Hs=[]:=by rw[tj,NR.LO,ha.Hs];rfl
   refine hO (H':=nT h hp pp pad np mR::qB r.n m2 (r.top m2 (mK s r.pre) [b,b2] mX Dj nU) (nF rb root rt eb::nI eb zb::nK zb rb (max z np)::(nU++mI (r3::TL)))) (fun w1 fa=>fa.perm ?_) (Wc _ _ ⟨.of rfl,(r.top m2 (mK s r.pre) [b,b2] mX Dj nU),r3::TL,?_,?_,?_,rfl,rfl,rfl⟩)
   ·have p:=oN [[Rx r.n (r.top m2 (mK s r.pre) [b,b2] mX Dj nU).row 141],nU,[nT h hp pp pad np mR],[Rx b2 r3.row 141],[Rx m3 r3.mr 150],r3.Hm,[Rx m2 (sE (fun _=>none) none []) 150],[nF rb root rt eb,nI eb zb,nK zb rb (max z np)],mI TL] [0,1,2,3,4,5,6,7,8] [2,0,6,7,1,3,4,5,8] (by decide);refine List.Perm.trans (.of_eq ?_) (p.trans (.of_eq ?_))
    ·simp[NR.top]
    rw[PG pI tU KQ];simp[qB,NR.top,NR.mr]
   ·intro r4 PK;rw[PK,tj,<-LU];exact .PD hT h0 hl (by omega) oS ha
   ·exact NR.ads oS (by omega)
   intro x y5;rcases af.1 y5 with rfl|y5
   ·rw[tj];exact(ha.ok (B:=B) LM py).po.mono (by omega)
   exact Wb x y5
  rintro bc H' ⟨hs,r2,BV,adQ,wZ,adR,e1,e2,rfl⟩;refine gN hs ?_;clear hs;have zZ:=wZ.LL;refine hY (fun bc H'=>H'=nT h hp pp pad np mR::Rx r.n r2.oP.row 141::Rx m2 r2.mr 150::(r2.Hm++(nF rb root rt eb::nI eb zb::nK zb rb (max z np)::(r2.Hs++mI BV)))) (fun PL=>?_) ?_
  ·refine gD<|gB<|gB<|gJ rfl<|gH BL rfl<|gA (gG eP rfl (.tail _ (.head _)) rfl)<|gA (jL c7 rfl)<|gB<|gZ 325 rfl (fun LV=>?_) (fun LV=>?_)
   ·refine gU<|gI (gX rfl)<|gI (gQ zU rfl)<|gI (gG aq rfl (.tail _ (.head _)) rfl)<|gI (jg aK rfl)<|gT<|gB<|gZ 332 rfl (fun PM=>?_) (fun PM=>?_)
    ·refine gU<|gI (gX rfl)<|gI (gQ xF rfl)<|gI (gG aq rfl (.tail _ (.head _)) rfl)<|gI (jg aK rfl)<|gT<|gJ rfl<|gH zV rfl<|gO aP rfl rfl rfl (.s .z) rfl rfl<|gC ?_;have el:r2.mP.isNone=(r2.kids.isEmpty&&r2.mV.isNone&&r2.mP.isNone):=by rw[<-zZ,LV,PM];rfl
     exact PL _ _ (congrArg (fun x=>nT h hp pp pad np mR::Rx r.n x 141::Rx m2 r2.mr 150::(r2.Hm++(nF rb root rt eb::nI eb zb::nK zb rb (max z np)::(r2.Hs++mI BV)))) (BU el))
    refine gE ?_;refine gE ?_;refine gE ?_;refine gE ?_;refine gE ?_;refine hG ?_;refine gJ rfl ?_;refine gH zV rfl ?_;refine gO aP rfl rfl rfl (.s .z) rfl rfl ?_;refine gC ?_;have el:false=(r2.kids.isEmpty&&r2.mV.isNone&&r2.mP.isNone):=by rw[<-zZ,LV,PM];rfl
    exact PL _ _ (congrArg (fun x=>nT h hp pp pad np mR::Rx r.n x 141::Rx m2 r2.mr 150::(r2.Hm++(nF rb root rt eb::nI eb zb::nK zb rb (max z np)::(r2.Hs++mI BV)))) (BU el))
   refine gE ?_;refine gE ?_;refine gE ?_;refine gE ?_;refine gE ?_;refine hG ?_;refine gB ?_;refine gE ?_;refine gE ?_;refine gE ?_;refine gE ?_;refine gE ?_;refine hG ?_;refine gJ rfl ?_;refine gH zV rfl ?_;refine gO aP rfl rfl rfl (.s .z) rfl rfl ?_;refine gC ?_;have el:false=(r2.kids.isEmpty&&r2.mV.isNone&&r2.mP.isNone):=by rw[<-zZ,LV];rfl
   exact PL _ _ (congrArg (fun x=>nT h hp pp pad np mR::Rx r.n x 141::Rx m2 r2.mr 150::(r2.Hm++(nF rb root rt eb::nI eb zb::nK zb rb (max z np)::(r2.Hs++mI BV)))) (BU el))
  rintro bc H' rfl;refine jD rfl fun w' ia=>⟨rfl,h,r2.oP::BV,Jn _ (adQ _ rfl),?_,ia.perm (LQ (r:=r2.oP) e1 e2 rfl)⟩
  intro x hx;rcases af.1 hx with rfl|hx
  ·exact wZ.oP
  exact adR x hx
 refine gz ?_;have hl:mK s r.pre=r.pre.length:=by omega
 have h0:r.pre≠[]:=fun e=>by rw[e,PB] at AV;exact AV rfl
 refine gD<|gB<|gB<|gA (ik rfl rfl)<|gC<|gS rfl (fun adS=>?_) (fun adS=>?_)
 ·refine gz ?_;have mS:r.pre.length<s.length:=by omega
  have PN:(s.drop (mK s r.pre))[0]? =some ((s.drop (mK s r.pre)).headD 0):=by
   cases hy:s.drop (mK s r.pre) with
   |nil=>have:=congrArg List.length hy;simp at this;omega
   |cons y ys=>rfl
  refine gD ?_;refine gB ?_;refine gB ?_;refine gA (iX aa rfl rfl (by omega)) ?_;refine gF ?_;refine gC ?_;refine gz ?_;refine gD ?_;refine gB ?_;refine gB ?_;refine gA (iG (i:=0) (b:=(s.drop (mK s r.pre)).headD 0) aa rfl rfl PN) ?_;refine iw Tryd.call88 rfl rfl (fun w1 fa=>adf w1 r.n ((s.drop (mK s r.pre)).headD 0) r.ad r.cp (r.kids.map fun a=>(a,q7 T a)) r.mV r.mP (by rw[aQ];exact oQ fa n5 rfl) (by rw[aQ];omega) (adE fa (fun e he=>.tail _ (.tail _ (.tail _ (.tail _ he)))) nD pQ hr) (oQ fa n5 rfl) (oQ fa n5 rfl)) ?_;refine gF ?_;refine gC ?_;refine gz ?_;refine gz ?_;refine gD ?_;refine gB ?_;refine gA (iA aK rfl) ?_;refine gC ?_;refine gV rfl (fun LW=>?_) (fun LW=>?_)
  ·refine gz<|gD<|gB<|gF<|gC<|ir rfl ?_;obtain⟨c0,yv⟩:=b7.1 LW
   obtain⟨rc,EI,vB⟩:∃x∈T,x.n=c0:=by
    rcases adD yv with h1|h1|h1
    ·exact nD.kids r hr _ h1
    ·exact nD.mV r hr _ h1
    exact nD.mP r hr _ h1
   refine ih (s.drop (mK s r.pre)).length _ _ (by rw[aA];omega) ⟨rc,s.drop (mK s r.pre),rfl,fun e=>?_,by rw[aA];omega,EI,?_,rfl,fun T' hI=>Jn T' (.deep hr hl h0 mS yv (vB▸hI))⟩
   ·have:=congrArg List.length e;rw[aA] at this;simp at this;omega
   rw[vB,yv];exact .of rfl
  refine gL<|gz ?_;have De:wX (r.kids.map fun a=>(a,q7 T a)) r.mV r.mP ((s.drop (mK s r.pre)).headD 0)=none:=by cases hh:wX (r.kids.map fun a=>(a,q7 T a)) r.mV r.mP ((s.drop (mK s r.pre)).headD 0) with|none=>rfl|some _=>rw[hh] at LW;cases LW
  obtain⟨y,ys,hy⟩:∃y ys,s.drop (mK s r.pre)=y::ys:=by
   cases hy:s.drop (mK s r.pre) with
   |nil=>have:=congrArg List.length hy;simp at this;omega
   |cons y ys=>exact⟨y,ys,rfl⟩
  refine hO (H':=nT h hp pp pad np mR::qB r.n r.m r (nF rb root rt eb::nI eb zb::nK zb rb (max z np)::(r.Hs++mI T0))) (fun w1 fa=>fa.perm (LP hT))<|gD<|gB<|gB<|gB<|gH Dg rfl<|gA (gG ag rfl (.head _) rfl)<|iK fZ rfl rfl (fun m3 hm3=>?_);refine jH (vs:=[.int .u8 (t:Int),S (y::ys),PO (some r.n),.slice none 0 0,S pp,Pt m3 0,I 0,PO none,PO none,PO none]) Tryd.call86 (by rw[<-hy];rfl) rfl (fun w1 fa=>Pr w1 t y ys pp (some r.n) none none none none 0 0 m3 0 (fun _=>none) none [] (fun i hi=>oQ fa (.head _) (Dp (f:=fun _=>none) (mp:=none) (nH:=[]) hi)) (oQ fa (.head _) rfl) rfl) (fun b2 sf=>?_);refine gF<|gC<|gz<|gz<|hO (H':=nT h hp pp pad np mR::qB b2 m3 (sA b2 m3 r.n (s.drop (mK s r.pre)) pp t) (qB r.n r.m r (nF rb root rt eb::nI eb zb::nK zb rb (max z np)::(r.Hs++mI T0)))) (fun w1 fa=>HF.perm (H:=Rx b2 (sA b2 m3 r.n (y::ys) pp t).row 141::Rx m3 (sA b2 m3 r.n (y::ys) pp t).mr 150::nT h hp pp pad np mR::qB r.n r.m r (nF rb root rt eb::nI eb zb::nK zb rb (max z np)::(r.Hs++mI T0))) fa ?_) ?_
  ·rw[hy];exact(bG (l₁:=[(Rx b2 (sA b2 m3 r.n (y::ys) pp t).row 141:oJ),Rx m3 (sA b2 m3 r.n (y::ys) pp t).mr 150]))
  refine gD<|gH AT rfl<|gA (gG dy rfl (.head _) rfl)<|gA (iA dU rfl)<|gC<|hY (fun bc H'=>Sub [(0,Pt rb 0),(1,S bx),(3,.int .u8 (t:Int)),(9,Pt h 0),(11,Pt r.n 0),(21,Pt b2 0)] bc/\∃r1 r3,sy h hp bx ((sA b2 m3 r.n (s.drop (mK s r.pre)) pp t)) r1/\r3=r1.pn hp np/\H'=nT h hp pp pad np mR::qB b2 m3 r3 (qB r.n r.m r (nF rb root rt eb::nI eb zb::nK zb rb (max z np)::(r.Hs++mI T0)))) (fun Wf=>?_) ?_
  ·refine gV rfl (fun Gv=>?_) (fun Gv=>?_)
   ·refine gz<|gD<|gB<|gB<|ke ((sA b2 m3 r.n (s.drop (mK s r.pre)) pp t)) (B:=B+1) (LM) (by omega) py Gv rfl rfl rfl rfl (fun r1 ha=>?_);refine gC<|gD<|gB<|gH BM rfl<|gA (gG bF rfl (.head _) rfl)<|gA (iu aE rfl) ?_;exact gJ rfl<|gH AS rfl<|gO bh rfl rfl rfl (.s .z) rfl rfl<|gC<|Wf _ _ ⟨.of rfl,r1,_,.inr ⟨Gv,ha⟩,rfl,by rw[NR.pn,if_pos Gv];rfl⟩
   exact gL<|Wf _ _ ⟨.of rfl,(sA b2 m3 r.n (s.drop (mK s r.pre)) pp t),_,.inl ⟨by simpa using Gv,rfl⟩,rfl,by rw[NR.pn,Gv];rfl⟩
  rintro bc H' ⟨hs,r1,r3,ha,tj,rfl⟩;refine gN hs ?_;clear hs;refine gz<|gz ?_;have pI:r3.n=b2:=by rw[tj,NR.V2,ha.n];rfl
  have tU:r3.m=m3:=by rw[tj,NR.adt,ha.m];rfl
  have KQ:r3.Hs=[]:=by rw[tj,NR.adu,ha.Hs];rfl
  refine hO (H':=nT h hp pp pad np mR::qB r.n r.m r (nF rb root rt eb::nI eb zb::nK zb rb (max z np)::(r.Hs++mI (r3::T0)))) (fun w1 fa=>fa.perm ?_) ?_
  ·have p:=oN [[nT h hp pp pad np mR],[Rx b2 r3.row 141,Rx m3 r3.mr 150],r3.Hm,[Rx r.n r.row 141,Rx r.m r.mr 150],r.Hm,[nF rb root rt eb,nI eb zb,nK zb rb (max z np)],r.Hs,mI T0] [0,1,2,3,4,5,6,7] [0,3,4,5,6,1,2,7] (by decide);refine List.Perm.trans (.of_eq ?_) (p.trans (.of_eq ?_))
   ·simp[qB]
   rw[PG pI tU KQ];simp[qB]
  refine gD<|gB<|gC<|hY (fun bc H'=>Sub [(0,Pt rb 0),(1,S bx),(3,.int .u8 (t:Int)),(9,Pt h 0),(11,Pt r.n 0)] bc/\∃r2,BQ t b2 r r2/\H'=nT h hp pp pad np mR::qB r.n r.m r2 (nF rb root rt eb::nI eb zb::nK zb rb (max z np)::(r2.Hs++mI (r3::T0)))) (fun J6=>?_) ?_
  ·refine gW<|gz<|gD<|gA (ie rfl rfl)<|gF<|gC<|gS rfl (fun adT=>?_) (fun adT=>?_)
   ·refine gD<|gB<|gB<|kR r (ch:=b2) (Q:=(nT h hp pp pad np mR::Rx r.m r.mr 150::(r.Hm++(nF rb root rt eb::nI eb zb::nK zb rb (max z np)::mI (r3::T0))))) pQ (by omega) ?_ rfl rfl rfl (fun uY uB rV vZ=>?_)
    ·have p:=oN [[nT h hp pp pad np mR],[Rx r.n r.row 141],[Rx r.m r.mr 150],r.Hm,[nF rb root rt eb,nI eb zb,nK zb rb (max z np)],r.Hs,mI (r3::T0)] [0,1,2,3,4,5,6] [1,5,0,2,3,4,6] (by decide);refine List.Perm.trans (.of_eq ?_) (p.trans (.of_eq ?_))
     ·simp[qB]
     simp
    refine gC<|il<|hO (H':=nT h hp pp pad np mR::qB r.n r.m ({r with kids:=r.kids++[b2],ad:=uY,cp:=uB,Hs:=rV}:NR) (nF rb root rt eb::nI eb zb::nK zb rb (max z np)::(rV++mI (r3::T0)))) (fun w1 fa=>fa.perm ?_) (J6 _ _ ⟨.of rfl,({r with kids:=r.kids++[b2],ad:=uY,cp:=uB,Hs:=rV}:NR),.st (by omega) vZ,rfl⟩);have p:=oN [[nT h hp pp pad np mR],[Rx r.n ({r with kids:=r.kids++[b2],ad:=uY,cp:=uB,Hs:=rV}:NR).row 141],[Rx r.m r.mr 150],r.Hm,[nF rb root rt eb,nI eb zb,nK zb rb (max z np)],rV,mI (r3::T0)] [1,5,0,2,3,4,6] [0,1,2,3,4,5,6] (by decide);refine List.Perm.trans (.of_eq ?_) (p.trans (.of_eq ?_))
    ·simp
    simp[qB,NR.mr]
   refine gz<|gD<|gA (ie rfl rfl)<|gF<|gC<|gS rfl (fun adU=>?_) (fun adU=>?_)
   ·exact gD<|gB<|gB<|gJ rfl<|gH zU rfl<|gO bm rfl rfl rfl (.s .z) rfl rfl<|gC<|il<|J6 _ _ ⟨.of rfl,{r with mV:=some b2},.ng (by omega),rfl⟩
   refine gz<|gD<|gA (ie rfl rfl)<|gF<|gC<|gS rfl (fun adV=>?_) (fun adV=>?_)
   ·exact gD<|gB<|gB<|gJ rfl<|gH xF rfl<|gO bm rfl rfl rfl (.s .z) rfl rfl<|gC<|il<|J6 _ _ ⟨.of rfl,{r with mP:=some b2},.any (by omega),rfl⟩
   refine gL<|il ?_;omega
  rintro bc H' ⟨hs,r2,LX,rfl⟩;refine gN hs ?_;clear hs;have wZ:r2.ok (B+1):=LX.ok pQ;have zZ:=wZ.LL;have e1:r2.n=r.n:=by cases LX<;>rfl
  have e2:r2.m=r.m:=by cases LX<;>rfl
  refine hY (fun bc H'=>H'=nT h hp pp pad np mR::Rx r.n r2.oP.row 141::Rx r.m r2.mr 150::(r2.Hm++(nF rb root rt eb::nI eb zb::nK zb rb (max z np)::(r2.Hs++mI (r3::T0))))) (fun PQ=>?_) ?_
  ·refine gD<|gB<|gB<|gJ rfl<|gH BL rfl<|gA (gG eP rfl (.tail _ (.head _)) rfl)<|gA (jL c7 rfl)<|gB<|gZ 397 rfl (fun LY=>?_) (fun LY=>?_)
   ·refine gU<|gI (gX rfl)<|gI (gQ zU rfl)<|gI (gG aq rfl (.tail _ (.head _)) rfl)<|gI (jg aK rfl)<|gT<|gB<|gZ 404 rfl (fun PR=>?_) (fun PR=>?_)
    ·refine gU<|gI (gX rfl)<|gI (gQ xF rfl)<|gI (gG aq rfl (.tail _ (.head _)) rfl)<|gI (jg aK rfl)<|gT<|gJ rfl<|gH zV rfl<|gO aP rfl rfl rfl (.s .z) rfl rfl<|gC ?_;have el:r2.mP.isNone=(r2.kids.isEmpty&&r2.mV.isNone&&r2.mP.isNone):=by rw[<-zZ,LY,PR];rfl
     exact PQ _ _ (congrArg (fun x=>nT h hp pp pad np mR::Rx r.n x 141::Rx r.m r2.mr 150::(r2.Hm++(nF rb root rt eb::nI eb zb::nK zb rb (max z np)::(r2.Hs++mI (r3::T0))))) (BU el))
    refine gE ?_;refine gE ?_;refine gE ?_;refine gE ?_;refine gE ?_;refine hG ?_;refine gJ rfl ?_;refine gH zV rfl ?_;refine gO aP rfl rfl rfl (.s .z) rfl rfl ?_;refine gC ?_;have el:false=(r2.kids.isEmpty&&r2.mV.isNone&&r2.mP.isNone):=by rw[<-zZ,LY,PR];rfl
    exact PQ _ _ (congrArg (fun x=>nT h hp pp pad np mR::Rx r.n x 141::Rx r.m r2.mr 150::(r2.Hm++(nF rb root rt eb::nI eb zb::nK zb rb (max z np)::(r2.Hs++mI (r3::T0))))) (BU el))
   refine gE ?_;refine gE ?_;refine gE ?_;refine gE ?_;refine gE ?_;refine hG ?_;refine gB ?_;refine gE ?_;refine gE ?_;refine gE ?_;refine gE ?_;refine gE ?_;refine hG ?_;refine gJ rfl ?_;refine gH zV rfl ?_;refine gO aP rfl rfl rfl (.s .z) rfl rfl ?_;refine gC ?_;have el:false=(r2.kids.isEmpty&&r2.mV.isNone&&r2.mP.isNone):=by rw[<-zZ,LY];rfl
   exact PQ _ _ (congrArg (fun x=>nT h hp pp pad np mR::Rx r.n x 141::Rx r.m r2.mr 150::(r2.Hm++(nF rb root rt eb::nI eb zb::nK zb rb (max z np)::(r2.Hs++mI (r3::T0))))) (BU el))
  rintro bc H' rfl;refine jD rfl fun w' ia=>⟨rfl,h,r2.oP::r3::T0,Jn _ (tj▸ .child hT h0 hl mS De ha LX),?_,ia.perm (LQ (r:=r2.oP) e1 e2 rfl)⟩
  intro x hx;rcases af.1 hx with rfl|hx
  ·exact wZ.oP.mono (by omega)
  rcases af.1 hx with rfl|hx
  ·rw[tj];exact(ha.ok (B:=B) LM py).pn.mono (by omega)
  exact(nk x (Gp x hx)).mono (by omega)
 refine gz<|hO (H':=nT h hp pp pad np mR::qB r.n r.m r (nF rb root rt eb::nI eb zb::nK zb rb (max z np)::(r.Hs++mI T0))) (fun w1 fa=>fa.perm (LP hT))<|gD<|gH AT rfl<|gA (gG dy rfl (.head _) rfl)<|gA (iA dU rfl)<|gC<|hY (fun bc H'=>Sub [(0,Pt rb 0),(1,S bx),(3,.int .u8 (t:Int)),(9,Pt h 0),(11,Pt r.n 0)] bc/\∃r1 r3,sy h hp bx (r) r1/\r3=r1.po hp np pp/\H'=nT h hp pp pad np mR::qB r.n r.m r3 (nF rb root rt eb::nI eb zb::nK zb rb (max z np)::(r.Hs++mI T0))) (fun Wg=>?_) ?_
 ·refine gV rfl (fun Gw=>?_) (fun Gw=>?_)
  ·refine gz<|gD<|gB<|gB<|ke (r) (B:=B+1) (⟨pQ.hm,pQ.hs,pQ.nil,cz pQ.wH,pQ.keys,cz pQ.uX⟩) (by omega) py Gw rfl rfl rfl rfl (fun r1 ha=>?_);refine gC<|gz<|gD<|gB<|gH BM rfl<|gA (gG bF rfl (.head _) rfl) ?_;refine gA (iu aE rfl)<|gJ rfl<|gH AS rfl<|gO bh rfl rfl rfl (.s .z) rfl rfl<|gC<|gD ?_;refine gB<|gH Dg rfl<|gA (gG ag rfl (.head _) rfl)<|gJ rfl<|gH AR rfl<|gO ah rfl rfl rfl (.s .z) rfl rfl ?_;exact gC<|Wg _ _ ⟨.of rfl,r1,_,.inr ⟨Gw,ha⟩,rfl,by rw[NR.po,if_pos Gw];rfl⟩
  exact gL<|Wg _ _ ⟨.of rfl,r,_,.inl ⟨by simpa using Gw,rfl⟩,rfl,by rw[NR.po,Gw];rfl⟩
 rintro bc H' ⟨hs,r1,r3,ha,tj,rfl⟩;refine gN hs ?_;clear hs;refine jD rfl fun w' ia=>⟨rfl,h,r3::T0,Jn _ (tj▸ .same hT h0 hl (by omega) ha),?_,ia.perm (LQ (by rw[tj,NR.Gn,ha.n]) (by rw[tj,NR.LN,ha.m]) (by rw[tj,NR.LO,ha.Hs]))⟩
 intro x hx;rcases af.1 hx with rfl|hx
 ·rw[tj];exact(ha.ok pQ py).po.mono (by omega)
 exact(nk x (Gp x hx)).mono (by omega)
end Go.Proofs.Ec
namespace Bw
open Go Go.Proofs Go.Proofs.Ec
inductive Tok where
 |b (c:UInt8)
 |P
 |A
instance:DecidableEq Tok:=fun a b=>match a,b with
 |.b c,.b d=>if h:c=d then isTrue (by rw[h]) else isFalse (fun e=>h (by cases e;rfl))
 |.P,.P =>isTrue rfl
 |.A,.A =>isTrue rfl
 |.b _,.P =>isFalse (fun e=>by cases e)
 |.b _,.A =>isFalse (fun e=>by cases e)
 |.P,.b _=>isFalse (fun e=>by cases e)
 |.P,.A =>isFalse (fun e=>by cases e)
 |.A,.b _=>isFalse (fun e=>by cases e)
 |.A,.P =>isFalse (fun e=>by cases e)
def Tok.byte:Tok->UInt8
 |.b c=>c
 |.P =>58
 |.A =>42
def Tok.ok:Tok->Prop
 |.b c=>c≠58/\c≠42
 |_=>True
def Tok.st:Tok->Prop
 |.b c=>c≠58/\c≠42
 |_=>False
theorem Tok.st.ok {t:Tok} (h:t.st):t.ok:=by cases t<;>simp_all[Tok.st,Tok.ok]
theorem Tok.Jp {s t:Tok} (hs:s.ok) (ht:t.ok) (e:s.byte=t.byte):s=t:=by
 cases s<;>cases t<;>simp_all[Tok.byte,Tok.ok]
def tb (l:List Tok):List UInt8:=l.map Tok.byte
def bs (l:List UInt8):List Tok:=l.map Tok.b
theorem adW (l:List UInt8):tb (bs l)=l:=by simp[tb,bs,Tok.byte,Function.comp_def]
def okB (l:List UInt8):Prop:=∀c∈l,c≠58/\c≠42
theorem PS {l:List UInt8} (h:okB l):∀t∈bs l,t.st:=by
 intro t ht;obtain⟨c,hc,rfl⟩:=aZ.1 ht;exact h c hc
def ny (l:List Tok):Nat:=(l.filter fun t=>match t with|.b _=>false|_=>true).length
theorem BW (a b:List Tok):ny (a++b)=ny a+ny b:=by simp[ny]
structure En where
 tk:List Tok
 rm:Option (List UInt8×Nat)
def sL:List En->List UInt8->List Tok->Option Nat
 |[],_,_=>none
 |e::R,m,p=>match e.rm with
  |some (m',h)=>if e.tk=p/\m'=m then some h else sL R m p
  |none=>sL R m p
theorem Wh {R:List En} {m:List UInt8} {p:List Tok} (h:∀e∈R,e.tk≠p):sL R m p=none:=by
 induction R with
 |nil=>rfl
 |cons e R ih=>
  simp only[sL];have h1:=h e (.head _);have h2:=ih fun e he=>h e (.tail _ he)
  cases he:e.rm with
  |none=>exact h2
  |some p=>obtain⟨m',h'⟩:=p;simp[h1,h2]
def pE (r:NR) (m:List UInt8):Option Nat:=if m=oo then r.nf else getM r.f r.kv m
theorem adX (kv:AL) (m m':List UInt8) (h:Nat):uJ (tQ kv m h) m'=if m=m' then some h else uJ kv m':=by
 induction kv with
 |nil=>simp[tQ,uJ]
 |cons p r ih=>
  obtain⟨k,v⟩:=p;simp only[tQ];by_cases e:k=m
  ·subst e;simp only[if_true,uJ];split<;>rfl
  rw[if_neg e];simp only[uJ,ih];by_cases e1:k=m'
  ·subst e1;simp[Ne.symm e]
  simp[e1]
theorem adY {m m':List UInt8} {i:Nat} (h:nY m=some i) (h':nY m'=some i):m=m':=by
 have key:∀(x:List UInt8) (j:Nat),nY x=some j->x=rW j:=by
  intro x j hx
  unfold nY at hx
  repeat' (split at hx;· rename_i e;rw[e];simp only[bk] at hx;subst hx;rfl)
  cases hx
 rw[key m i h,key m' i h']
theorem adZ (f:Nat->Option Nat) (kv:AL) (m m':List UInt8) (h:Nat):getM (qI f m h) (pY kv m h) m'=if m=m' then some h else getM f kv m':=by
 unfold getM qI pY
 cases hm:nY m with
 |some i=>
  cases Dr:nY m' with
  |some j=>
   simp only;by_cases e:j=i
   ·subst e;rw[if_pos rfl,if_pos (adY hm Dr)]
   rw[if_neg e,if_neg (fun h=>by subst h;rw[hm] at Dr;exact e (bp Dr).symm)]
  |none=>simp only;rw[if_neg (fun h=>by subst h;rw[hm] at Dr;cases Dr)]
 |none=>
  cases Dr:nY m' with
  |some j=>simp only;rw[if_neg (fun h=>by subst h;rw[hm] at Dr;cases Dr)]
  |none=>simp only;exact adX kv m m' h
theorem ad0 {h:Nat} {m m':List UInt8} {r r':NR} (a:xH h m r r'):pE r' m'=if m=m' then some h else pE r m':=by
 cases a with
 |nf e=>
  subst e;simp only[pE];by_cases e2:m'=oo
  ·subst e2;simp
  rw[if_neg e2,if_neg e2,if_neg (fun h=>e2 h.symm)]
 |mk e h1 h2=>
  simp only[pE];by_cases e2:m'=oo
  ·subst e2;simp[e]
  rw[if_neg e2,if_neg e2];exact adZ _ _ _ _ _
inductive Ch (T:List NR) (x c:NR):Prop
 |st (hx:x∈T) (hc:c∈T) (h:c.n∈x.kids)
 |pa (hx:x∈T) (hc:c∈T) (h:x.mV=some c.n)
 |an (hx:x∈T) (hc:c∈T) (h:x.mP=some c.n)
theorem Ch.l {T x c} (h:Ch T x c):x∈T:=by cases h<;>assumption
theorem Ch.r {T x c} (h:Ch T x c):c∈T:=by cases h<;>assumption
inductive uc (T:List NR) (a:Nat):Nat->Prop
 |refl:uc T a a
 |step {x c:NR} (h:uc T a x.n) (hc:Ch T x c):uc T a c.n
structure Sh (T:List NR) (q:Nat->List Tok) (R:List En) (root:Nat):Prop where
 cl:Cl T
 q8:∀x c,x∈T->c∈T->c.n∈x.kids->c.kd=0/\c.ng=some x.n/\c.pre≠[]/\okB c.pre/\q c.n=q x.n++bs c.pre
 mV:∀x c,x∈T->c∈T->x.mV=some c.n->c.kd=1/\c.ng=some x.n/\c.pre=[58]/\q c.n=q x.n++[.P]
 mP:∀x c,x∈T->c∈T->x.mP=some c.n->c.kd=2/\c.ng=some x.n/\c.pre=[42]/\q c.n=q x.n++[.A]/\c.kids=[]/\c.mV=none/\c.mP=none/\c.pc=ny (q c.n)
 rt:∃r∈T,r.n=root/\r.ng=none/\r.kd=0/\okB r.pre/\q root=bs r.pre/\(R≠[]->r.pre≠[])
 one:R=[]->∀r∈T,r.n=root/\r.pre=[]/\r.kids=[]/\r.mV=none/\r.mP=none
 dl:∀x c d,x∈T->c∈T->d∈T->c.n∈x.kids->d.n∈x.kids->c.nP=d.nP->c.n=d.n
 nP:∀r∈T,r.pre≠[]->r.nP=r.pre.headD 0
 reach:∀r∈T,uc T root r.n
 hd:∀e∈R,e.tk.head? =some (.b 47)
 uZ:∀e∈R,∃r∈T,q r.n=e.tk
 vC:R≠[]->∀r∈T,∃e∈R,q r.n<+:e.tk
 pE:∀r∈T,∀m,pE r m=sL R m (q r.n)
 leaf:∀r∈T,r.kd=1->r.leaf=(r.kids.isEmpty&&r.mV.isNone&&r.mP.isNone)
 nn:∀r∈T,r.nn=re r.f r.kv
 nH:∀r∈T,r.nn=true->BN r.f r.kv r.nH
 kv:∀r∈T,∀p∈r.kv,nY p.1=none/\p.1≠oo
theorem uC {T:List NR} (nj:(T.map NR.n).Nodup) {x y:NR} (hx:x∈T) (hy:y∈T) (e:x.n=y.n):x=y:=by
 obtain⟨T0,hT⟩:=Nf hx;rcases af.1 (hT.mem_iff.1 hy) with h|h
 ·exact h.symm
 exact absurd e.symm (Jl hT nj y h)
section
variable {T:List NR} {q:Nat->List Tok} {R:List En} {root:Nat}
theorem Sh.ch (s:Sh T q R root) {x c:NR} (h:Ch T x c):∃t l,q c.n=q x.n++t::l/\t.byte=c.nP/\t.ok/\c.pre≠[]/\tb (t::l)=c.pre/\c.ng=some x.n:=by
 cases h with
 |st hx hc h=>
  obtain⟨_,h2,h3,h4,h5⟩:=s.q8 x c hx hc h;have hl:=s.nP c hc h3
  cases hp:c.pre with
  |nil=>exact absurd hp h3
  |cons a l=>exact⟨.b a,bs l,by rw[h5,hp];rfl,by rw[hl,hp];rfl,h4 a (by rw[hp];exact .head _),by simp,by simp[tb,bs,Tok.byte,Function.comp_def],h2⟩
 |pa hx hc h=>
  obtain⟨_,h2,h3,h4⟩:=s.mV x c hx hc h
  exact⟨.P,[],h4,by rw[s.nP c hc (by rw[h3];simp),h3];rfl,trivial,by rw[h3];simp,by rw[h3];rfl,h2⟩
 |an hx hc h=>
  obtain⟨_,h2,h3,h4,_⟩:=s.mP x c hx hc h;exact⟨.A,[],h4,by rw[s.nP c hc (by rw[h3];simp),h3];rfl,trivial,by rw[h3];simp,by rw[h3];rfl,h2⟩
theorem Sh.Wi (s:Sh T q R root) {x c:NR} (h:Ch T x c):q x.n<+:q c.n:=by
 obtain⟨t,l,h1,_⟩:=s.ch h;exact⟨t::l,h1.symm⟩
theorem Sh.Ds (s:Sh T q R root) {a c:Nat} (h:uc T a c):q a<+:q c:=by
 induction h with
 |refl=>exact cU
 |step _ hc ih=>exact ih.trans (s.Wi hc)
theorem Sh.LZ (s:Sh T q R root) {x c d:NR} (hc:Ch T x c) (hd:Ch T x d) {t:Tok} (h1:q x.n++[t]<+:q c.n) (h2:q x.n++[t]<+:q d.n):c=d:=by
 have first:∀{y:NR} {l l':List Tok} {u:Tok},q y.n=q x.n++u::l->q x.n++[t]<+:q y.n->u=t:=by
  intro y l l' u e hp;rw[e] at hp;have:=(bu _).1 hp;simpa using(ct.1 this).1.symm
 obtain⟨u,l,e1,e2,_⟩:=s.ch hc;obtain⟨v,l',e3,e4,_⟩:=s.ch hd;have hu:u=t:=first (l':=[]) e1 h1;have hv:v=t:=first (l':=[]) e3 h2;subst hu;subst hv;have el:c.nP=d.nP:=by rw[<-e2,<-e4]
 refine uC s.cl.nd hc.r hd.r ?_
 cases hc with
 |st hx hc h=>
  obtain⟨_,_,h3,h4,h5⟩:=s.q8 x c hx hc h
  have mO:v.st:=by
   cases hp:c.pre with
   |nil=>exact absurd hp h3
   |cons a l2=>
    rw[hp,e1] at h5;have:=aR h5;simp only[bs,aX,aM] at this;rw[this.1];exact h4 a (by rw[hp];exact .head _)
  cases hd with
  |st _ tO h'=>exact s.dl x c d hx hc tO h h' el
  |pa _ tO h'=>
   have:=(s.mV x d hx tO h').2.2.2;rw[e3] at this;have:=aR this;simp only[aM] at this
   rw[this.1] at mO;exact mO.elim
  |an _ tO h'=>
   have:=(s.mP x d hx tO h').2.2.2.1;rw[e3] at this;have:=aR this;simp only[aM] at this
   rw[this.1] at mO;exact mO.elim
 |pa hx hc h=>
  have hP:v=.P :=by
   have:=(s.mV x c hx hc h).2.2.2;rw[e1] at this;have:=aR this;simp only[aM] at this;exact this.1
  cases hd with
  |st _ tO h'=>
   obtain⟨_,_,h3,h4,h5⟩:=s.q8 x d hx tO h'
   cases hp:d.pre with
   |nil=>exact absurd hp h3
   |cons a l2=>
    rw[hp,e3] at h5;have:=aR h5;simp only[bs,aX,aM] at this
    rw[hP] at this;cases this.1
  |pa _ tO h'=>rw[h] at h';exact bp h'
  |an _ tO h'=>
   have:=(s.mP x d hx tO h').2.2.2.1;rw[e3] at this;have:=aR this;simp only[aM] at this
   rw[hP] at this;cases this.1
 |an hx hc h=>
  have hA:v=.A :=by
   have:=(s.mP x c hx hc h).2.2.2.1;rw[e1] at this;have:=aR this;simp only[aM] at this;exact this.1
  cases hd with
  |st _ tO h'=>
   obtain⟨_,_,h3,h4,h5⟩:=s.q8 x d hx tO h'
   cases hp:d.pre with
   |nil=>exact absurd hp h3
   |cons a l2=>
    rw[hp,e3] at h5;have:=aR h5;simp only[bs,aX,aM] at this
    rw[hA] at this;cases this.1
  |pa _ tO h'=>
   have:=(s.mV x d hx tO h').2.2.2;rw[e3] at this;have:=aR this;simp only[aM] at this
   rw[hA] at this;cases this.1
  |an _ tO h'=>rw[h] at h';exact bp h'
theorem uc.first {a c:Nat} (h:uc T a c):a=c\/∃x d,x.n=a/\Ch T x d/\uc T d.n c:=by
 induction h with
 |refl=>exact .inl rfl
 | @step x c h hc ih=>
  rcases ih with h1|⟨y,d,h1,h2,h3⟩
  ·exact .inr ⟨x,c,h1.symm,hc,.refl⟩
  exact .inr ⟨y,d,h1,h2,h3.step hc⟩
theorem Sh.below (s:Sh T q R root) {x y:NR} (hx:x∈T) (hy:y∈T) (hp:q x.n<+:q y.n):uc T x.n y.n:=by
 have key:∀a,uc T root a->q a<+:q y.n->uc T a y.n:=by
  intro a ha
  induction ha with
  |refl=>exact fun _=>s.reach y hy
  | @step z c hz hc ih=>
   intro hp;have h1:=ih ((s.Wi hc).trans hp);obtain⟨t,l,e1,_⟩:=s.ch hc;rcases h1.first with h2|⟨z',d,h2,h3,h4⟩
   ·exfalso;rw[e1,h2] at hp;have:=hp.length_le;simp at this;omega
   have pR:z'=z:=uC s.cl.nd h3.l hc.l h2;subst pR;obtain⟨t',l',e3,_⟩:=s.ch h3;have hd:q d.n<+:q y.n:=s.Ds h4
   have rI:c=d:=by
    refine s.LZ hc h3 (t:=t) (by rw[e1];exact⟨l,by simp⟩) ?_;rw[e3] at hd⊢;rw[e1] at hp;obtain⟨u1,EJ⟩:=hd;obtain⟨u2,AW⟩:=hp;rw[<-AW] at EJ;simp only[aw] at EJ;have:=aR EJ;simp only[aW,aM] at this;rw[this.1];exact⟨l',by simp⟩
   rw[rI];exact h4
 exact key x.n (s.reach x hx) hp
theorem Sh.next (s:Sh T q R root) {x y:NR} (hx:x∈T) (hy:y∈T) {t:Tok} (hp:q x.n++[t]<+:q y.n):∃c,Ch T x c/\q x.n++[t]<+:q c.n/\q c.n<+:q y.n:=by
 have h1:=s.below hx hy ((fQ _ _).trans hp);rcases h1.first with h2|⟨z,d,h2,h3,h4⟩
 ·exfalso;rw[h2] at hp;have:=hp.length_le;simp at this;omega
 have hz:z=x:=uC s.cl.nd h3.l hx h2;subst hz;have hd:=s.Ds h4;obtain⟨t',l',e3,_⟩:=s.ch h3;refine⟨d,h3,?_,hd⟩;rw[e3] at hd⊢;obtain⟨u1,EJ⟩:=hd;obtain⟨u2,AW⟩:=hp;rw[<-AW] at EJ;simp only[aw] at EJ;have:=aR EJ;simp only[aW,cv,aM] at this;rw[this.1];exact⟨l',by simp⟩
end
end Bw
