/- Lemmas of the walk and plain facts (JeF1 .. JeF4). -/
import Derived.Test.YtmneeannkgnbpaaDoorL1
import Derived.Test.YtmneeannkgnbpaaDoorL2
import Derived.Test.YtmneeannkgnbpaaDoorP24
import Derived.Test.YtmneeannkgnbpaaDoorP01
set_option maxRecDepth 20000
namespace Go.Proofs.Ec
open Go Bw
variable {cb:Nat} {cx:oJ} {fr:SF} {E:SH} {w1:World}
def Ax:Code->List Item->Option (List Item)
 |.seq a b,k=>match Ax a (.code b::k) with
  |some r=>some r
  |none=>Ax b k
 |.block id (.loop x),k=>some (.code x::.inLoop x::.inBlock id::k)
 |_,_=>none
def sR:Code->Code
 |.seq _ b=>b
 |c=>c
def WR (l:Nat):List Item->Option (List Item)
 |.code (.block id (.scope y))::k=>gotoIn l (.inScope y::.inBlock id::k)
 |_=>none
def WS:List Item->List Item
 |.code (.seq .skip r)::k=>.code r::k
 |k=>k
def aeR:List Item->List Item
 |.code (.block id (.scope y))::k=>.code (sR (sR (sR (sR y))))::.inScope y::.inBlock id::k
 |k=>k
noncomputable def B6:List Item:=(Ax ((Tryd.f51.body).getD .skip) []).getD []
noncomputable def JD:List Item:=aeR B6
noncomputable def GW:List Item:=WS ((WR 0 B6).getD [])
noncomputable def DB:List Item:=WS ((WR 1 B6).getD [])
noncomputable def xJ:List Item:=B6.drop 3
theorem Qn:∀(s p:List UInt8),mK s p=p.length<->p<+:s
 |s,[]=>by simp[PB]
 |[],b::p=>by simp[mK]
 |a::s,b::p=>by
  have:=Qn s p;simp only[mK,aI,ct];split
  ·rename_i e;simp[e,this]
  rename_i e;constructor
  ·intro h;omega
  intro h;exact absurd h.1.symm e
def wi (B:LB):Value:=.func (.func 65) #[] #[Pt B.b9 0,Pt B.ru 0,Pt B.ry 0,Pt B.rz 0,Pt B.b6 0,Pt B.rA 0]
def tP (B:LB) (cb:Nat) (bx:List UInt8) (mT:Option Nat):SF:=
 [(1,S bx),(8,Pt cb 0),(9,Pt B.b9 0),(10,PO mT),(11,PO none),(12,Pt B.rA 0),(13,Pt B.ru 0),(14,Pt B.ry 0),(15,Pt B.rz 0),(6,Pt B.b6 0),(16,wi B)]
def pJ (B:LB) (path:List UInt8) (st:St) (cx:oJ):SH:=B.mI path (some st.n) st.si st.pi (path.drop st.si) st.mH++[cx]
theorem Mb {R:Ending->World->Prop} {w:World} {D:Nat->Prop} {B:LB} {bx path:List UInt8} {st:St} {r:NR} (hE:RF w D E) (hr:∀e∈r.mI,e∈E) (hn:r.n=st.n) (su:path.length<=1000000) (PH:r.pre.length<=1000000)
  (aeS:st.si<=path.length) (Qm:st.pi<=1000000) (aeT:cx.w=true) (hs:Sub (tP B cb bx st.mT) fr) (hk:r.kd=0->r.pre<+:path.drop st.si)
  (h:∀bc,Sub ((18,I (((if r.kd=0 then r.pre.length else 0):Nat):Int))::tP B cb bx st.mT) bc->GC Tryd.prog ⟨51,Tryd.f51,R,w,D⟩ 316 JD bc (pJ B path st cx)):GC Tryd.prog ⟨51,Tryd.f51,R,w,D⟩ 316 B6 fr (pJ B path st cx):=by
 have n5:∀(i:Nat) (v:Value),nth r.row i=some v->w.cell? ⟨st.n,i,none⟩=some v:=fun i v hv=>hn▸hE.cell (hr _ (.head _)) hv
 have hD:¬D st.n:=hn▸hE.D (hr _ (.head _));refine gN hs<|gW<|j3<|gz<|gD<|gF<|gC<|gz<|gD<|gF<|gC<|gz<|gz<|gD<|gA (gG aq rfl (.head _) rfl)<|gJ rfl<|gH wG rfl<|gA (hZ dc rfl (n5 10 _ rfl) hD)<|gA (ie rfl rfl)<|gC<|hY (fun bc H'=>Sub [(1,S bx),(8,Pt cb 0),(9,Pt B.b9 0),(10,PO st.mT),(11,PO none),(12,Pt B.rA 0),(13,Pt B.ru 0),(14,Pt B.ry 0),(15,Pt B.rz 0),(6,Pt B.b6 0),(16,wi B),(17,I (((if r.kd=0 then r.pre.length else 0):Nat):Int)),(18,I (((if r.kd=0 then r.pre.length else 0):Nat):Int))] bc/\H'=pJ B path st cx) (fun WT=>?_) ?_
 ·refine gS rfl (fun CZ=>?_) (fun CZ=>?_)
  ·refine gz ?_;have od:r.kd=0:=by omega
   refine gD<|gA (gG ag rfl (m5 (.head _)) rfl)<|gA (ig aa rfl)<|gF<|gC<|gz<|gD<|gA (gG aq rfl (.head _) rfl)<|gJ rfl<|gH yZ rfl<|gA (hZ ag rfl (n5 5 _ rfl) hD)<|gA (ig aa rfl)<|gF<|gC<|gz<|gD<|gB<|gF<|gC<|gz<|gz<|gD<|gB<|gB<|gA (ik rfl rfl)<|gC<|hY (fun bc H'=>Sub [(1,S bx),(8,Pt cb 0),(9,Pt B.b9 0),(10,PO st.mT),(11,PO none),(12,Pt B.rA 0),(13,Pt B.ru 0),(14,Pt B.ry 0),(15,Pt B.rz 0),(6,Pt B.b6 0),(16,wi B),(17,I (r.pre.length:Nat)),(18,I ((0:Nat):Int)),(20,I ((min r.pre.length (path.drop st.si).length :Nat):Int))] bc/\H'=pJ B path st cx) (fun JE=>?_) ?_
   ·refine gS rfl (fun y0=>?_) (fun y0=>?_)
    ·refine gD<|gB<|gF<|gC<|JE _ _ ⟨?_,rfl⟩;rw[show(min r.pre.length (path.drop st.si).length)=(path.drop st.si).length by omega];exact .of rfl
    refine gL<|JE _ _ ⟨?_,rfl⟩;rw[show(min r.pre.length (path.drop st.si).length)=r.pre.length by omega];exact .of rfl
   rintro bc H' ⟨mJ,rfl⟩;refine gN mJ ?_;clear mJ;refine hY (fun bc H'=>Sub [(1,S bx),(8,Pt cb 0),(9,Pt B.b9 0),(10,PO st.mT),(11,PO none),(12,Pt B.rA 0),(13,Pt B.ru 0),(14,Pt B.ry 0),(15,Pt B.rz 0),(6,Pt B.b6 0),(16,wi B),(17,I (r.pre.length:Nat)),(18,I ((mK (path.drop st.si) r.pre:Nat):Int))] bc/\H'=pJ B path st cx) (fun J2=>?_) ?_
   ·refine gW ?_
    refine iC (fun N bc H'=>∃i,i+N=min r.pre.length (path.drop st.si).length /\i+mK ((path.drop st.si).drop i) (r.pre.drop i)=mK (path.drop st.si) r.pre/\Sub [(1,S bx),(8,Pt cb 0),(9,Pt B.b9 0),(10,PO st.mT),(11,PO none),(12,Pt B.rA 0),(13,Pt B.ru 0),(14,Pt B.ry 0),(15,Pt B.rz 0),(6,Pt B.b6 0),(16,wi B),(17,I (r.pre.length:Nat)),(18,I ((i:Nat):Int)),(20,I ((min r.pre.length (path.drop st.si).length :Nat):Int))] bc/\H'=pJ B path st cx) (min r.pre.length (path.drop st.si).length)
     ⟨0,by omega,by simp,.of rfl,rfl⟩ ?_
    rintro N2 bc H' ⟨i,hi,hl,mJ,rfl⟩ qz;refine gN mJ ?_;clear mJ;refine gz<|gz<|iV mixed (by kernel_rfl)<|gK (gM rfl)<|gK (gM rfl)<|gK (ik rfl rfl)<|gK (gM rfl)<|jr 65 rfl (fun ET=>?_) (fun ET=>?_)
    ·have mS:=of_decide_eq_true ET;have mO:=PC (path.drop st.si) r.pre i _ _ (getD_some (by omega)) (getD_some (by omega));refine gY (gG ag rfl (m5 (.head _)) rfl)<|gY (gM rfl)<|gY (iG (i:=i) (b:=(path.drop st.si).getD i 0) aa rfl rfl (getD_some (by omega)))<|gY (gG aq rfl (.head _) rfl)<|gY (gX rfl)<|gY (gQ yZ rfl)<|gY (hZ ag rfl (n5 5 _ rfl) hD)<|gY (gM rfl)<|gY (iG (i:=i) (b:=r.pre.getD i 0) aa rfl rfl (getD_some (by omega)))<|gY (ie rfl rfl)<|gK (iL rfl rfl)<|iH<|gS rfl (fun B7=>?_) (fun B7=>?_)
     ·refine gL ?_;refine gz ?_;refine gW ?_;refine gL ?_;refine il ?_;refine gD ?_;refine gB ?_;refine gA (iB rfl rfl rfl (by omega) (by omega)) ?_;refine gF ?_;refine gC ?_;have e:(path.drop st.si).getD i 0=r.pre.getD i 0:=bU.1 (by omega);rw[if_pos e] at mO;exact qz (N2-1) _ _ (by omega) ⟨i+1,by omega,by omega,.of rfl,rfl⟩
     refine ir rfl ?_;have e:¬(path.drop st.si).getD i 0=r.pre.getD i 0:=fun e=>B7 (by rw[e])
     rw[if_neg e] at mO;refine J2 _ _ ⟨?_,rfl⟩;rw[show mK (path.drop st.si) r.pre=i by omega];exact .of rfl
    refine gP ?_;refine gP ?_;refine gP ?_;refine gP ?_;refine gP ?_;refine gP ?_;refine gP ?_;refine gP ?_;refine gP ?_;refine gP ?_;refine gK (iD rfl rfl) ?_;refine iH ?_;refine iJ rfl ?_;refine ir rfl ?_;have Bi:=of_decide_eq_false ET
    have mO:mK ((path.drop st.si).drop i) (r.pre.drop i)=0:=by
     have h1:=zu ((path.drop st.si).drop i) (r.pre.drop i);have e1:((path.drop st.si).drop i).length =(path.drop st.si).length -i:=aA;have e2:(r.pre.drop i).length =r.pre.length-i:=aA;rw[e1,e2] at h1;omega
    refine J2 _ _ ⟨?_,rfl⟩;rw[show mK (path.drop st.si) r.pre=i by omega];exact .of rfl
   rintro bc H' ⟨mJ,rfl⟩;refine gN mJ ?_;clear mJ;refine WT _ _ ⟨?_,rfl⟩;rw[if_pos od,<-(Qn _ _).2 (hk od)];exact .of rfl
  refine gL ?_;have od:¬r.kd=0:=fun e=>CZ (by rw[e];rfl)
  refine WT _ _ ⟨?_,rfl⟩;rw[if_neg od];exact .of rfl
 rintro bc H' ⟨mJ,rfl⟩;refine gN mJ ?_;clear mJ;refine gz<|gz<|gD<|gB<|gB<|gA (iF rfl rfl) ?_;refine gC<|gV rfl (fun B8=>absurd B8 (by simp)) (fun B8=>?_);exact gL<|h _ (.of rfl)
theorem WU {R:Ending->World->Prop} {w:World} {D:Nat->Prop} {B:LB} {bx path:List UInt8} {st:St} {r:NR} (hE:RF w D E) (hr:∀e∈r.mI,e∈E) (hn:r.n=st.n) (mM:path.length<=1000000) (PH:r.pre.length<=1000000)
  (q9:st.si<=path.length) (B5:st.pi<=1000000) (aeT:cx.w=true) (hs:Sub (tP B cb bx st.mT) fr) (hk:r.kd=0) (nN:¬r.pre<+:path.drop st.si) (h0:r.ng=none->∀w',HF w D (B.mI path none st.si st.pi (path.drop st.si) st.mH++[cx]) w'->R (.returned (.tuple #[])) w')
  (h1:∀p bc,r.ng=some p->Sub (tP B cb bx st.mT) bc->GC Tryd.prog ⟨51,Tryd.f51,R,w,D⟩ 316 GW bc (pJ B path {st with n:=p} cx)):GC Tryd.prog ⟨51,Tryd.f51,R,w,D⟩ 316 B6 fr (pJ B path st cx):=by
 have n5:∀(i:Nat) (v:Value),nth r.row i=some v->w.cell? ⟨st.n,i,none⟩=some v:=fun i v hv=>hn▸hE.cell (hr _ (.head _)) hv
 have hD:¬D st.n:=hn▸hE.D (hr _ (.head _));refine gN hs<|gW<|j3<|gz<|gD<|gF ?_;refine gC<|gz<|gD<|gF<|gC<|gz ?_;refine gz<|gD<|gA (gG aq rfl (.head _) rfl)<|gJ rfl<|gH wG rfl<|gA (hZ dc rfl (n5 10 _ rfl) hD) ?_;refine gA (ie rfl rfl)<|gC<|gS rfl (fun CZ=>?_) (fun CZ=>absurd (by rw[hk];rfl) CZ);refine gz ?_;have od:r.kd=0:=by omega
 refine gD<|gA (gG ag rfl (m5 (.head _)) rfl)<|gA (ig aa rfl)<|gF<|gC<|gz<|gD<|gA (gG aq rfl (.head _) rfl)<|gJ rfl<|gH yZ rfl<|gA (hZ ag rfl (n5 5 _ rfl) hD)<|gA (ig aa rfl)<|gF<|gC<|gz<|gD<|gB<|gF<|gC<|gz<|gz<|gD<|gB<|gB<|gA (ik rfl rfl)<|gC<|hY (fun bc H'=>Sub [(1,S bx),(8,Pt cb 0),(9,Pt B.b9 0),(10,PO st.mT),(11,PO none),(12,Pt B.rA 0),(13,Pt B.ru 0),(14,Pt B.ry 0),(15,Pt B.rz 0),(6,Pt B.b6 0),(16,wi B),(17,I (r.pre.length:Nat)),(18,I ((0:Nat):Int)),(20,I ((min r.pre.length (path.drop st.si).length :Nat):Int))] bc/\H'=pJ B path st cx) (fun JE=>?_) ?_
 ·refine gS rfl (fun y0=>?_) (fun y0=>?_)
  ·refine gD<|gB<|gF<|gC<|JE _ _ ⟨?_,rfl⟩;rw[show(min r.pre.length (path.drop st.si).length)=(path.drop st.si).length by omega];exact .of rfl
  refine gL<|JE _ _ ⟨?_,rfl⟩;rw[show(min r.pre.length (path.drop st.si).length)=r.pre.length by omega];exact .of rfl
 rintro bc H' ⟨mJ,rfl⟩;refine gN mJ ?_;clear mJ;refine hY (fun bc H'=>Sub [(1,S bx),(8,Pt cb 0),(9,Pt B.b9 0),(10,PO st.mT),(11,PO none),(12,Pt B.rA 0),(13,Pt B.ru 0),(14,Pt B.ry 0),(15,Pt B.rz 0),(6,Pt B.b6 0),(16,wi B),(17,I (r.pre.length:Nat)),(18,I ((mK (path.drop st.si) r.pre:Nat):Int))] bc/\H'=pJ B path st cx) (fun J2=>?_) ?_
 ·refine gW ?_
  refine iC (fun N bc H'=>∃i,i+N=min r.pre.length (path.drop st.si).length /\i+mK ((path.drop st.si).drop i) (r.pre.drop i)=mK (path.drop st.si) r.pre/\Sub [(1,S bx),(8,Pt cb 0),(9,Pt B.b9 0),(10,PO st.mT),(11,PO none),(12,Pt B.rA 0),(13,Pt B.ru 0),(14,Pt B.ry 0),(15,Pt B.rz 0),(6,Pt B.b6 0),(16,wi B),(17,I (r.pre.length:Nat)),(18,I ((i:Nat):Int)),(20,I ((min r.pre.length (path.drop st.si).length :Nat):Int))] bc/\H'=pJ B path st cx) (min r.pre.length (path.drop st.si).length)
   ⟨0,by omega,by simp,.of rfl,rfl⟩ ?_
  rintro N2 bc H' ⟨i,hi,hl,mJ,rfl⟩ qz;refine gN mJ ?_;clear mJ;refine gz<|gz<|iV mixed (by kernel_rfl)<|gK (gM rfl)<|gK (gM rfl)<|gK (ik rfl rfl)<|gK (gM rfl)<|jr 65 rfl (fun ET=>?_) (fun ET=>?_)
  ·have mS:=of_decide_eq_true ET;have mO:=PC (path.drop st.si) r.pre i _ _ (getD_some (by omega)) (getD_some (by omega));refine gY (gG ag rfl (m5 (.head _)) rfl)<|gY (gM rfl)<|gY (iG (i:=i) (b:=(path.drop st.si).getD i 0) aa rfl rfl (getD_some (by omega)))<|gY (gG aq rfl (.head _) rfl)<|gY (gX rfl)<|gY (gQ yZ rfl)<|gY (hZ ag rfl (n5 5 _ rfl) hD)<|gY (gM rfl)<|gY (iG (i:=i) (b:=r.pre.getD i 0) aa rfl rfl (getD_some (by omega)))<|gY (ie rfl rfl)<|gK (iL rfl rfl)<|iH<|gS rfl (fun B7=>?_) (fun B7=>?_)
   ·refine gL ?_;refine gz ?_;refine gW ?_;refine gL ?_;refine il ?_;refine gD ?_;refine gB ?_;refine gA (iB rfl rfl rfl (by omega) (by omega)) ?_;refine gF ?_;refine gC ?_;have e:(path.drop st.si).getD i 0=r.pre.getD i 0:=bU.1 (by omega);rw[if_pos e] at mO;exact qz (N2-1) _ _ (by omega) ⟨i+1,by omega,by omega,.of rfl,rfl⟩
   refine ir rfl ?_;have e:¬(path.drop st.si).getD i 0=r.pre.getD i 0:=fun e=>B7 (by rw[e])
   rw[if_neg e] at mO;refine J2 _ _ ⟨?_,rfl⟩;rw[show mK (path.drop st.si) r.pre=i by omega];exact .of rfl
  refine gP ?_;refine gP ?_;refine gP ?_;refine gP ?_;refine gP ?_;refine gP ?_;refine gP ?_;refine gP ?_;refine gP ?_;refine gP ?_;refine gK (iD rfl rfl) ?_;refine iH ?_;refine iJ rfl ?_;refine ir rfl ?_;have Bi:=of_decide_eq_false ET
  have mO:mK ((path.drop st.si).drop i) (r.pre.drop i)=0:=by
   have h1:=zu ((path.drop st.si).drop i) (r.pre.drop i);have e1:((path.drop st.si).drop i).length =(path.drop st.si).length -i:=aA;have e2:(r.pre.drop i).length =r.pre.length-i:=aA;rw[e1,e2] at h1;omega
  refine J2 _ _ ⟨?_,rfl⟩;rw[show mK (path.drop st.si) r.pre=i by omega];exact .of rfl
 rintro bc H' ⟨mJ,rfl⟩;refine gN mJ ?_;clear mJ;refine gz<|gz<|gD<|gB<|gB<|gA (iF rfl rfl) ?_;refine gC<|gV rfl (fun B8=>?_) (fun B8=>absurd ((Qn _ _).1 (by simp at B8;omega)) nN);refine gz<|gD<|gB<|kn (H1:=B.mI path (some st.n) st.si st.pi (path.drop st.si) st.mH) (Hk:=[cx]) (fun v H1=>v=.tuple #[.int .u8 1,.bool r.ng.isSome]/\H1=B.mI path r.ng st.si st.pi (path.drop st.si) st.mH) (.refl _) LB.w Tryd.call65 (x:=.tmp 83) (xs:=[.const (.int .u8 0)]) (vs:=[.int .u8 0]) (cs:=[Pt B.b9 0,Pt B.ru 0,Pt B.ry 0,Pt B.rz 0,Pt B.b6 0,Pt B.rA 0]) rfl rfl rfl (fun w1 wL fa=>?_) ?_
 ·have nD:∀(i:Nat) (v:Value),nth r.row i=some v->w1.cell? ⟨st.n,i,none⟩=some v:=fun i v hv=>wL.pT (n5 i v hv) hD
  refine(aeN w1 _ B st.n r.ng path r.pre (path.drop st.si) st.si st.pi st.mH fa (nD 1 _ rfl) (nD 5 _ rfl) (by rw[<-hk];exact nD 10 _ rfl) ?_ q9 mM B5).mono fun e w' ⟨h2,h3⟩=>⟨_,_,h2,LB.w,h3,rfl,rfl⟩
  rintro⟨e,he,AN⟩;have mS:st.n<w.heap.size:=World.block_lt_of_cell? w ⟨st.n,1,none⟩ (n5 1 _ rfl);rcases wL.wr e (ay _ he) (LB.w e he) with h2|h2
  ·exact hD (AN▸h2)
  have h2:w.heap.size<=e.b:=h2;omega
 rintro v H1 ⟨rfl,rfl⟩;refine gB<|gA (iz rfl rfl)<|gA (iz rfl rfl)<|gF<|gF<|gC<|gz<|gD<|gB<|gA (iU rfl)<|gC<|gV rfl (fun tF=>?_) (fun tF=>?_)
 ·have xE:r.ng=none:=by cases qA:r.ng with|none=>rfl|some _=>rw[qA] at tF;cases tF
  exact jD rfl fun w' ia=>h0 xE w' (xE▸ia)
 refine gz<|gD<|gB<|gA (ie rfl rfl)<|gC<|gS rfl (fun WV=>?_) (fun WV=>?_)
 ·refine kF rfl<|gz<|gL ?_;obtain⟨p,qA⟩:∃p,r.ng=some p:=by cases qA:r.ng with|none=>rw[qA] at tF;cases tF|some p=>exact⟨p,rfl⟩
  exact hO (H':=pJ B path {st with n:=p} cx) (fun w1 fa=>by rw[qA] at fa;exact fa) (h1 p _ qA (.of rfl))
 refine ir rfl ?_;exact absurd rfl WV
theorem Mc {T:List NR} {r:NR} {B:Nat} (hc:∀x∈T,∀b l t off v,(Rx b l t:oJ)∈x.mI->nth l off=some v->w1.cell? ⟨b,off,none⟩=some v) (nD:Cl T) (pQ:r.ok B) (hr:r∈T):
  ∀i p,(r.kids.map fun a=>(a,q7 T a))[i]? =some p->∃a,r.ad=some ⟨a,0,none⟩/\w1.cell? ⟨a,i,none⟩=some (Pt p.1 0)/\w1.cell? ⟨p.1,9,none⟩=some (.int .u8 (p.2.toNat:Int)):=by
 intro i p hp;rw[aD] at hp
 cases hk:r.kids[i]? with
 |none=>rw[hk] at hp;cases hp
 |some a=>
  rw[hk] at hp;simp only[dm,bk] at hp;subst hp;have hi:=(ae.1 hk).1;obtain⟨ab,spare,h1,h2⟩:=pQ.arr hi;obtain⟨x,hx,rfl⟩:=nD.kids r hr a (ap hk);refine⟨ab,h1,?_,?_⟩
  ·refine hc r hr ab (r.kids.map (Pt · 0)++spare) 131 i _ (by simp[NR.mI,h2]) ?_;rw[n8,ak (by simpa using hi)];simp[hk]
  rw[show(q7 T x.n)=x.nP from EH nD.nd hx];exact hc x hx x.n x.row 141 9 _ (.head _) rfl
theorem EU {mp:Option Nat} {kv:AL} {Hm:SH} (h:y2 mp kv Hm) (hw:∀e∈Hm,w1.heap[e.b]? =some e.k.den):uK w1 mp kv:=by
 cases h with
 |nil=>rfl
 |mk=>exact hw _ (.head _)
theorem WW (T:List NR) (r:NR) (l:UInt8):((r.kids.map fun a=>(a,q7 T a)).find? fun p=>p.2==l).map (·.1)=xd T r l:=by
 rw[List.find?_map,xd,gw];show Option.map id _=_;rw[Option.map_id];rfl
theorem aeU {R:Ending->World->Prop} {w:World} {D:Nat->Prop} {B:LB} {Bd:Nat} {bx path:List UInt8} {st:St} {r:NR} {T:List NR} (hE:RF w D E) (qT:∀e∈mI T,e∈E) (nD:Cl T) (ra:r∈T) (pQ:r.ok Bd) (aeV:Bd<=1000000) (hn:r.n=st.n) (mM:path.length<=1000000) (Qo:r.pre.length<=1000000)
  (q9:nE r st.si<=path.length) (hs:Sub ((18,I (((if r.kd=0 then r.pre.length else 0):Nat):Int))::tP B cb bx st.mT) fr) (he:path.drop (nE r st.si)=[]) (hh:r.nn=true) {h:Nat} (hg:getM r.f r.kv bx=some h)
  (k:∀bc,Sub [(1,S bx),(8,Pt cb 0),(9,Pt B.b9 0),(10,PO (sB r path (nE r st.si) st.mT)),(11,PO (some h))] bc->GC Tryd.prog ⟨51,Tryd.f51,R,w,D⟩ 316 xJ bc (pJ B path {st with si:=nE r st.si} cx)):GC Tryd.prog ⟨51,Tryd.f51,R,w,D⟩ 316 JD fr (pJ B path st cx):=by
 have hr:∀e∈r.mI,e∈E:=fun e he=>qT e (qN ra he)
 have n5:∀(i:Nat) (v:Value),nth r.row i=some v->w.cell? ⟨st.n,i,none⟩=some v:=fun i v hv=>hn▸hE.cell (hr _ (.head _)) hv
 have vN:∀(i:Nat) (v:Value),nth r.mr i=some v->w.cell? ⟨r.m,i,none⟩=some v:=fun i v hv=>hE.cell (hr _ (.tail _ (.head _))) hv
 have hD:¬D st.n:=hn▸hE.D (hr _ (.head _));have uG:¬D r.m:=hE.D (hr _ (.tail _ (.head _)));have z8:st.si+(if r.kd=0 then r.pre.length else 0)=nE r st.si:=by unfold nE;split<;>rfl
 have Aa:∀w1 H,HF w D H w1->uK w1 r.mp r.kv:=fun w1 H hw=>EU pQ.hm fun e he=>hw.old (hE e (hr e (.tail _ (.tail _ (ay _ he))))).1 (hE e (hr e (.tail _ (.tail _ (ay _ he))))).2
 have JF:∀w1 H,HF w D H w1->∀i p,(r.kids.map fun a=>(a,q7 T a))[i]? =some p->∃a,r.ad=some ⟨a,0,none⟩/\w1.cell? ⟨a,i,none⟩=some (Pt p.1 0)/\w1.cell? ⟨p.1,9,none⟩=some (.int .u8 (p.2.toNat:Int)):=fun w1 H hw=>
  Mc (fun x hx b l t off v hm hv=>hw.pT (hE.cell (qT _ (qN hx hm)) hv) (hE.D (qT _ (qN hx hm)))) nD pQ ra
 refine gN hs ?_;refine gz ?_;refine gD ?_;refine gA (gG ag rfl (m5 (.head _)) rfl) ?_;refine gB ?_;refine gA (jV (l':=path.drop (nE r st.si)) aa rfl rfl (by rw[aA];omega) (by rw[bZ,z8])) ?_;refine gO ah rfl rfl rfl (.s (.s (.s (.s (.s .z))))) rfl rfl ?_;refine gC ?_;refine gz ?_;refine gD ?_;refine gA (gG aY rfl (.tail _ (.head _)) rfl) ?_;refine gB ?_;refine gA (iB (r:=((nE r st.si:Nat):Int)) rfl rfl (by rw[<-z8];omega) (by omega) (by omega)) ?_;refine gO bh rfl rfl rfl (.s .z) rfl rfl ?_;refine gC ?_;refine gz ?_;refine gz ?_;refine gD ?_;refine gA (gG ag rfl (m5 (.head _)) rfl) ?_;refine gA (iE rfl rfl) ?_;refine gC ?_;refine gS rfl (fun tN=>?_) (fun tN=>absurd he tN);refine gz ?_;refine gD ?_;refine gA (gG aq rfl (.head _) rfl) ?_;refine gJ rfl ?_;refine gH ED rfl ?_;refine gA (hZ bQ rfl (n5 12 _ rfl) hD) ?_;refine gC ?_;refine gV rfl (fun xe=>?_) (fun xe=>by rw[hh] at xe;cases xe);refine gz ?_;refine gz ?_;refine gD ?_;refine gB ?_;refine gA (jg aK rfl) ?_;refine gC ?_;refine hY (fun bc H'=>Sub [(1,S bx),(8,Pt cb 0),(9,Pt B.b9 0),(10,PO (sB r path (nE r st.si) st.mT)),(11,PO none),(12,Pt B.rA 0),(13,Pt B.ru 0),(14,Pt B.ry 0),(15,Pt B.rz 0),(6,Pt B.b6 0),(16,wi B)] bc/\H'=pJ B path {st with si:=nE r st.si} cx) (fun JG=>?_) ?_
 ·refine gV rfl (fun Ab=>?_) (fun Ab=>?_)
  ·refine gD<|gA (gG aq rfl (.head _) rfl)<|gF<|gC ?_;have hb:sB r path (nE r st.si) st.mT=some st.n:=by rw[sB,if_pos ⟨he,xe,by cases sW:st.mT with|none=>rfl|some _=>rw[sW] at Ab;cases Ab⟩,hn]
   refine JG _ _ ⟨?_,rfl⟩;rw[hb];exact .of rfl
  refine gL ?_;have hb:sB r path (nE r st.si) st.mT=st.mT:=by rw[sB,if_neg (fun h=>by rw[h.2.2] at Ab;cases Ab)]
  refine JG _ _ ⟨?_,rfl⟩;rw[hb];exact .of rfl
 rintro bc H' ⟨mJ,rfl⟩;refine gN mJ ?_;clear mJ;refine gz<|gD ?_;refine gA (gG aq rfl (.head _) rfl)<|gB ?_;refine iw Tryd.call66 rfl rfl (fun w1 fa=>Ji w1 st.n r.m r.f r.mp r.kv bx (fa.pT (n5 0 _ rfl) hD) (fun i hi=>fa.pT (vN i _ (Dp hi)) uG) (fa.pT (vN 11 _ rfl) uG) (Aa w1 _ fa))<|gF ?_;refine gC<|gz ?_;refine gD<|gB ?_;refine gA (iA aJ rfl)<|gC<|gV rfl (fun EV=>?_) (fun EV=>by rw[hg] at EV;cases EV);refine gz<|gD ?_;refine gB<|gF ?_;refine gC<|ir rfl ?_;refine k _ ?_;rw[hg];exact .of rfl
theorem aeW {R:Ending->World->Prop} {w:World} {D:Nat->Prop} {B:LB} {Bd:Nat} {bx path:List UInt8} {st:St} {r:NR} {T:List NR} (hE:RF w D E) (qT:∀e∈mI T,e∈E) (nD:Cl T) (ra:r∈T) (pQ:r.ok Bd) (aeV:Bd<=1000000) (hn:r.n=st.n) (mM:path.length<=1000000) (Qo:r.pre.length<=1000000)
  (q9:nE r st.si<=path.length) (hs:Sub ((18,I (((if r.kd=0 then r.pre.length else 0):Nat):Int))::tP B cb bx st.mT) fr) (he:path.drop (nE r st.si)=[]) (hh:r.nn=false) {h:Nat} (hg:r.nf=some h)
  (k:∀bc,Sub [(1,S bx),(8,Pt cb 0),(9,Pt B.b9 0),(10,PO st.mT),(11,PO (some h))] bc->GC Tryd.prog ⟨51,Tryd.f51,R,w,D⟩ 316 xJ bc (pJ B path {st with si:=nE r st.si} cx)):GC Tryd.prog ⟨51,Tryd.f51,R,w,D⟩ 316 JD fr (pJ B path st cx):=by
 have hr:∀e∈r.mI,e∈E:=fun e he=>qT e (qN ra he)
 have n5:∀(i:Nat) (v:Value),nth r.row i=some v->w.cell? ⟨st.n,i,none⟩=some v:=fun i v hv=>hn▸hE.cell (hr _ (.head _)) hv
 have vN:∀(i:Nat) (v:Value),nth r.mr i=some v->w.cell? ⟨r.m,i,none⟩=some v:=fun i v hv=>hE.cell (hr _ (.tail _ (.head _))) hv
 have hD:¬D st.n:=hn▸hE.D (hr _ (.head _));have uG:¬D r.m:=hE.D (hr _ (.tail _ (.head _)));have z8:st.si+(if r.kd=0 then r.pre.length else 0)=nE r st.si:=by unfold nE;split<;>rfl
 have Aa:∀w1 H,HF w D H w1->uK w1 r.mp r.kv:=fun w1 H hw=>EU pQ.hm fun e he=>hw.old (hE e (hr e (.tail _ (.tail _ (ay _ he))))).1 (hE e (hr e (.tail _ (.tail _ (ay _ he))))).2
 have JF:∀w1 H,HF w D H w1->∀i p,(r.kids.map fun a=>(a,q7 T a))[i]? =some p->∃a,r.ad=some ⟨a,0,none⟩/\w1.cell? ⟨a,i,none⟩=some (Pt p.1 0)/\w1.cell? ⟨p.1,9,none⟩=some (.int .u8 (p.2.toNat:Int)):=fun w1 H hw=>
  Mc (fun x hx b l t off v hm hv=>hw.pT (hE.cell (qT _ (qN hx hm)) hv) (hE.D (qT _ (qN hx hm)))) nD pQ ra
 refine gN hs ?_;refine gz ?_;refine gD ?_;refine gA (gG ag rfl (m5 (.head _)) rfl) ?_;refine gB ?_;refine gA (jV (l':=path.drop (nE r st.si)) aa rfl rfl (by rw[aA];omega) (by rw[bZ,z8])) ?_;refine gO ah rfl rfl rfl (.s (.s (.s (.s (.s .z))))) rfl rfl ?_;refine gC ?_;refine gz ?_;refine gD ?_;refine gA (gG aY rfl (.tail _ (.head _)) rfl) ?_;refine gB ?_;refine gA (iB (r:=((nE r st.si:Nat):Int)) rfl rfl (by rw[<-z8];omega) (by omega) (by omega)) ?_;refine gO bh rfl rfl rfl (.s .z) rfl rfl ?_;refine gC ?_;refine gz ?_;refine gz ?_;refine gD ?_;refine gA (gG ag rfl (m5 (.head _)) rfl) ?_;refine gA (iE rfl rfl) ?_;refine gC ?_;refine gS rfl (fun tN=>?_) (fun tN=>absurd he tN);refine gz ?_;refine gD ?_;refine gA (gG aq rfl (.head _) rfl) ?_;refine gJ rfl ?_;refine gH ED rfl ?_;refine gA (hZ bQ rfl (n5 12 _ rfl) hD) ?_;refine gC ?_;refine gV rfl (fun xe=>by rw[hh] at xe;cases xe) (fun xe=>?_);refine gz ?_;refine gD ?_;refine gA (gG aq rfl (.head _) rfl) ?_;refine gJ rfl ?_;refine gH uW rfl ?_;refine gA (hZ aO rfl (n5 4 _ rfl) hD) ?_;refine gA (iA aJ rfl) ?_;refine gC ?_;refine gV rfl (fun yu=>?_) (fun yu=>by rw[hg] at yu;cases yu);refine gz ?_;refine gD ?_;refine gA (gG aq rfl (.head _) rfl) ?_;refine gJ rfl ?_;refine gH uW rfl ?_;refine gA (hZ aO rfl (n5 4 _ rfl) hD) ?_;refine gF ?_;refine gC ?_;refine ir rfl ?_;refine k _ ?_;rw[hg];exact .of rfl
theorem aeX {R:Ending->World->Prop} {w:World} {D:Nat->Prop} {B:LB} {Bd:Nat} {bx path:List UInt8} {st:St} {r:NR} {T:List NR} (hE:RF w D E) (qT:∀e∈mI T,e∈E) (nD:Cl T) (ra:r∈T) (pQ:r.ok Bd) (hBd:Bd<=1000000) (hn:r.n=st.n) (mM:path.length<=1000000) (Qo:r.pre.length<=1000000)
  (q9:nE r st.si<=path.length) (hs:Sub ((18,I (((if r.kd=0 then r.pre.length else 0):Nat):Int))::tP B cb bx st.mT) fr) (mW:path.drop (nE r st.si)≠[]) {c:Nat} (hc:xd T r ((path.drop (nE r st.si)).headD 0)=some c)
  (k:∀bc,Sub (tP B cb bx st.mT) bc->GC Tryd.prog ⟨51,Tryd.f51,R,w,D⟩ 316 B6 bc (pJ B path {st with n:=c,si:=nE r st.si} cx)):GC Tryd.prog ⟨51,Tryd.f51,R,w,D⟩ 316 JD fr (pJ B path st cx):=by
 have hr:∀e∈r.mI,e∈E:=fun e he=>qT e (qN ra he)
 have n5:∀(i:Nat) (v:Value),nth r.row i=some v->w.cell? ⟨st.n,i,none⟩=some v:=fun i v hv=>hn▸hE.cell (hr _ (.head _)) hv
 have vN:∀(i:Nat) (v:Value),nth r.mr i=some v->w.cell? ⟨r.m,i,none⟩=some v:=fun i v hv=>hE.cell (hr _ (.tail _ (.head _))) hv
 have hD:¬D st.n:=hn▸hE.D (hr _ (.head _));have uG:¬D r.m:=hE.D (hr _ (.tail _ (.head _)));have z8:st.si+(if r.kd=0 then r.pre.length else 0)=nE r st.si:=by unfold nE;split<;>rfl
 have Aa:∀w1 H,HF w D H w1->uK w1 r.mp r.kv:=fun w1 H hw=>EU pQ.hm fun e he=>hw.old (hE e (hr e (.tail _ (.tail _ (ay _ he))))).1 (hE e (hr e (.tail _ (.tail _ (ay _ he))))).2
 have JF:∀w1 H,HF w D H w1->∀i p,(r.kids.map fun a=>(a,q7 T a))[i]? =some p->∃a,r.ad=some ⟨a,0,none⟩/\w1.cell? ⟨a,i,none⟩=some (Pt p.1 0)/\w1.cell? ⟨p.1,9,none⟩=some (.int .u8 (p.2.toNat:Int)):=fun w1 H hw=>
  Mc (fun x hx b l t off v hm hv=>hw.pT (hE.cell (qT _ (qN hx hm)) hv) (hE.D (qT _ (qN hx hm)))) nD pQ ra
 refine gN hs ?_;refine gz ?_;refine gD ?_;refine gA (gG ag rfl (m5 (.head _)) rfl) ?_;refine gB ?_;refine gA (jV (l':=path.drop (nE r st.si)) aa rfl rfl (by rw[aA];omega) (by rw[bZ,z8])) ?_;refine gO ah rfl rfl rfl (.s (.s (.s (.s (.s .z))))) rfl rfl ?_;refine gC ?_;refine gz ?_;refine gD ?_;refine gA (gG aY rfl (.tail _ (.head _)) rfl) ?_;refine gB ?_;refine gA (iB (r:=((nE r st.si:Nat):Int)) rfl rfl (by rw[<-z8];omega) (by omega) (by omega)) ?_;refine gO bh rfl rfl rfl (.s .z) rfl rfl ?_;refine gC ?_;refine gz ?_;refine gz ?_;refine gD ?_;refine gA (gG ag rfl (m5 (.head _)) rfl) ?_;refine gA (iE rfl rfl) ?_;refine gC ?_;refine gS rfl (fun tN=>absurd tN mW) (fun tN=>?_);refine gL ?_;refine gz ?_;refine gz ?_;refine gD ?_;refine gA (gG ag rfl (m5 (.head _)) rfl) ?_;refine gA (jy rfl rfl) ?_;refine gC ?_;refine gV rfl (fun JH=>?_) (fun JH=>absurd mW (by simpa using JH));refine gz ?_;refine iV mixed (by kernel_rfl) ?_;refine gK (gG aq rfl (.head _) rfl) ?_;refine gK (gG ag rfl (m5 (.head _)) rfl) ?_;refine gK (iG (i:=0) (b:=(path.drop (nE r st.si)).headD 0) aa rfl rfl (by cases hq:path.drop (nE r st.si) with|nil=>exact absurd hq mW|cons=>rfl)) ?_;refine j6 (v:=PO (xd T r ((path.drop (nE r st.si)).headD 0))) Tryd.call67 rfl rfl (fun w1 fa=>(Ps w1 st.n ((path.drop (nE r st.si)).headD 0) r.ad r.cp (r.kids.map fun a=>(a,q7 T a)) (by rw[aQ];exact fa.pT (n5 7 _ rfl) hD) (by rw[aQ];have:=pQ.uX;omega) (JF w1 _ fa)).mono fun e w2 h2=>⟨by rw[h2.1,<-WW],h2.2⟩) ?_;refine gK (iT rfl) ?_;refine iH ?_;refine gz ?_;refine gD ?_;refine gB ?_;refine gA (iA aK rfl) ?_;refine gC ?_;refine gV rfl (fun EW=>?_) (fun EW=>by rw[hc] at EW;cases EW);refine gz ?_;refine gD ?_;refine gB ?_;refine gO bm rfl rfl (by cases xd T r ((path.drop (nE r st.si)).headD 0)<;>rfl) .z rfl rfl ?_;refine gC ?_;refine ir rfl ?_;refine jx ?_;refine hO (H':=pJ B path {st with n:=c,si:=nE r st.si} cx) (fun w1 fa=>by rw[hc] at fa;exact fa) (k _ ?_);exact .of rfl
theorem aeZ {R:Ending->World->Prop} {w:World} {D:Nat->Prop} {B:LB} {Bd:Nat} {bx path:List UInt8} {st:St} {r:NR} {T:List NR} (hE:RF w D E) (qT:∀e∈mI T,e∈E) (nD:Cl T) (ra:r∈T) (pQ:r.ok Bd) (hBd:Bd<=1000000) (hn:r.n=st.n) (mM:path.length<=1000000) (Qo:r.pre.length<=1000000)
  (q9:nE r st.si<=path.length) (hs:Sub ((18,I (((if r.kd=0 then r.pre.length else 0):Nat):Int))::tP B cb bx st.mT) fr) (he:path.drop (nE r st.si)=[]->(r.nn=true->getM r.f r.kv bx=none)/\(r.nn=false->r.nf=none)) (hc:path.drop (nE r st.si)≠[]->xd T r ((path.drop (nE r st.si)).headD 0)=none)
  (k:∀bc,Sub (tP B cb bx (sB r path (nE r st.si) st.mT)) bc->GC Tryd.prog ⟨51,Tryd.f51,R,w,D⟩ 316 GW bc (pJ B path {st with si:=nE r st.si} cx)):GC Tryd.prog ⟨51,Tryd.f51,R,w,D⟩ 316 JD fr (pJ B path st cx):=by
 have hr:∀e∈r.mI,e∈E:=fun e he=>qT e (qN ra he)
 have n5:∀(i:Nat) (v:Value),nth r.row i=some v->w.cell? ⟨st.n,i,none⟩=some v:=fun i v hv=>hn▸hE.cell (hr _ (.head _)) hv
 have vN:∀(i:Nat) (v:Value),nth r.mr i=some v->w.cell? ⟨r.m,i,none⟩=some v:=fun i v hv=>hE.cell (hr _ (.tail _ (.head _))) hv
 have hD:¬D st.n:=hn▸hE.D (hr _ (.head _));have uG:¬D r.m:=hE.D (hr _ (.tail _ (.head _)));have z8:st.si+(if r.kd=0 then r.pre.length else 0)=nE r st.si:=by unfold nE;split<;>rfl
 have Aa:∀w1 H,HF w D H w1->uK w1 r.mp r.kv:=fun w1 H hw=>EU pQ.hm fun e he=>hw.old (hE e (hr e (.tail _ (.tail _ (ay _ he))))).1 (hE e (hr e (.tail _ (.tail _ (ay _ he))))).2
 have JF:∀w1 H,HF w D H w1->∀i p,(r.kids.map fun a=>(a,q7 T a))[i]? =some p->∃a,r.ad=some ⟨a,0,none⟩/\w1.cell? ⟨a,i,none⟩=some (Pt p.1 0)/\w1.cell? ⟨p.1,9,none⟩=some (.int .u8 (p.2.toNat:Int)):=fun w1 H hw=>
  Mc (fun x hx b l t off v hm hv=>hw.pT (hE.cell (qT _ (qN hx hm)) hv) (hE.D (qT _ (qN hx hm)))) nD pQ ra
 refine gN hs ?_;refine gz ?_;refine gD ?_;refine gA (gG ag rfl (m5 (.head _)) rfl) ?_;refine gB ?_;refine gA (jV (l':=path.drop (nE r st.si)) aa rfl rfl (by rw[aA];omega) (by rw[bZ,z8])) ?_;refine gO ah rfl rfl rfl (.s (.s (.s (.s (.s .z))))) rfl rfl ?_;refine gC ?_;refine gz ?_;refine gD ?_;refine gA (gG aY rfl (.tail _ (.head _)) rfl) ?_;refine gB ?_;refine gA (iB (r:=((nE r st.si:Nat):Int)) rfl rfl (by rw[<-z8];omega) (by omega) (by omega)) ?_;refine gO bh rfl rfl rfl (.s .z) rfl rfl ?_;refine gC ?_;refine gz ?_;refine gz ?_;refine gD ?_;refine gA (gG ag rfl (m5 (.head _)) rfl) ?_;refine gA (iE rfl rfl) ?_;refine gC ?_;refine hY (fun bc H'=>Sub [(1,S bx),(8,Pt cb 0),(9,Pt B.b9 0),(10,PO (sB r path (nE r st.si) st.mT)),(11,PO none),(12,Pt B.rA 0),(13,Pt B.ru 0),(14,Pt B.ry 0),(15,Pt B.rz 0),(6,Pt B.b6 0),(16,wi B)] bc/\H'=pJ B path {st with si:=nE r st.si} cx) (fun Qp=>?_) ?_
 ·refine gS rfl (fun tN=>?_) (fun tN=>?_)
  ·refine gz ?_;have mL:=he;have he:=tN;refine gD<|gA (gG aq rfl (.head _) rfl)<|gJ rfl<|gH ED rfl<|gA (hZ bQ rfl (n5 12 _ rfl) hD)<|gC<|gV rfl (fun xe=>?_) (fun xe=>?_)
   ·refine gz<|gz<|gD<|gB<|gA (jg aK rfl)<|gC<|hY (fun bc H'=>Sub [(1,S bx),(8,Pt cb 0),(9,Pt B.b9 0),(10,PO (sB r path (nE r st.si) st.mT)),(11,PO none),(12,Pt B.rA 0),(13,Pt B.ru 0),(14,Pt B.ry 0),(15,Pt B.rz 0),(6,Pt B.b6 0),(16,wi B)] bc/\H'=pJ B path {st with si:=nE r st.si} cx) (fun JG=>?_) ?_
    ·refine gV rfl (fun Ab=>?_) (fun Ab=>?_)
     ·refine gD<|gA (gG aq rfl (.head _) rfl)<|gF<|gC ?_;have hb:sB r path (nE r st.si) st.mT=some st.n:=by rw[sB,if_pos ⟨he,xe,by cases sW:st.mT with|none=>rfl|some _=>rw[sW] at Ab;cases Ab⟩,hn]
      refine JG _ _ ⟨?_,rfl⟩;rw[hb];exact .of rfl
     refine gL ?_;have hb:sB r path (nE r st.si) st.mT=st.mT:=by rw[sB,if_neg (fun h=>by rw[h.2.2] at Ab;cases Ab)]
     refine JG _ _ ⟨?_,rfl⟩;rw[hb];exact .of rfl
    rintro bc H' ⟨mJ,rfl⟩;refine gN mJ ?_;clear mJ;refine gz<|gD ?_;refine gA (gG aq rfl (.head _) rfl)<|gB ?_;refine iw Tryd.call66 rfl rfl (fun w1 fa=>Ji w1 st.n r.m r.f r.mp r.kv bx (fa.pT (n5 0 _ rfl) hD) (fun i hi=>fa.pT (vN i _ (Dp hi)) uG) (fa.pT (vN 11 _ rfl) uG) (Aa w1 _ fa))<|gF ?_;refine gC<|gz ?_;refine gD<|gB ?_;refine gA (iA aJ rfl)<|gC<|gV rfl (fun EV=>by rw[(mL tN).1 xe] at EV;cases EV) (fun EV=>?_);exact gL<|Qp _ _ ⟨.of rfl,rfl⟩
   refine gz<|gD<|gA (gG aq rfl (.head _) rfl)<|gJ rfl<|gH uW rfl<|gA (hZ aO rfl (n5 4 _ rfl) hD)<|gA (iA aJ rfl)<|gC<|gV rfl (fun yu=>by rw[(mL tN).2 xe] at yu;cases yu) (fun yu=>?_);refine gL ?_;have hb:sB r path (nE r st.si) st.mT=st.mT:=by rw[sB,if_neg (fun h=>by rw[h.2.1] at xe;cases xe)]
   refine Qp _ _ ⟨?_,rfl⟩;rw[hb];exact .of rfl
  refine gL ?_;have hb:sB r path (nE r st.si) st.mT=st.mT:=by rw[sB,if_neg (fun h=>tN h.1)]
  refine Qp _ _ ⟨?_,rfl⟩;rw[hb];exact .of rfl
 rintro bc H' ⟨mJ,rfl⟩;refine gN mJ ?_;clear mJ;refine gz<|gz<|gD<|gA (gG ag rfl (m5 (.head _)) rfl)<|gA (jy rfl rfl)<|gC<|hY (fun bc H'=>Sub [(1,S bx),(8,Pt cb 0),(9,Pt B.b9 0),(10,PO (sB r path (nE r st.si) st.mT)),(11,PO none),(12,Pt B.rA 0),(13,Pt B.ru 0),(14,Pt B.ry 0),(15,Pt B.rz 0),(6,Pt B.b6 0),(16,wi B)] bc/\H'=pJ B path {st with si:=nE r st.si} cx) (fun WX=>?_) ?_
 ·refine gV rfl (fun JH=>?_) (fun JH=>?_)
  ·refine gz ?_;have mW:path.drop (nE r st.si)≠[]:=by simpa using JH
   refine iV mixed (by kernel_rfl)<|gK (gG aq rfl (.head _) rfl) ?_;refine gK (gG ag rfl (m5 (.head _)) rfl)<|gK (iG (i:=0) (b:=(path.drop (nE r st.si)).headD 0) aa rfl rfl (by cases hq:path.drop (nE r st.si) with|nil=>exact absurd hq mW|cons=>rfl)) ?_;refine j6 (v:=PO (xd T r ((path.drop (nE r st.si)).headD 0))) Tryd.call67 rfl rfl (fun w1 fa=>(Ps w1 st.n ((path.drop (nE r st.si)).headD 0) r.ad r.cp (r.kids.map fun a=>(a,q7 T a)) (by rw[aQ];exact fa.pT (n5 7 _ rfl) hD) (by rw[aQ];have:=pQ.uX;omega) (JF w1 _ fa)).mono fun e w2 h2=>⟨by rw[h2.1,<-WW],h2.2⟩)<|gK (iT rfl) ?_;refine iH<|gz ?_;refine gD<|gB ?_;refine gA (iA aK rfl)<|gC<|gV rfl (fun EW=>by rw[hc mW] at EW;cases EW) (fun EW=>?_);exact gL<|WX _ _ ⟨.of rfl,rfl⟩
  exact gL<|WX _ _ ⟨.of rfl,rfl⟩
 rintro bc H' ⟨mJ,rfl⟩;refine gN mJ ?_;clear mJ;exact gz<|j1<|k _ (.of rfl)
theorem GX (s:List UInt8):qm s<=s.length:=by
 unfold qm;have:=congrArg List.length (List.takeWhile_append_dropWhile (p:=fun c=>c !=47) (l:=s));rw[ax] at this;omega
theorem ae0 (s:List UInt8) (i:Nat) (h:i<s.length):qm (s.drop i)=if s.getD i 0=47 then 0 else qm (s.drop (i+1))+1:=by
 rw[bl h];have e:s.getD i 0=s[i]:=by simp[List.getD,ao h]
 rw[e];unfold qm;by_cases ot:s[i]=47
 ·rw[if_pos ot,eK,if_neg (by simp[ot])];rfl
 rw[if_neg ot,eK,if_pos (by simpa using ot)];rfl
theorem Md (mH:List (List UInt8)) (i:Nat) (s:List UInt8):rC (mH.map S) (0+i*1) (S s)=(mH.set i s).map S:=by rw[Kx,aH,aT,gr]
theorem Me {mH:List (List UInt8)} {i:Nat} (h:i<mH.length):(nth (mH.map S) (0+i*1)).isSome =true:=by
 rw[n8,aH,aT,aD,ao h];rfl
theorem ae1 {R:Ending->World->Prop} {w:World} {D:Nat->Prop} {B:LB} {bx path:List UInt8} {st:St} {r:NR} {T:List NR} (hE:RF w D E) (qT:∀e∈mI T,e∈E) (ra:r∈T) (hn:r.n=st.n) (mM:path.length<=1000000)
  (q9:st.si<=path.length) (B5:st.pi<=1000000) (DA:st.mH.length=B.z) (hs:Sub (tP B cb bx st.mT) fr) {c:NR} (hp:r.mV=some c.n) (hc:c∈T) (mW:path.drop st.si≠[]) (hv:st.pi<st.mH.length)
  (k:∀bc,Sub (tP B cb bx st.mT) bc->GC Tryd.prog ⟨51,Tryd.f51,R,w,D⟩ 316 B6 bc (pJ B path {st with n:=c.n,si:=st.si+(if c.leaf then(path.drop st.si).length else qm (path.drop st.si)),pi:=st.pi+1,mH:=st.mH.set st.pi ((path.drop st.si).take (if c.leaf then(path.drop st.si).length else qm (path.drop st.si)))} cx)):GC Tryd.prog ⟨51,Tryd.f51,R,w,D⟩ 316 GW fr (pJ B path st cx):=by
 have hr:∀e∈r.mI,e∈E:=fun e he=>qT e (qN ra he)
 have n5:∀(i:Nat) (v:Value),nth r.row i=some v->w.cell? ⟨st.n,i,none⟩=some v:=fun i v hv=>hn▸hE.cell (hr _ (.head _)) hv
 have hD:¬D st.n:=hn▸hE.D (hr _ (.head _));refine gN hs ?_;have tn:∀e∈c.mI,e∈E:=fun e he=>qT e (qN hc he)
 have xf:∀(i:Nat) (v:Value),nth c.row i=some v->w.cell? ⟨c.n,i,none⟩=some v:=fun i v hv=>hE.cell (tn _ (.head _)) hv
 have xg:¬D c.n:=hE.D (tn _ (.head _));have hul:=GX (path.drop st.si);have nn:(path.drop st.si).length =path.length-st.si:=aA;refine gz<|gz<|gD<|gA (gG aq rfl (.head _) rfl)<|gJ rfl<|gH zU rfl<|gA (hZ (v:=Pt c.n 0) aq rfl (by rw[n5 2 _ rfl,hp];rfl) hD)<|gF<|gC<|gz<|gD<|gA (gG ag rfl (m5 (.head _)) rfl)<|gA (jy rfl rfl)<|gB<|gZ 136 rfl (fun JI=>?_) (fun JI=>?_)
 ·refine gU<|gI (iA (p:=some c.n) aK rfl)<|iZ (v:=.bool true) (iL rfl rfl) rfl<|gC<|ji rfl<|gz<|gD<|gB<|gO bm rfl rfl rfl .z rfl rfl<|gC<|gz<|gD<|gF<|gC<|gz<|gD<|gA (gG ag rfl (m5 (.head _)) rfl)<|gA (ig aa rfl)<|gF<|gC<|gz<|gz<|gD<|gA (gG aq rfl (.head _) rfl)<|gJ rfl<|gH zV rfl<|gA (hZ bQ rfl (xf 11 _ rfl) xg)<|gC<|hY (fun bc H'=>Sub [(1,S bx),(8,Pt cb 0),(9,Pt B.b9 0),(10,PO st.mT),(11,PO none),(12,Pt B.rA 0),(13,Pt B.ru 0),(14,Pt B.ry 0),(15,Pt B.rz 0),(6,Pt B.b6 0),(16,wi B),(26,I (((if c.leaf then(path.drop st.si).length else qm (path.drop st.si)):Nat):Int))] bc/\H'=pJ B path {st with n:=c.n} cx) (fun Qq=>?_) ?_
  ·refine gV rfl (fun Mf=>?_) (fun Mf=>?_)
   ·refine gD<|gB<|gF<|gC<|Qq _ _ ⟨?_,rfl⟩;rw[if_pos Mf];exact .of rfl
   refine gW ?_
   refine iC (fun N bc H'=>∃i,i+N=(path.drop st.si).length /\i+qm ((path.drop st.si).drop i)=qm (path.drop st.si)/\Sub [(1,S bx),(8,Pt cb 0),(9,Pt B.b9 0),(10,PO st.mT),(11,PO none),(12,Pt B.rA 0),(13,Pt B.ru 0),(14,Pt B.ry 0),(15,Pt B.rz 0),(6,Pt B.b6 0),(16,wi B),(27,I ((path.drop st.si).length :Nat)),(26,I ((i:Nat):Int))] bc/\H'=pJ B path {st with n:=c.n} cx) (path.drop st.si).length
    ⟨0,by omega,by simp,.of rfl,rfl⟩ ?_
   rintro N2 bc H' ⟨i,hi,hl,mJ,rfl⟩ qz;refine gN mJ ?_;clear mJ;refine gz<|gz<|gD<|gB<|gB<|gA (ik rfl rfl)<|gB<|gZ 151 rfl (fun Qr=>?_) (fun Qr=>?_)
   ·have mS:=of_decide_eq_true Qr;have mO:=ae0 (path.drop st.si) i (by omega);refine gI (gG (v:=S (path.drop st.si)) ag rfl (m5 (.head _)) rfl)<|gU<|gI (iG (i:=i) (b:=(path.drop st.si).getD i 0) aa rfl rfl (getD_some (by omega)))<|gI (iF rfl rfl)<|gT<|gC<|gV rfl (fun Mg=>?_) (fun Mg=>?_)
    ·refine gL ?_;refine gz ?_;refine gW ?_;refine gL ?_;refine il ?_;refine gD ?_;refine gB ?_;refine gA (iB rfl rfl rfl (by omega) (by omega)) ?_;refine gF ?_;refine gC ?_;have e:¬(path.drop st.si).getD i 0=47:=fun e=>by rw[e] at Mg;simp at Mg
     rw[if_neg e] at mO;exact qz (N2-1) _ _ (by omega) ⟨i+1,by omega,by omega,.of rfl,rfl⟩
    refine ir rfl ?_
    have e:(path.drop st.si).getD i 0=47:=by
     have h0:(((path.drop st.si).getD i 0).toNat :Int)=47:=by simpa using Mg
     exact bU.1 (show((path.drop st.si).getD i 0).toNat =47 by omega)
    rw[if_pos e] at mO;refine Qq _ _ ⟨?_,rfl⟩;rw[if_neg (by rw[Mf];exact Bool.false_ne_true),show qm (path.drop st.si)=i by omega];exact .of rfl
   refine gE ?_;refine gE ?_;refine gE ?_;refine gE ?_;refine hG ?_;refine gC ?_;refine iJ rfl ?_;refine ir rfl ?_;have Bi:=of_decide_eq_false Qr
   have mO:qm ((path.drop st.si).drop i)=0:=by
    have h1:=GX ((path.drop st.si).drop i);have e1:((path.drop st.si).drop i).length =(path.drop st.si).length -i:=aA;omega
   refine Qq _ _ ⟨?_,rfl⟩;rw[if_neg (by rw[Mf];exact Bool.false_ne_true),show qm (path.drop st.si)=i by omega];exact .of rfl
  rintro bc H' ⟨mJ,rfl⟩;refine gN mJ ?_;clear mJ;have oO:(if c.leaf then(path.drop st.si).length else qm (path.drop st.si))<=(path.drop st.si).length :=by split<;>omega
  refine gz<|js 6 mixed (by kernel_rfl) rfl rfl ?_;refine gR (gG bF rfl (m3 (.head _)) rfl)<|gR (gG aY rfl (m2 (.head _)) rfl) ?_;refine gR (gG ag rfl (m5 (.head _)) rfl)<|gR (gM rfl) ?_;refine gR (jm aa rfl rfl oO)<|gR (ij (i:=st.pi) aE ah rfl rfl (by omega)) ?_;refine jt<|gO ah rfl rfl rfl (.s (.s (.s (.s (.s (.s .z)))))) (Me hv) rfl ?_;refine gC<|gz ?_;refine gD<|gA (gG (v:=I ((st.pi:Nat):Int)) aY rfl (m2 (.head _)) rfl) ?_;refine gA (iB (r:=((st.pi+1:Nat):Int)) rfl rfl (by omega) (by omega) (by omega))<|gO bh rfl rfl rfl (.s (.s .z)) rfl rfl ?_;refine gC<|gz ?_;refine gD<|gA (gG ag rfl (m5 (.head _)) rfl) ?_;refine gB<|gA (jV (l':=path.drop (st.si+(if c.leaf then(path.drop st.si).length else qm (path.drop st.si)))) aa rfl rfl oO (by rw[bZ])) ?_;refine gO ah rfl rfl rfl (.s (.s (.s (.s (.s .z))))) rfl rfl<|gC ?_;refine gz<|gD ?_;refine gA (gG (v:=I ((st.si:Nat):Int)) aY rfl (.tail _ (.head _)) rfl)<|gB ?_;refine gA (iB (r:=((st.si+(if c.leaf then(path.drop st.si).length else qm (path.drop st.si)):Nat):Int)) rfl rfl (by omega) (by omega) (by omega))<|gO bh rfl rfl rfl (.s .z) rfl rfl ?_;refine gC<|ir rfl ?_;refine jx<|hO (H':=pJ B path {st with n:=c.n,si:=st.si+(if c.leaf then(path.drop st.si).length else qm (path.drop st.si)),pi:=st.pi+1,mH:=st.mH.set st.pi ((path.drop st.si).take (if c.leaf then(path.drop st.si).length else qm (path.drop st.si)))} cx) (fun w1 fa=>?_) (k _ (.of rfl));unfold pJ LB.mI;rw[<-Md];exact fa
 exact absurd JI (by simpa using mW)
theorem ae3 {R:Ending->World->Prop} {w:World} {D:Nat->Prop} {B:LB} {bx path:List UInt8} {st:St} {r:NR} {T:List NR} (hE:RF w D E) (qT:∀e∈mI T,e∈E) (ra:r∈T) (hn:r.n=st.n) (su:path.length<=1000000)
  (aeS:st.si<=path.length) (Qm:st.pi<=1000000) (ae4:st.mH.length=B.z) (hs:Sub (tP B cb bx st.mT) fr) (hp:r.mV=none\/path.drop st.si=[])
  (k:∀bc,Sub (tP B cb bx st.mT) bc->GC Tryd.prog ⟨51,Tryd.f51,R,w,D⟩ 316 DB bc (pJ B path st cx)):GC Tryd.prog ⟨51,Tryd.f51,R,w,D⟩ 316 GW fr (pJ B path st cx):=by
 have hr:∀e∈r.mI,e∈E:=fun e he=>qT e (qN ra he)
 have n5:∀(i:Nat) (v:Value),nth r.row i=some v->w.cell? ⟨st.n,i,none⟩=some v:=fun i v hv=>hn▸hE.cell (hr _ (.head _)) hv
 have hD:¬D st.n:=hn▸hE.D (hr _ (.head _));refine gN hs<|gz<|gz<|gD<|gA (gG aq rfl (.head _) rfl)<|gJ rfl<|gH zU rfl<|gA (hZ aq rfl (n5 2 _ rfl) hD)<|gF<|gC<|gz<|gD<|gA (gG ag rfl (m5 (.head _)) rfl)<|gA (jy rfl rfl)<|gB<|gZ 136 rfl (fun JI=>?_) (fun JI=>?_)
 ·refine gU<|gI (iA aK rfl)<|gT<|gC<|gV rfl (fun wT=>?_) (fun wT=>?_)
  ·refine gz ?_;have h0:r.mV=none:=hp.resolve_right (by simpa using JI);rw[h0] at wT;cases wT
  exact gL<|gz<|j1<|k _ (.of rfl)
 refine gE ?_;refine gE ?_;refine hG ?_;refine gC ?_;refine iJ rfl ?_;refine gL ?_;refine gz ?_;refine j1 ?_;exact k _ (.of rfl)
theorem ae5 {R:Ending->World->Prop} {w:World} {D:Nat->Prop} {B:LB} {bx path:List UInt8} {st:St} {r:NR} {T:List NR} (hE:RF w D E) (qT:∀e∈mI T,e∈E) (ra:r∈T) (hn:r.n=st.n) (mM:path.length<=1000000)
  (q9:st.si<=path.length) (B5:st.pi<=999999) (DA:st.mH.length=B.z) (hs:Sub (tP B cb bx st.mT) fr) {c:NR} {Bd:Nat} (ha:r.mP=some c.n) (hc:c∈T) (JJ:c.ok Bd) (oH:c.pc=st.pi+1) (hv:st.pi<st.mH.length) {h:Nat} (hg:getM c.f c.kv bx=some h)
  (k:∀bc,Sub [(1,S bx),(8,Pt cb 0),(9,Pt B.b9 0),(10,PO st.mT),(11,PO (some h))] bc->GC Tryd.prog ⟨51,Tryd.f51,R,w,D⟩ 316 xJ bc (B.mI path (some c.n) (st.si+(path.drop st.si).length) (st.pi+1) [] (st.mH.set st.pi (path.drop st.si))++[cx])):GC Tryd.prog ⟨51,Tryd.f51,R,w,D⟩ 316 DB fr (pJ B path st cx):=by
 have hr:∀e∈r.mI,e∈E:=fun e he=>qT e (qN ra he)
 have n5:∀(i:Nat) (v:Value),nth r.row i=some v->w.cell? ⟨st.n,i,none⟩=some v:=fun i v hv=>hn▸hE.cell (hr _ (.head _)) hv
 have hD:¬D st.n:=hn▸hE.D (hr _ (.head _));have nn:(path.drop st.si).length =path.length-st.si:=aA;refine gN hs ?_;have tn:∀e∈c.mI,e∈E:=fun e he=>qT e (qN hc he)
 have xf:∀(i:Nat) (v:Value),nth c.row i=some v->w.cell? ⟨c.n,i,none⟩=some v:=fun i v hv=>hE.cell (tn _ (.head _)) hv
 have Ac:∀(i:Nat) (v:Value),nth c.mr i=some v->w.cell? ⟨c.m,i,none⟩=some v:=fun i v hv=>hE.cell (tn _ (.tail _ (.head _))) hv
 have xg:¬D c.n:=hE.D (tn _ (.head _));have uG:¬D c.m:=hE.D (tn _ (.tail _ (.head _)));have Aa:∀w1 H,HF w D H w1->uK w1 c.mp c.kv:=fun w1 H hw=>EU JJ.hm fun e he=>hw.old (hE e (tn e (.tail _ (.tail _ (ay _ he))))).1 (hE e (tn e (.tail _ (.tail _ (ay _ he))))).2
 refine gz<|gz<|gD<|gA (gG aq rfl (.head _) rfl)<|gJ rfl<|gH xF rfl<|gA (hZ (v:=Pt c.n 0) aq rfl (by rw[n5 3 _ rfl,ha];rfl) hD)<|gF<|gC<|gz<|gD<|gB<|gA (iA (p:=some c.n) aK rfl)<|gC<|gV rfl (fun wM=>?_) (fun wM=>by cases wM);refine gz<|gD<|gB<|gO bm rfl rfl rfl .z rfl rfl<|gC<|gz<|js 8 mixed (by kernel_rfl) rfl rfl<|gR (gG bF rfl (m3 (.head _)) rfl)<|gR (gG aq rfl (.head _) rfl)<|gR (gX rfl)<|gR (gQ AS rfl)<|gR (hZ aY rfl (xf 8 _ rfl) xg)<|gR (iM (r:=((st.pi:Nat):Int)) rfl rfl (by omega) (by omega) (by omega))<|gR (gG ag rfl (m5 (.head _)) rfl)<|gR (ij (i:=st.pi) aE ah rfl rfl (by omega))<|jt<|gO ah rfl rfl rfl (.s (.s (.s (.s (.s (.s .z)))))) (Me hv) rfl<|gC<|gz<|gD<|gA (gG aY rfl (m2 (.head _)) rfl)<|gA (iB (r:=((st.pi+1:Nat):Int)) rfl rfl (by omega) (by omega) (by omega))<|gO bh rfl rfl rfl (.s (.s .z)) rfl rfl<|gC<|gz<|gD<|gA (gG aY rfl (.tail _ (.head _)) rfl)<|gA (gG ag rfl (m5 (.head _)) rfl)<|gA (ig aa rfl)<|gA (iB (r:=((st.si+(path.drop st.si).length :Nat):Int)) rfl rfl (by omega) (by omega) (by omega))<|gO bh rfl rfl rfl (.s .z) rfl rfl<|gC<|gz<|gD<|gO ah rfl rfl rfl (.s (.s (.s (.s (.s .z))))) rfl rfl<|gC<|gz<|gz<|hO (H':=B.mI path (some c.n) (st.si+(path.drop st.si).length) (st.pi+1) [] (st.mH.set st.pi (path.drop st.si))++[cx]) (fun w1 fa=>?_) ?_
 ·unfold LB.mI;rw[<-Md];exact fa
 refine gD<|gA (gG aq rfl (.head _) rfl) ?_;refine gB<|iw Tryd.call66 rfl rfl (fun w1 fa=>Ji w1 c.n c.m c.f c.mp c.kv bx (fa.pT (xf 0 _ rfl) xg) (fun i hi=>fa.pT (Ac i _ (Dp hi)) uG) (fa.pT (Ac 11 _ rfl) uG) (Aa w1 _ fa)) ?_;refine gF<|gC ?_;refine gz<|gD ?_;refine gB<|gA (iA aJ rfl) ?_;refine gC<|gV rfl (fun Ad=>?_) (fun Ad=>by rw[hg] at Ad;cases Ad);refine gz<|gD ?_;refine gB<|gF ?_;refine gC<|ir rfl ?_;refine k _ ?_;rw[hg];exact .of rfl
theorem ae6 {R:Ending->World->Prop} {w:World} {D:Nat->Prop} {B:LB} {bx path:List UInt8} {st:St} {r:NR} {T:List NR} (hE:RF w D E) (qT:∀e∈mI T,e∈E) (ra:r∈T) (hn:r.n=st.n) (mM:path.length<=1000000)
  (q9:st.si<=path.length) (B5:st.pi<=999999) (DA:st.mH.length=B.z) (hs:Sub (tP B cb bx st.mT) fr) {c:NR} {Bd:Nat} (ha:r.mP=some c.n) (hc:c∈T) (JJ:c.ok Bd) (oH:c.pc=st.pi+1) (hv:st.pi<st.mH.length) {h:Nat} (hg:getM c.f c.kv bx=none) (hf:c.nf=some h)
  (k:∀bc,Sub [(1,S bx),(8,Pt cb 0),(9,Pt B.b9 0),(10,PO (some (st.mT.getD c.n))),(11,PO (some h))] bc->GC Tryd.prog ⟨51,Tryd.f51,R,w,D⟩ 316 xJ bc (B.mI path (some c.n) (st.si+(path.drop st.si).length) (st.pi+1) [] (st.mH.set st.pi (path.drop st.si))++[cx])):GC Tryd.prog ⟨51,Tryd.f51,R,w,D⟩ 316 DB fr (pJ B path st cx):=by
 have hr:∀e∈r.mI,e∈E:=fun e he=>qT e (qN ra he)
 have n5:∀(i:Nat) (v:Value),nth r.row i=some v->w.cell? ⟨st.n,i,none⟩=some v:=fun i v hv=>hn▸hE.cell (hr _ (.head _)) hv
 have hD:¬D st.n:=hn▸hE.D (hr _ (.head _));have nn:(path.drop st.si).length =path.length-st.si:=aA;refine gN hs ?_;have tn:∀e∈c.mI,e∈E:=fun e he=>qT e (qN hc he)
 have xf:∀(i:Nat) (v:Value),nth c.row i=some v->w.cell? ⟨c.n,i,none⟩=some v:=fun i v hv=>hE.cell (tn _ (.head _)) hv
 have Ac:∀(i:Nat) (v:Value),nth c.mr i=some v->w.cell? ⟨c.m,i,none⟩=some v:=fun i v hv=>hE.cell (tn _ (.tail _ (.head _))) hv
 have xg:¬D c.n:=hE.D (tn _ (.head _));have uG:¬D c.m:=hE.D (tn _ (.tail _ (.head _)));have Aa:∀w1 H,HF w D H w1->uK w1 c.mp c.kv:=fun w1 H hw=>EU JJ.hm fun e he=>hw.old (hE e (tn e (.tail _ (.tail _ (ay _ he))))).1 (hE e (tn e (.tail _ (.tail _ (ay _ he))))).2
 refine gz<|gz<|gD<|gA (gG aq rfl (.head _) rfl)<|gJ rfl<|gH xF rfl<|gA (hZ (v:=Pt c.n 0) aq rfl (by rw[n5 3 _ rfl,ha];rfl) hD)<|gF<|gC<|gz<|gD<|gB<|gA (iA (p:=some c.n) aK rfl)<|gC<|gV rfl (fun wM=>?_) (fun wM=>by cases wM);refine gz<|gD<|gB<|gO bm rfl rfl rfl .z rfl rfl<|gC<|gz<|js 8 mixed (by kernel_rfl) rfl rfl<|gR (gG bF rfl (m3 (.head _)) rfl)<|gR (gG aq rfl (.head _) rfl)<|gR (gX rfl)<|gR (gQ AS rfl)<|gR (hZ aY rfl (xf 8 _ rfl) xg)<|gR (iM (r:=((st.pi:Nat):Int)) rfl rfl (by omega) (by omega) (by omega))<|gR (gG ag rfl (m5 (.head _)) rfl)<|gR (ij (i:=st.pi) aE ah rfl rfl (by omega))<|jt<|gO ah rfl rfl rfl (.s (.s (.s (.s (.s (.s .z)))))) (Me hv) rfl<|gC<|gz<|gD<|gA (gG aY rfl (m2 (.head _)) rfl)<|gA (iB (r:=((st.pi+1:Nat):Int)) rfl rfl (by omega) (by omega) (by omega))<|gO bh rfl rfl rfl (.s (.s .z)) rfl rfl<|gC<|gz<|gD<|gA (gG aY rfl (.tail _ (.head _)) rfl)<|gA (gG ag rfl (m5 (.head _)) rfl)<|gA (ig aa rfl)<|gA (iB (r:=((st.si+(path.drop st.si).length :Nat):Int)) rfl rfl (by omega) (by omega) (by omega))<|gO bh rfl rfl rfl (.s .z) rfl rfl<|gC<|gz<|gD<|gO ah rfl rfl rfl (.s (.s (.s (.s (.s .z))))) rfl rfl<|gC<|gz<|gz<|hO (H':=B.mI path (some c.n) (st.si+(path.drop st.si).length) (st.pi+1) [] (st.mH.set st.pi (path.drop st.si))++[cx]) (fun w1 fa=>?_) ?_
 ·unfold LB.mI;rw[<-Md];exact fa
 refine gD<|gA (gG aq rfl (.head _) rfl) ?_;refine gB<|iw Tryd.call66 rfl rfl (fun w1 fa=>Ji w1 c.n c.m c.f c.mp c.kv bx (fa.pT (xf 0 _ rfl) xg) (fun i hi=>fa.pT (Ac i _ (Dp hi)) uG) (fa.pT (Ac 11 _ rfl) uG) (Aa w1 _ fa)) ?_;refine gF<|gC ?_;refine gz<|gD ?_;refine gB<|gA (iA aJ rfl) ?_;refine gC<|gV rfl (fun Ad=>by rw[hg] at Ad;cases Ad) (fun Ad=>?_);refine gL<|gz ?_;refine gz<|gD ?_;refine gB<|gA (jg aK rfl) ?_;refine gC<|hY (fun bc H'=>Sub [(1,S bx),(8,Pt cb 0),(9,Pt B.b9 0),(10,PO (some (st.mT.getD c.n))),(11,PO none),(12,Pt B.rA 0),(13,Pt B.ru 0),(14,Pt B.ry 0),(15,Pt B.rz 0),(6,Pt B.b6 0),(16,wi B)] bc/\H'=B.mI path (some c.n) (st.si+(path.drop st.si).length) (st.pi+1) [] (st.mH.set st.pi (path.drop st.si))++[cx]) (fun JK=>?_) ?_
 ·refine gV rfl (fun Ae=>?_) (fun Ae=>?_)
  ·refine gD<|gA (gG aq rfl (.head _) rfl)<|gF<|gC ?_;have hb:some (st.mT.getD c.n)=some c.n:=by cases sW:st.mT with|none=>rfl|some _=>rw[sW] at Ae;cases Ae
   refine JK _ _ ⟨?_,rfl⟩;rw[hb];exact .of rfl
  refine gL ?_;have hb:some (st.mT.getD c.n)=st.mT:=by cases sW:st.mT with|none=>rw[sW] at Ae;cases Ae|some _=>rfl
  refine JK _ _ ⟨?_,rfl⟩;rw[hb];exact .of rfl
 rintro bc H' ⟨mJ,rfl⟩;refine gN mJ ?_;clear mJ;refine gz<|gD<|gA (gG aq rfl (.head _) rfl)<|gJ rfl<|gH uW rfl<|gA (hZ aO rfl (xf 4 _ rfl) xg)<|gA (iA aJ rfl)<|gC<|gV rfl (fun EX=>?_) (fun EX=>by rw[hf] at EX;cases EX);refine gz<|gD<|gA (gG aq rfl (.head _) rfl)<|gJ rfl<|gH uW rfl<|gA (hZ aO rfl (xf 4 _ rfl) xg)<|gF<|gC<|ir rfl<|k _ ?_;rw[hf];exact .of rfl
theorem ae7 {R:Ending->World->Prop} {w:World} {D:Nat->Prop} {B:LB} {bx path:List UInt8} {st:St} {r:NR} {T:List NR} (hE:RF w D E) (qT:∀e∈mI T,e∈E) (ra:r∈T) (hn:r.n=st.n) (mM:path.length<=1000000)
  (q9:st.si<=path.length) (B5:st.pi<=999999) (DA:st.mH.length=B.z) (hs:Sub (tP B cb bx st.mT) fr) {c:NR} {Bd:Nat} (ha:r.mP=some c.n) (hc:c∈T) (JJ:c.ok Bd) (oH:c.pc=st.pi+1) (hv:st.pi<st.mH.length) (hk:c.kd=2) (hg:getM c.f c.kv bx=none) (hf:c.nf=none)
  (k:∀bc,Sub [(1,S bx),(8,Pt cb 0),(9,Pt B.b9 0),(10,PO (some (st.mT.getD c.n))),(11,PO none)] bc->GC Tryd.prog ⟨51,Tryd.f51,R,w,D⟩ 316 xJ bc (B.mI path c.ng st.si st.pi (path.drop st.si) (st.mH.set st.pi [])++[cx])):GC Tryd.prog ⟨51,Tryd.f51,R,w,D⟩ 316 DB fr (pJ B path st cx):=by
 have hr:∀e∈r.mI,e∈E:=fun e he=>qT e (qN ra he)
 have n5:∀(i:Nat) (v:Value),nth r.row i=some v->w.cell? ⟨st.n,i,none⟩=some v:=fun i v hv=>hn▸hE.cell (hr _ (.head _)) hv
 have hD:¬D st.n:=hn▸hE.D (hr _ (.head _));have nn:(path.drop st.si).length =path.length-st.si:=aA;refine gN hs ?_;have tn:∀e∈c.mI,e∈E:=fun e he=>qT e (qN hc he)
 have xf:∀(i:Nat) (v:Value),nth c.row i=some v->w.cell? ⟨c.n,i,none⟩=some v:=fun i v hv=>hE.cell (tn _ (.head _)) hv
 have Ac:∀(i:Nat) (v:Value),nth c.mr i=some v->w.cell? ⟨c.m,i,none⟩=some v:=fun i v hv=>hE.cell (tn _ (.tail _ (.head _))) hv
 have xg:¬D c.n:=hE.D (tn _ (.head _));have uG:¬D c.m:=hE.D (tn _ (.tail _ (.head _)));have Aa:∀w1 H,HF w D H w1->uK w1 c.mp c.kv:=fun w1 H hw=>EU JJ.hm fun e he=>hw.old (hE e (tn e (.tail _ (.tail _ (ay _ he))))).1 (hE e (tn e (.tail _ (.tail _ (ay _ he))))).2
 have ae8:B.mI path c.ng (st.si+(path.drop st.si).length -(path.drop st.si).length) (st.pi+1-1) (path.drop (st.si+(path.drop st.si).length -(path.drop st.si).length)) ((st.mH.set st.pi (path.drop st.si)).set (st.pi+1-1) [])=B.mI path c.ng st.si st.pi (path.drop st.si) (st.mH.set st.pi []):=by
  rw[dh,dh,List.set_set]
 refine gz<|gz<|gD<|gA (gG aq rfl (.head _) rfl)<|gJ rfl<|gH xF rfl<|gA (hZ (v:=Pt c.n 0) aq rfl (by rw[n5 3 _ rfl,ha];rfl) hD)<|gF<|gC<|gz<|gD<|gB<|gA (iA (p:=some c.n) aK rfl)<|gC<|gV rfl (fun wM=>?_) (fun wM=>by cases wM);refine gz<|gD<|gB<|gO bm rfl rfl rfl .z rfl rfl<|gC<|gz<|js 8 mixed (by kernel_rfl) rfl rfl<|gR (gG bF rfl (m3 (.head _)) rfl)<|gR (gG aq rfl (.head _) rfl)<|gR (gX rfl)<|gR (gQ AS rfl)<|gR (hZ aY rfl (xf 8 _ rfl) xg)<|gR (iM (r:=((st.pi:Nat):Int)) rfl rfl (by omega) (by omega) (by omega))<|gR (gG ag rfl (m5 (.head _)) rfl)<|gR (ij (i:=st.pi) aE ah rfl rfl (by omega))<|jt<|gO ah rfl rfl rfl (.s (.s (.s (.s (.s (.s .z)))))) (Me hv) rfl<|gC<|gz<|gD<|gA (gG aY rfl (m2 (.head _)) rfl)<|gA (iB (r:=((st.pi+1:Nat):Int)) rfl rfl (by omega) (by omega) (by omega))<|gO bh rfl rfl rfl (.s (.s .z)) rfl rfl<|gC<|gz<|gD<|gA (gG aY rfl (.tail _ (.head _)) rfl)<|gA (gG ag rfl (m5 (.head _)) rfl)<|gA (ig aa rfl)<|gA (iB (r:=((st.si+(path.drop st.si).length :Nat):Int)) rfl rfl (by omega) (by omega) (by omega))<|gO bh rfl rfl rfl (.s .z) rfl rfl<|gC<|gz<|gD<|gO ah rfl rfl rfl (.s (.s (.s (.s (.s .z))))) rfl rfl<|gC<|gz<|gz<|hO (H':=B.mI path (some c.n) (st.si+(path.drop st.si).length) (st.pi+1) [] (st.mH.set st.pi (path.drop st.si))++[cx]) (fun w1 fa=>?_) ?_
 ·unfold LB.mI;rw[<-Md];exact fa
 refine gD<|gA (gG aq rfl (.head _) rfl) ?_;refine gB<|iw Tryd.call66 rfl rfl (fun w1 fa=>Ji w1 c.n c.m c.f c.mp c.kv bx (fa.pT (xf 0 _ rfl) xg) (fun i hi=>fa.pT (Ac i _ (Dp hi)) uG) (fa.pT (Ac 11 _ rfl) uG) (Aa w1 _ fa)) ?_;refine gF<|gC ?_;refine gz<|gD ?_;refine gB<|gA (iA aJ rfl) ?_;refine gC<|gV rfl (fun Ad=>by rw[hg] at Ad;cases Ad) (fun Ad=>?_);refine gL<|gz ?_;refine gz<|gD ?_;refine gB<|gA (jg aK rfl) ?_;refine gC<|hY (fun bc H'=>Sub [(1,S bx),(8,Pt cb 0),(9,Pt B.b9 0),(10,PO (some (st.mT.getD c.n))),(11,PO none),(12,Pt B.rA 0),(13,Pt B.ru 0),(14,Pt B.ry 0),(15,Pt B.rz 0),(6,Pt B.b6 0),(16,wi B)] bc/\H'=B.mI path (some c.n) (st.si+(path.drop st.si).length) (st.pi+1) [] (st.mH.set st.pi (path.drop st.si))++[cx]) (fun JK=>?_) ?_
 ·refine gV rfl (fun Ae=>?_) (fun Ae=>?_)
  ·refine gD<|gA (gG aq rfl (.head _) rfl)<|gF<|gC ?_;have hb:some (st.mT.getD c.n)=some c.n:=by cases sW:st.mT with|none=>rfl|some _=>rw[sW] at Ae;cases Ae
   refine JK _ _ ⟨?_,rfl⟩;rw[hb];exact .of rfl
  refine gL ?_;have hb:some (st.mT.getD c.n)=st.mT:=by cases sW:st.mT with|none=>rw[sW] at Ae;cases Ae|some _=>rfl
  refine JK _ _ ⟨?_,rfl⟩;rw[hb];exact .of rfl
 rintro bc H' ⟨mJ,rfl⟩;refine gN mJ ?_;clear mJ;refine gz<|gD<|gA (gG aq rfl (.head _) rfl)<|gJ rfl<|gH uW rfl<|gA (hZ aO rfl (xf 4 _ rfl) xg)<|gA (iA aJ rfl)<|gC<|gV rfl (fun EX=>by rw[hf] at EX;cases EX) (fun EX=>?_);refine gL<|gz<|gD<|gB<|kn (H1:=B.mI path (some c.n) (st.si+(path.drop st.si).length) (st.pi+1) [] (st.mH.set st.pi (path.drop st.si))) (Hk:=[cx]) (fun vv H1=>vv=.tuple #[.int .u8 0,.bool c.ng.isSome]/\H1=B.mI path c.ng st.si st.pi (path.drop st.si) (st.mH.set st.pi [])) (.refl _) LB.w Tryd.call65 (x:=.tmp 213) (xs:=[.const (.int .u8 2)]) (vs:=[.int .u8 2]) (cs:=[Pt B.b9 0,Pt B.ru 0,Pt B.ry 0,Pt B.rz 0,Pt B.b6 0,Pt B.rA 0]) rfl rfl rfl (fun w1 wL fa=>?_) ?_
 ·have nD:∀(i:Nat) (v:Value),nth c.row i=some v->w1.cell? ⟨c.n,i,none⟩=some v:=fun i v hv=>wL.pT (xf i v hv) xg
  refine(aeQ w1 _ B c.n c.ng path c.pre [] (st.si+(path.drop st.si).length) (st.pi+1) (st.mH.set st.pi (path.drop st.si)) (by omega) (path.drop st.si) (by simp[hv]) (by rw[cR];exact DA) (by omega) fa (nD 1 _ rfl) (nD 5 _ rfl) (by rw[<-hk];exact nD 10 _ rfl) ?_ (by omega) mM (by omega)).mono fun e w' ⟨h2,h3⟩=>⟨_,_,h2,LB.w,ae8▸h3,rfl,rfl⟩
  rintro⟨e,he,AN⟩;have mS:c.n<w.heap.size:=World.block_lt_of_cell? w ⟨c.n,1,none⟩ (xf 1 _ rfl);rcases wL.wr e (ay _ he) (LB.w e he) with h2|h2
  ·exact xg (AN▸h2)
  have h2:w.heap.size<=e.b:=h2;omega
 rintro vv H1 ⟨rfl,rfl⟩;refine gB<|gA (iz rfl rfl)<|gA (iz rfl rfl)<|gF<|gF<|gC<|gz<|gD<|gB<|gA (iU rfl)<|gC<|gV rfl (fun vY=>?_) (fun vY=>?_)
 ·exact ir rfl<|k _ (.of rfl)
 refine gz<|gD ?_;refine gB<|gA (ie rfl rfl) ?_;refine gC<|gS rfl (fun DC=>absurd DC (by decide)) (fun DC=>?_);refine gz<|gD ?_;refine gB<|gA (ie rfl rfl) ?_;refine gC<|gS rfl (fun JL=>absurd JL (by decide)) (fun JL=>?_);exact ir rfl<|k _ (.of rfl)
theorem WY {R:Ending->World->Prop} {w:World} {D:Nat->Prop} {B:LB} {bx path:List UInt8} {st:St} {r:NR} {T:List NR} (hE:RF w D E) (qT:∀e∈mI T,e∈E) (ra:r∈T) (hn:r.n=st.n) (mM:path.length<=1000000)
  (q9:st.si<=path.length) (B5:st.pi<=999999) (ae4:st.mH.length=B.z) (hs:Sub (tP B cb bx st.mT) fr) (ha:r.mP=none) (hk:r.kd=0) (B9:r.pre.length<=st.si)
  (k0:r.ng=none->∀bc,Sub [(1,S bx),(8,Pt cb 0),(9,Pt B.b9 0),(10,PO st.mT),(11,PO none)] bc->GC Tryd.prog ⟨51,Tryd.f51,R,w,D⟩ 316 xJ bc (B.mI path none (st.si-r.pre.length) st.pi (path.drop (st.si-r.pre.length)) st.mH++[cx]))
  (k1:∀p,r.ng=some p->∀bc,Sub (tP B cb bx st.mT) bc->GC Tryd.prog ⟨51,Tryd.f51,R,w,D⟩ 316 GW bc (pJ B path {st with n:=p,si:=st.si-r.pre.length} cx)):GC Tryd.prog ⟨51,Tryd.f51,R,w,D⟩ 316 DB fr (pJ B path st cx):=by
 have hr:∀e∈r.mI,e∈E:=fun e he=>qT e (qN ra he)
 have n5:∀(i:Nat) (v:Value),nth r.row i=some v->w.cell? ⟨st.n,i,none⟩=some v:=fun i v hv=>hn▸hE.cell (hr _ (.head _)) hv
 have hD:¬D st.n:=hn▸hE.D (hr _ (.head _));have nn:(path.drop st.si).length =path.length-st.si:=aA;refine gN hs<|gz ?_;refine gz<|gD ?_;refine gA (gG aq rfl (.head _) rfl)<|gJ rfl ?_;refine gH xF rfl<|gA (hZ aq rfl (n5 3 _ rfl) hD) ?_;refine gF<|gC ?_;refine gz<|gD ?_;refine gB<|gA (iA aK rfl) ?_;refine gC<|gV rfl (fun wM=>by rw[ha] at wM;cases wM) (fun wM=>?_);refine gL<|gz ?_;refine gD<|gB<|kn (H1:=B.mI path (some st.n) st.si st.pi (path.drop st.si) st.mH) (Hk:=[cx]) (fun vv H1=>vv=.tuple #[.int .u8 1,.bool r.ng.isSome]/\H1=B.mI path r.ng (st.si-r.pre.length) st.pi (path.drop (st.si-r.pre.length)) st.mH) (.refl _) LB.w Tryd.call65 (x:=.tmp 213) (xs:=[.const (.int .u8 2)]) (vs:=[.int .u8 2]) (cs:=[Pt B.b9 0,Pt B.ru 0,Pt B.ry 0,Pt B.rz 0,Pt B.b6 0,Pt B.rA 0]) rfl rfl rfl (fun w1 wL fa=>?_) ?_
 ·have nD:∀(i:Nat) (v:Value),nth r.row i=some v->w1.cell? ⟨st.n,i,none⟩=some v:=fun i v hv=>wL.pT (n5 i v hv) hD
  refine(aeO w1 _ B st.n r.ng path r.pre (path.drop st.si) st.si st.pi st.mH B9 fa (nD 1 _ rfl) (nD 5 _ rfl) (by rw[<-hk];exact nD 10 _ rfl) ?_ q9 mM (by omega)).mono fun e w' ⟨h2,h3⟩=>⟨_,_,h2,LB.w,h3,rfl,rfl⟩
  rintro⟨e,he,AN⟩;have mS:st.n<w.heap.size:=World.block_lt_of_cell? w ⟨st.n,1,none⟩ (n5 1 _ rfl);rcases wL.wr e (ay _ he) (LB.w e he) with h2|h2
  ·exact hD (AN▸h2)
  have h2:w.heap.size<=e.b:=h2;omega
 rintro vv H1 ⟨rfl,rfl⟩;refine gB<|gA (iz rfl rfl)<|gA (iz rfl rfl)<|gF<|gF<|gC<|gz<|gD<|gB<|gA (iU rfl)<|gC<|gV rfl (fun vY=>?_) (fun vY=>?_)
 ·refine ir rfl ?_;have xE:r.ng=none:=by cases qA:r.ng with|none=>rfl|some _=>rw[qA] at vY;cases vY
  exact hO (fun w1 fa=>by rw[xE] at fa;exact fa) (k0 xE _ (.of rfl))
 refine gz<|gD<|gB<|gA (ie rfl rfl)<|gC<|gS rfl (fun DC=>?_) (fun DC=>absurd rfl DC);refine kF rfl<|gz<|gL ?_;obtain⟨p,qA⟩:∃p,r.ng=some p:=by cases qA:r.ng with|none=>rw[qA] at vY;cases vY|some p=>exact⟨p,rfl⟩
 exact hO (H':=pJ B path {st with n:=p,si:=st.si-r.pre.length} cx) (fun w1 fa=>by rw[qA] at fa;exact fa) (k1 p qA _ (.of rfl))
theorem ae9 {R:Ending->World->Prop} {w:World} {D:Nat->Prop} {B:LB} {bx path:List UInt8} {st:St} {r:NR} {T:List NR} (hE:RF w D E) (qT:∀e∈mI T,e∈E) (ra:r∈T) (hn:r.n=st.n) (mM:path.length<=1000000)
  (q9:st.si<=path.length) (B5:st.pi<=999999) (DA:st.mH.length=B.z) (hs:Sub (tP B cb bx st.mT) fr) (ha:r.mP=none) (hk:r.kd=1) (zG:0<st.pi) {v:List UInt8} (Mh:st.mH[st.pi-1]? =some v) (yz:v.length<=st.si) {p:Nat} (qA:r.ng=some p)
  (k1:∀bc,Sub (tP B cb bx st.mT) bc->GC Tryd.prog ⟨51,Tryd.f51,R,w,D⟩ 316 DB bc (pJ B path {st with n:=p,si:=st.si-v.length,pi:=st.pi-1,mH:=st.mH.set (st.pi-1) []} cx)):GC Tryd.prog ⟨51,Tryd.f51,R,w,D⟩ 316 DB fr (pJ B path st cx):=by
 have hr:∀e∈r.mI,e∈E:=fun e he=>qT e (qN ra he)
 have n5:∀(i:Nat) (v:Value),nth r.row i=some v->w.cell? ⟨st.n,i,none⟩=some v:=fun i v hv=>hn▸hE.cell (hr _ (.head _)) hv
 have hD:¬D st.n:=hn▸hE.D (hr _ (.head _));have nn:(path.drop st.si).length =path.length-st.si:=aA;refine gN hs<|gz ?_;refine gz<|gD ?_;refine gA (gG aq rfl (.head _) rfl)<|gJ rfl ?_;refine gH xF rfl<|gA (hZ aq rfl (n5 3 _ rfl) hD) ?_;refine gF<|gC ?_;refine gz<|gD ?_;refine gB<|gA (iA aK rfl) ?_;refine gC<|gV rfl (fun wM=>by rw[ha] at wM;cases wM) (fun wM=>?_);refine gL<|gz ?_;refine gD<|gB<|kn (H1:=B.mI path (some st.n) st.si st.pi (path.drop st.si) st.mH) (Hk:=[cx]) (fun vv H1=>vv=.tuple #[.int .u8 2,.bool r.ng.isSome]/\H1=B.mI path r.ng (st.si-v.length) (st.pi-1) (path.drop (st.si-v.length)) (st.mH.set (st.pi-1) [])) (.refl _) LB.w Tryd.call65 (x:=.tmp 213) (xs:=[.const (.int .u8 2)]) (vs:=[.int .u8 2]) (cs:=[Pt B.b9 0,Pt B.ru 0,Pt B.ry 0,Pt B.rz 0,Pt B.b6 0,Pt B.rA 0]) rfl rfl rfl (fun w1 wL fa=>?_) ?_
 ·have nD:∀(i:Nat) (v:Value),nth r.row i=some v->w1.cell? ⟨st.n,i,none⟩=some v:=fun i v hv=>wL.pT (n5 i v hv) hD
  refine(aeP w1 _ B st.n r.ng path r.pre (path.drop st.si) st.si st.pi st.mH zG v Mh DA yz fa (nD 1 _ rfl) (nD 5 _ rfl) (by rw[<-hk];exact nD 10 _ rfl) ?_ q9 mM (by omega)).mono fun e w' ⟨h2,h3⟩=>⟨_,_,h2,LB.w,h3,rfl,rfl⟩
  rintro⟨e,he,AN⟩;have mS:st.n<w.heap.size:=World.block_lt_of_cell? w ⟨st.n,1,none⟩ (n5 1 _ rfl);rcases wL.wr e (ay _ he) (LB.w e he) with h2|h2
  ·exact hD (AN▸h2)
  have h2:w.heap.size<=e.b:=h2;omega
 rintro vv H1 ⟨rfl,rfl⟩;refine gB<|gA (iz rfl rfl) ?_;refine gA (iz rfl rfl)<|gF ?_;refine gF<|gC ?_;refine gz<|gD ?_;refine gB<|gA (iU rfl) ?_;refine gC<|gV rfl (fun vY=>by rw[qA] at vY;cases vY) (fun vY=>?_);refine gz<|gD ?_;refine gB<|gA (ie rfl rfl) ?_;refine gC<|gS rfl (fun DC=>absurd DC (by decide)) (fun DC=>?_);refine gz<|gD ?_;refine gB<|gA (ie rfl rfl) ?_;refine gC<|gS rfl (fun JL=>?_) (fun JL=>absurd rfl JL);refine kF rfl<|gz ?_;exact gL<|hO (H':=pJ B path {st with n:=p,si:=st.si-v.length,pi:=st.pi-1,mH:=st.mH.set (st.pi-1) []} cx) (fun w1 fa=>by rw[qA] at fa;exact fa) (k1 _ (.of rfl))
end Go.Proofs.Ec
