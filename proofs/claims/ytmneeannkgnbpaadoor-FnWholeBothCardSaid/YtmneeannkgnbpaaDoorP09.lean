/- Lemmas of the walk and plain facts (JgE11 .. JgE13). -/
import Derived.Test.YtmneeannkgnbpaaDoorL1
import Derived.Test.YtmneeannkgnbpaaDoorL2
import Derived.Test.YtmneeannkgnbpaaDoorP08
import Derived.Test.YtmneeannkgnbpaaDoorP01
set_option maxRecDepth 20000
namespace Go.Proofs
open Go Bw Gt
variable {wl:Bool} {hv:Value} {Hh Hr:SH} {fr:SF} {cb:Nat} {k0:T0}
theorem TN (idx:List UInt8) (kids:List T0) (j:Nat) (hj:j<kids.length):(bump idx kids j).2.1.length =kids.length:=by
 unfold bump;exact(CC _ (D0 _ _ _) (by simpa using hj)).trans (by simp)
theorem TO (idx:List UInt8) (kids:List T0) (j:Nat):(bump idx kids j).2.2<=j:=D0 _ _ _
theorem TP {x y:UInt8} (h:(x.toNat:Int)=(y.toNat:Int)):x=y:=bU.1 (by omega)
theorem aax {R:Ending->World->Prop} {w:World} {D:Nat->Prop} {nb hb num nc i:Nat} {p full tp idx:List UInt8} {nt pr:Nat} {h0:Option Nat} {f0:List UInt8} {kids:List T0} {bs:List Nat} {kv:Value} {Hs Hk:SH}
  (hs:Own 84 1 kv kids.length (bs.map (Pt · 0)) Hs) (hh:HV h0 hv Hh) (hk:oq kids bs Hk) (su:p.length<=100000) (qv:full.length<=100000) (vo:nc+p.length<=full.length) (xV:i<=p.length) (Az:tp.length=i) (mU:Sub [(0,Pt nb 0),(1,S p),(2,Sx hb 1 1),(6,S full),(7,I (nc:Int)),(8,I (i:Nat))] fr) {c:UInt8} (mS:i<p.length) (hc:p[i]? =some c) (og:¬(nt=2/\c=47/\kids.length=1)) (FD:kids.length<=90000) (hik:idx.length<=kids.length) {j:Nat} {k:T0} (hj:idxOf c idx=some j) (nZ:(bump idx kids j).2.1[(bump idx kids j).2.2]? =some k)
  (go:∀cb qE tT bc,HT k cb qE->(∀k' sI,HT k' cb sI->∃nC,HT (.node () tp (bump idx kids j).1 wl nt pr h0 f0 ((bump idx kids j).2.1.set (bump idx kids j).2.2 k')) nb nC/\(sI++tT).Perm (nC++Hr))->Sub [(0,Pt cb 0),(1,S (p.drop i)),(2,Sx hb 1 1),(6,S full),(7,I ((nc+tp.length:Nat):Int))] bc->GC Tryd.prog ⟨57,Tryd.f57,R,w,D⟩ 377 FB bc (qE++(Rx hb [I (num:Int)] 3::tT))):
  GC Tryd.prog ⟨57,Tryd.f57,R,w,D⟩ 377 CN fr (Rx nb (mu tp idx wl nt pr kv hv f0) 115::((Hs++(Hh++Hk))++(Rx hb [I (num:Int)] 3::Hr))):=by
 refine gN mU ?_;clear mU;obtain⟨X,hX⟩:∃X,X=(Hh++Hk)++(Rx hb [I (num:Int)] 3::Hr):=⟨_,rfl⟩;refine hO (H':=Rx nb (mu tp idx wl nt pr kv hv f0) 115::(Hs++X)) (fun w1 h1=>by rw[hX,<-aw];exact h1) ?_;have rh:=hk.len;obtain⟨ad,cap,rfl⟩:=hs.slice;obtain⟨mX,l2,c2,rfl,pX⟩:=hh.slice;obtain⟨zB,vU⟩:=Ik hj;have oC:j<idx.length:=(ae.1 zB).1;refine gz<|gz<|gD<|gB<|gB<|gA (ig aa rfl) ?_;refine gA (ik rfl rfl)<|gC<|gS rfl (fun xz=>?_) (fun xz=>absurd (by omega) xz);refine gz<|gD<|gB<|gB<|gA (iX (i:=i) aa rfl rfl xV)<|gF ?_;refine gC<|gz<|gD<|gB<|gA (iG (i:=0) (b:=c) aa rfl rfl (by rw[bL];exact hc)) ?_;refine gF<|gC<|gz<|gz<|hY (fun bc H'=>Sub [(0,Pt nb 0),(1,S (p.drop i)),(2,Sx hb 1 1),(6,S full),(7,I (nc:Int)),(10,.int .u8 (c.toNat:Int)),(151,.bool false)] bc/\H'=(Rx nb (mu tp idx wl nt pr (.slice ad kids.length cap) (.slice mX l2 c2) f0) 115)::(Hs++X)) (fun Bs=>?_) ?_
 ·refine gD<|gB<|gJ rfl<|gH sX rfl<|gA (gG cf rfl (.head _) rfl)<|gA (ie rfl rfl)<|gB<|gZ 140 rfl (fun CP=>?_) (fun CP=>?_)
  ·refine gU<|gI (ie rfl rfl)<|gT<|gB<|gZ 144 rfl (fun CQ=>?_) (fun CQ=>?_)
   ·refine gU<|gI (gX rfl)<|gI (gQ p5 rfl)<|gI (gG bj rfl (.head _) rfl)<|gI (iu az rfl)<|gI (ie rfl rfl)<|gT<|gC<|Bs _ _ ⟨?_,rfl⟩;have NS:decide (((kids.length:Nat):Int)=1)=false:=decide_eq_false fun e=>og ⟨by have:=of_decide_eq_true CP;omega,Av (by have:=of_decide_eq_true CQ;omega),by omega⟩
    rw[NS];exact .of rfl
   refine gE ?_;refine gE ?_;refine gE ?_;refine gE ?_;refine gE ?_;refine gE ?_;refine hG ?_;refine gC ?_;exact Bs _ _ ⟨.of rfl,rfl⟩
  refine gE ?_;refine gE ?_;refine hG ?_;refine gB ?_;refine gE ?_;refine gE ?_;refine gE ?_;refine gE ?_;refine gE ?_;refine gE ?_;refine hG ?_;refine gC ?_;exact Bs _ _ ⟨.of rfl,rfl⟩
 rintro bc H' ⟨CR,rfl⟩;refine gN CR ?_;clear CR;refine iJ rfl<|gL<|gz<|gz<|iV mixed (by kernel_rfl)<|gK (gM rfl)<|gK (gX rfl)<|gK (gQ sP rfl)<|gK (gG ag rfl (.head _) rfl)<|gK (ig aa rfl)<|gK (iT rfl)<|gK (iT rfl)<|iH<|gW ?_
 refine iC (fun N bc H'=>∃q,q+N=j/\Sub [(0,Pt nb 0),(1,S (p.drop i)),(2,Sx hb 1 1),(6,S full),(7,I (nc:Int)),(10,.int .u8 (c.toNat:Int)),(11,I (q:Nat)),(12,I (idx.length:Nat))] bc/\H'=(Rx nb (mu tp idx wl nt pr (.slice ad kids.length cap) (.slice mX l2 c2) f0) 115)::(Hs++X)) j
  ⟨0,by omega,.of rfl,rfl⟩ ?_
 rintro N bc H' ⟨q,hq,Io,rfl⟩ ih;refine gN Io ?_;clear Io;refine gz<|gz<|gD<|gB<|gB<|gA (ik rfl rfl) ?_;refine gC<|gS rfl (fun KP=>?_) (fun KP=>absurd (by omega) KP);refine gL<|gz<|gW<|gz ?_;obtain⟨x,hx⟩:∃x,idx[q]? =some x:=gx (by omega);refine gD<|gB<|gB<|gJ rfl<|gH sP rfl<|gA (gG ag rfl (.head _) rfl) ?_;refine gB<|gA (iG (i:=q) (b:=x) aa rfl rfl hx)<|gA (ie rfl rfl)<|gC<|gS rfl (fun FE=>?_) (fun FE=>?_)
 ·refine gz ?_
  have zC:q=j:=by
   rcases cn q j with h|h
   ·exact absurd (by rw[hx,TP FE]) (vU q h)
   omega
  subst zC;refine gD<|gB<|gB<|gJ rfl<|gH pU rfl<|gA (gG ag rfl (.head _) rfl)<|gA (ig aa rfl)<|gA (iB (r:=((nc+tp.length:Nat):Int)) rfl rfl rfl (by omega) (by omega))<|gF<|gC<|gz<|gD<|gB<|gB<|jo (H1:=Rx nb (mu tp idx wl nt pr (.slice ad kids.length cap) (.slice mX l2 c2) f0) 115::(Hs++Hk)) (Hk:=Hh++(Rx hb [I (num:Int)] 3::Hr)) (fun v ni=>v=I ((bump idx kids q).2.2:Nat)/\∃nX yQ,Own 84 1 (.slice ad kids.length cap) kids.length ((oW bs q (bump idx kids q).2.2).map (Pt · 0)) nX/\oq (bump idx kids q).2.1 (oW bs q (bump idx kids q).2.2) yQ/\ni=(Rx nb (mu tp (bump idx kids q).1 wl nt pr (.slice ad kids.length cap) (.slice mX l2 c2) f0) 115)::(nX++yQ)) ?_ (fun e0 mL=>?_) Tryd.call72 rfl rfl (fun w1 fa _=>?_) ?_
  ·rw[hX];have p1:=oN [[Rx nb (mu tp idx wl nt pr (.slice ad kids.length cap) (.slice mX l2 c2) f0) 115],Hs,Hh,Hk,[Rx hb [I (num:Int)] 3],Hr] [0,1,2,3,4,5] [0,1,3,2,4,5] (by decide);simpa using p1
  ·rcases af.1 mL with rfl|mL
   ·rfl
   rcases aB.1 mL with mL|mL
   ·exact hs.w e0 mL
   exact hk.w e0 mL
  ·refine(Tn w1 _ nb q tp idx wl nt pr (.slice mX l2 c2) f0 (.slice ad kids.length cap) kids bs Hs Hk (by omega) oC (by omega) (by omega) hs hk fa).mono fun e w' ⟨h1,nX,yQ,h2,h3,h4⟩=>⟨_,_,h1,fun e0 mL=>?_,h4,rfl,nX,yQ,h2,h3,rfl⟩
   rcases af.1 mL with rfl|mL
   ·rfl
   rcases aB.1 mL with mL|mL
   ·exact h2.w e0 mL
   exact h3.w e0 mL
  rintro v ni ⟨rfl,nU,uN,mJ,ow,rfl⟩;have TQ:=TO idx kids q;have pB:=TN idx kids q (by omega);generalize hB:(bump idx kids q)=B at*;obtain⟨cb,C1,C2,rF,AB,sO,Au⟩:=ow.As nZ;have KH:B.2.2<kids.length:=by omega
  obtain⟨rb,xu,spare,e1,rfl⟩:=mJ.at KH;cases e1;refine gF<|gC<|gz<|gD<|gB<|gJ rfl<|gH p5 rfl<|gA (gG bj rfl (.head _) rfl)<|gB<|gA (ij (i:=B.2.2) az bi rfl rfl KH)<|gA (gG bK rfl (.tail _ (.head _)) (by rw[n8,aH,aT,ak (by rw[aQ,ow.len,pB];exact KH),aD,rF];rfl)) ?_;refine gF<|gC<|ir rfl<|jx<|hO (H':=C1++(Rx hb [I (num:Int)] 3::(Rx nb (mu tp B.1 wl nt pr (Sx rb kids.length cap) (.slice mX l2 c2) f0) 115::([Rx rb ((oW bs q B.2.2).map (Pt · 0)++spare) 84]++(Hh++(C2++Hr)))))) (fun w1 h1=>h1.perm ?_) ?_
  ·have p1:=oN [[Rx nb (mu tp B.1 wl nt pr (Sx rb kids.length cap) (.slice mX l2 c2) f0) 115],[Rx rb ((oW bs q B.2.2).map (Pt · 0)++spare) 84],C1,C2,Hh,[Rx hb [I (num:Int)] 3],Hr] [0,1,2,3,4,5,6] [2,5,0,1,4,3,6] (by decide);refine List.Perm.trans (((sO.append_left [Rx rb ((oW bs q B.2.2).map (Pt · 0)++spare) 84]).cons (Rx nb (mu tp B.1 wl nt pr (Sx rb kids.length cap) (.slice mX l2 c2) f0) 115)).append_right (Hh++(Rx hb [I (num:Int)] 3::Hr))) ?_;simpa using p1
  refine go cb C1 _ _ AB (fun k' sI s7=>?_) (.of rfl)
  obtain⟨H2,uo,Ip⟩:=Au k' sI s7;refine⟨_,HT.mk (by rw[cR,pB];exact mJ) hh uo,?_⟩;have p1:=oN [sI,[Rx nb (mu tp B.1 wl nt pr (Sx rb kids.length cap) (.slice mX l2 c2) f0) 115],[Rx rb ((oW bs q B.2.2).map (Pt · 0)++spare) 84],Hh,C2,Hr] [0,1,2,3,4,5] [1,2,3,0,4,5] (by decide);refine List.Perm.trans (l₂:=Rx nb (mu tp B.1 wl nt pr (Sx rb kids.length cap) (.slice mX l2 c2) f0) 115::([Rx rb ((oW bs q B.2.2).map (Pt · 0)++spare) 84]++(Hh++((sI++C2)++Hr)))) (by simpa using p1) ?_;have p2:=(((Ip.symm.append_right Hr).append_left Hh).append_left [Rx rb ((oW bs q B.2.2).map (Pt · 0)++spare) 84]).cons (Rx nb (mu tp B.1 wl nt pr (Sx rb kids.length cap) (.slice mX l2 c2) f0) 115);simpa using p2
 refine gL<|il<|gD<|gB<|gA (iy q (by omega))<|gF<|gC ?_;have rG:x≠c:=fun e=>FE (by rw[e])
 have zC:q≠j:=fun e=>rG (by rw[e,zB] at hx;exact(bp hx).symm)
 exact ih (N-1) _ _ (by omega) ⟨q+1,by omega,.of rfl,rfl⟩
theorem aaz {R:Ending->World->Prop} {w:World} {D:Nat->Prop} {nb hb num nc i:Nat} {p full tp idx:List UInt8} {nt pr:Nat} {h0:Option Nat} {f0:List UInt8} {kids:List T0} {bs:List Nat} {kv:Value} {Hs Hk:SH}
  (hs:Own 84 1 kv kids.length (bs.map (Pt · 0)) Hs) (hh:HV h0 hv Hh) (hk:oq kids bs Hk) (su:p.length<=100000) (KO:full.length<=100000) (TM:nc+p.length<=full.length) (xV:i<=p.length) (Az:tp.length=i) (mU:Sub [(0,Pt nb 0),(1,S p),(2,Sx hb 1 1),(6,S full),(7,I (nc:Int)),(8,I (i:Nat))] fr) {c:UInt8} (mS:i<p.length) (hc:p[i]? =some c) (og:¬(nt=2/\c=47/\kids.length=1)) (FD:kids.length<=90000) (hik:idx.length<=kids.length) (hj:idxOf c idx=none)
  (go:∀bc,Sub [(0,Pt nb 0),(1,S (p.drop i)),(2,Sx hb 1 1),(6,S full),(7,I (nc:Int)),(10,.int .u8 (c.toNat:Int))] bc->GC Tryd.prog ⟨57,Tryd.f57,R,w,D⟩ 377 FC bc (Rx nb (mu tp idx wl nt pr kv hv f0) 115::((Hs++(Hh++Hk))++(Rx hb [I (num:Int)] 3::Hr)))):
  GC Tryd.prog ⟨57,Tryd.f57,R,w,D⟩ 377 CN fr (Rx nb (mu tp idx wl nt pr kv hv f0) 115::((Hs++(Hh++Hk))++(Rx hb [I (num:Int)] 3::Hr))):=by
 refine gN mU ?_;clear mU;obtain⟨X,hX⟩:∃X,X=(Hh++Hk)++(Rx hb [I (num:Int)] 3::Hr):=⟨_,rfl⟩;refine hO (H':=Rx nb (mu tp idx wl nt pr kv hv f0) 115::(Hs++X)) (fun w1 h1=>by rw[hX,<-aw];exact h1) ?_;have rh:=hk.len;obtain⟨ad,cap,rfl⟩:=hs.slice;obtain⟨mX,l2,c2,rfl,pX⟩:=hh.slice;have vU:=KN hj;refine gz<|gz<|gD<|gB<|gB<|gA (ig aa rfl) ?_;refine gA (ik rfl rfl)<|gC<|gS rfl (fun xz=>?_) (fun xz=>absurd (by omega) xz);refine gz<|gD<|gB<|gB<|gA (iX (i:=i) aa rfl rfl xV)<|gF ?_;refine gC<|gz<|gD<|gB<|gA (iG (i:=0) (b:=c) aa rfl rfl (by rw[bL];exact hc)) ?_;refine gF<|gC<|gz<|gz<|hY (fun bc H'=>Sub [(0,Pt nb 0),(1,S (p.drop i)),(2,Sx hb 1 1),(6,S full),(7,I (nc:Int)),(10,.int .u8 (c.toNat:Int)),(151,.bool false)] bc/\H'=(Rx nb (mu tp idx wl nt pr (.slice ad kids.length cap) (.slice mX l2 c2) f0) 115)::(Hs++X)) (fun Bs=>?_) ?_
 ·refine gD<|gB<|gJ rfl<|gH sX rfl<|gA (gG cf rfl (.head _) rfl)<|gA (ie rfl rfl)<|gB<|gZ 140 rfl (fun CP=>?_) (fun CP=>?_)
  ·refine gU<|gI (ie rfl rfl)<|gT<|gB<|gZ 144 rfl (fun CQ=>?_) (fun CQ=>?_)
   ·refine gU<|gI (gX rfl)<|gI (gQ p5 rfl)<|gI (gG bj rfl (.head _) rfl)<|gI (iu az rfl)<|gI (ie rfl rfl)<|gT<|gC<|Bs _ _ ⟨?_,rfl⟩;have NS:decide (((kids.length:Nat):Int)=1)=false:=decide_eq_false fun e=>og ⟨by have:=of_decide_eq_true CP;omega,Av (by have:=of_decide_eq_true CQ;omega),by omega⟩
    rw[NS];exact .of rfl
   refine gE ?_;refine gE ?_;refine gE ?_;refine gE ?_;refine gE ?_;refine gE ?_;refine hG ?_;refine gC ?_;exact Bs _ _ ⟨.of rfl,rfl⟩
  refine gE ?_;refine gE ?_;refine hG ?_;refine gB ?_;refine gE ?_;refine gE ?_;refine gE ?_;refine gE ?_;refine gE ?_;refine gE ?_;refine hG ?_;refine gC ?_;exact Bs _ _ ⟨.of rfl,rfl⟩
 rintro bc H' ⟨CR,rfl⟩;refine gN CR ?_;clear CR;refine iJ rfl<|gL<|gz<|gz<|iV mixed (by kernel_rfl)<|gK (gM rfl)<|gK (gX rfl)<|gK (gQ sP rfl)<|gK (gG ag rfl (.head _) rfl)<|gK (ig aa rfl)<|gK (iT rfl)<|gK (iT rfl)<|iH<|gW ?_
 refine iC (fun N bc H'=>∃q,q+N=idx.length/\Sub [(0,Pt nb 0),(1,S (p.drop i)),(2,Sx hb 1 1),(6,S full),(7,I (nc:Int)),(10,.int .u8 (c.toNat:Int)),(11,I (q:Nat)),(12,I (idx.length:Nat))] bc/\H'=(Rx nb (mu tp idx wl nt pr (.slice ad kids.length cap) (.slice mX l2 c2) f0) 115)::(Hs++X)) idx.length
  ⟨0,by omega,.of rfl,rfl⟩ ?_
 rintro N bc H' ⟨q,hq,Io,rfl⟩ ih;refine gN Io ?_;clear Io;refine gz<|gz<|gD<|gB<|gB<|gA (ik rfl rfl)<|gC<|gS rfl (fun KP=>?_) (fun KP=>?_)
 ·refine gL<|gz<|gW<|gz ?_;obtain⟨x,hx⟩:∃x,idx[q]? =some x:=gx (by omega);refine gD<|gB<|gB<|gJ rfl<|gH sP rfl<|gA (gG ag rfl (.head _) rfl) ?_;refine gB<|gA (iG (i:=q) (b:=x) aa rfl rfl hx)<|gA (ie rfl rfl)<|gC<|gS rfl (fun FE=>absurd (by rw[hx,TP FE]) (vU q)) (fun FE=>?_);refine gL<|il<|gD<|gB<|gA (iy q (by omega))<|gF ?_;exact gC<|ih (N-1) _ _ (by omega) ⟨q+1,by omega,.of rfl,rfl⟩
 refine ir rfl<|hO (H':=(Rx nb (mu tp idx wl nt pr (.slice ad kids.length cap) (.slice mX l2 c2) f0) 115::((Hs++(Hh++Hk))++(Rx hb [I (num:Int)] 3::Hr)))) (fun w1 h1=>?_) (go _ (.of rfl));rw[aw];rw[hX] at h1;exact h1
def aaA:List Item->List Item
 |.code (.seq _ b)::k=>.code b::k
 |k=>k
noncomputable def NT:List Item:=aaA FC
theorem aaB {bs:List Nat} {n:Nat} (h:bs.length=n+wl.toNat):(uL wl bs cb)[n]? =some cb:=by
 unfold uL
 cases wl with
 |false=>simp at h;rw[if_neg (by simp)];simp[<-h]
 |true=>
  simp at h;have hb:bs≠[]:=fun e=>by rw[e] at h;simp at h
  rw[if_pos ⟨rfl,hb⟩,aw,bO (by simp;omega)];simp;rw[h];simp
theorem aaC {R:Ending->World->Prop} {w:World} {D:Nat->Prop} {nb hb num nc:Nat} {p full tp idx:List UInt8} {nt pr:Nat} {h0:Option Nat} {f0:List UInt8} {kids:List T0} {bs:List Nat} {kv:Value} {Hs Hk:SH} {c:UInt8}
  (hs:Own 84 1 kv kids.length (bs.map (Pt · 0)) Hs) (hh:HV h0 hv Hh) (hk:oq kids bs Hk) (su:p.length<=100000) (KO:full.length<=100000) (mU:Sub [(0,Pt nb 0),(1,S p),(2,Sx hb 1 1),(6,S full),(7,I (nc:Int)),(10,.int .u8 (c.toNat:Int))] fr) {k:T0} (CO:c≠58) (s9:c≠42) (KQ:nt≠3) (FD:kids.length<=90000) (hlen:kids.length=idx.length+wl.toNat) (nZ:(bump (idx++[c]) (qe wl kids (.node () [] [] false 0 0 none full [])) idx.length).2.1[(bump (idx++[c]) (qe wl kids (.node () [] [] false 0 0 none full [])) idx.length).2.2]? =some k)
  (go:∀cb qE tT bc,HT k cb qE->(∀k' sI,HT k' cb sI->∃nC,HT (.node () tp (bump (idx++[c]) (qe wl kids (.node () [] [] false 0 0 none full [])) idx.length).1 wl nt pr h0 f0 ((bump (idx++[c]) (qe wl kids (.node () [] [] false 0 0 none full [])) idx.length).2.1.set (bump (idx++[c]) (qe wl kids (.node () [] [] false 0 0 none full [])) idx.length).2.2 k')) nb nC/\(sI++tT).Perm (nC++Hr))->Sub [(0,Pt cb 0),(1,S p),(2,Sx hb 1 1),(6,S full)] bc->GC Tryd.prog ⟨57,Tryd.f57,R,w,D⟩ 377 NT bc (qE++(Rx hb [I (num:Int)] 3::tT))):
  GC Tryd.prog ⟨57,Tryd.f57,R,w,D⟩ 377 FC fr (Rx nb (mu tp idx wl nt pr kv hv f0) 115::((Hs++(Hh++Hk))++(Rx hb [I (num:Int)] 3::Hr))):=by
 refine gN mU ?_;clear mU;obtain⟨X,hX⟩:∃X,X=(Hh++Hk)++(Rx hb [I (num:Int)] 3::Hr):=⟨_,rfl⟩;refine hO (H':=Rx nb (mu tp idx wl nt pr kv hv f0) 115::(Hs++X)) (fun w1 h1=>by rw[hX,<-aw];exact h1) ?_;have rh:=hk.len;obtain⟨ad,cap,rfl⟩:=hs.slice;obtain⟨mX,l2,c2,rfl,pX⟩:=hh.slice;refine gz<|gz<|hY (fun bc H'=>Sub [(0,Pt nb 0),(1,S p),(2,Sx hb 1 1),(6,S full),(7,I (nc:Int)),(10,.int .u8 (c.toNat:Int)),(219,.bool true)] bc/\H'=(Rx nb (mu tp idx wl nt pr (.slice ad kids.length cap) (.slice mX l2 c2) f0) 115)::(Hs++X)) (fun vQ=>?_) ?_
 ·refine gD<|gB<|gA (iF rfl rfl)<|gB<|gZ 209 rfl (fun wz=>?_) (fun wz=>?_)
  ·refine gU<|gI (iF rfl rfl)<|gT<|gB<|gZ 213 rfl (fun zD=>?_) (fun zD=>?_)
   ·refine gU<|gI (gX rfl)<|gI (gQ sX rfl)<|gI (gG cf rfl (.head _) rfl)<|gI (iF rfl rfl)<|gT<|gC<|vQ _ _ ⟨?_,rfl⟩;have e:(!decide ((nt:Int)=3))=true:=by simp;omega
    rw[e];exact .of rfl
   refine gE ?_;refine gE ?_;refine gE ?_;refine gE ?_;refine gE ?_;refine hG ?_;refine gC ?_;exact absurd zD (by simpa using fun e:(c.toNat:Int)=42=>s9 (NM e))
  refine gE ?_;refine gE ?_;refine hG ?_;refine gB ?_;refine gE ?_;refine gE ?_;refine gE ?_;refine gE ?_;refine gE ?_;refine hG ?_;refine gC ?_;exact absurd wz (by simpa using fun e:(c.toNat:Int)=58=>CO (NL e))
 rintro bc H' ⟨vR,rfl⟩;refine gN vR ?_;clear vR;refine ji rfl<|gz<|jT 10 (fun w1=>w1.heap[nb]? =some (oe.den (.row (mu tp idx wl nt pr (.slice ad kids.length cap) (.slice mX l2 c2) f0) 115 (0,0)))) mixed (by kernel_rfl)<|jN (fun w1 h1=>h1.has (Rx nb (mu tp idx wl nt pr (.slice ad kids.length cap) (.slice mX l2 c2) f0) 115) (by first|exact .head _|exact .tail _ (.head _))) fun hS=>?_
 refine iq 0 rfl hS (gM rfl)<|iq 1 rfl hS (gX rfl)<|iq 2 rfl hS (gQ sP rfl)<|jh 3 rfl hS ag rfl (fun w1 h1=>uk h1 rfl)<|iq 4 rfl hS (gM rfl)<|jC 5 rfl (by kernel_rfl)<|kB (vs:=[.int .u8 (c.toNat:Int)]) (ZS aL bV dH (v:=.int .u8 (c.toNat:Int)) rfl) rfl (fun w1 h1=>h1.has (Rx nb (mu tp idx wl nt pr (.slice ad kids.length cap) (.slice mX l2 c2) f0) 115) (.head _)) rfl (fun tb=>?_);refine jC 6 rfl (by kernel_rfl)<|mf (j8 (l:=[c]) (T:=5) (wf:=true) aL bT aa rfl (.head _) (by simp)) (fun w1 h1=>h1.has (Rx nb (mu tp idx wl nt pr (.slice ad kids.length cap) (.slice mX l2 c2) f0) 115) (.tail _ (.head _))) rfl<|jN (fun w1 h1=>h1.has (Rx nb (mu tp idx wl nt pr (.slice ad kids.length cap) (.slice mX l2 c2) f0) 115) (by first|exact .head _|exact .tail _ (.head _))) fun hS=>?_
 refine iq 7 rfl hS (iR rfl rfl (by simp;omega))<|iq 8 rfl hS (gX rfl)<|iq 9 rfl hS (gQ sP rfl)<|jU (by kernel_rfl)<|gO ah rfl rfl rfl (.s .z) rfl rfl<|gC<|gz<|hO (H':=Rx nb (mu tp (idx++[c]) wl nt pr (.slice ad kids.length cap) (.slice mX l2 c2) f0) 115::(Hs++X)) (fun w1 h1=>h1.sub (ai _ _))<|gD<|gB<|gA (iN (vs:=[(7,S full)]) rfl (fun w1=>TA _ w1))<|jc (l:=mu [] [] false 0 0 (.slice none 0 0) (.slice none 0 0) full) rfl (by simp[qp,mu]) rfl (fun cb rF=>?_);refine gF<|gC<|gz<|gD<|gB<|gB ?_;rw[<-rh] at hs;refine jo (H1:=Rx nb (mu tp (idx++[c]) wl nt pr (.slice ad kids.length cap) (.slice mX l2 c2) f0) 115::Hs) (Hk:=Rx cb (mu [] [] false 0 0 (.slice none 0 0) (.slice none 0 0) full) 115::X) (fun v ni=>v=.tuple #[]/\∃se nX,Own 84 1 se (bs.length+1) ((uL wl bs cb).map (Pt · 0)) nX/\ni=(Rx nb (mu tp (idx++[c]) wl nt pr se (.slice mX l2 c2) f0) 115)::nX) (bG (l₁:=Rx nb (mu tp (idx++[c]) wl nt pr (.slice ad kids.length cap) (.slice mX l2 c2) f0) 115::Hs)).symm (fun e0 mL=>?_) Tryd.call73 rfl rfl (fun w1 fa _=>?_) ?_
 ·rcases af.1 mL with rfl|mL
  ·rfl
  exact hs.w e0 mL
 ·refine(H5 w1 _ nb cb tp (idx++[c]) wl nt pr (.slice mX l2 c2) f0 (.slice ad bs.length cap) bs Hs (by omega) hs (by rw[rh];exact fa)).mono fun e w' ⟨h1,se,nX,h2,h3⟩=>⟨_,_,h1,fun e0 mL=>?_,h3,rfl,se,nX,h2,rfl⟩
  rcases af.1 mL with rfl|mL
  ·rfl
  exact h2.w e0 mL
 rintro v ni ⟨rfl,ov,nU,mJ,rfl⟩;obtain⟨uN,ow,qZ⟩:=hk.add (mm:=wl) (HT.mk (path:=[]) (idx:=[]) (mm:=false) (nt:=0) (pr:=0) (h:=none) (full:=full) (nb:=cb) Own.nil HV.nil oq.nil);have uq:=KL wl kids (.node () [] [] false 0 0 none full []);rw[rh,<-uq] at mJ;refine jb (H':=Rx nb (mu tp (idx++[c]) wl nt pr ov (.slice mX l2 c2) f0) 115::(nU++(uN++(Hh++(Rx hb [I (num:Int)] 3::Hr))))) (fun w1 h1=>h1.perm ?_) ?_
 ·rw[hX];have e1:uN.Perm (Rx cb (mu [] [] false 0 0 (.slice none 0 0) (.slice none 0 0) full) 115::Hk):=by simpa using qZ
  have p1:=oN [[Rx nb (mu tp (idx++[c]) wl nt pr ov (.slice mX l2 c2) f0) 115],nU,[Rx cb (mu [] [] false 0 0 (.slice none 0 0) (.slice none 0 0) full) 115],Hh,Hk,[Rx hb [I (num:Int)] 3],Hr] [0,1,2,3,4,5,6] [0,1,2,4,3,5,6] (by decide);refine List.Perm.trans (l₂:=Rx nb (mu tp (idx++[c]) wl nt pr ov (.slice mX l2 c2) f0) 115::(nU++((Rx cb (mu [] [] false 0 0 (.slice none 0 0) (.slice none 0 0) full) 115::Hk)++(Hh++(Rx hb [I (num:Int)] 3::Hr))))) (by simpa using p1) ?_;exact((e1.symm.append_right _).append_left nU).cons _
 refine gC<|gz<|gD<|gB<|gB<|gJ rfl ?_;refine gH sP rfl<|gA (gG ag rfl (.head _) rfl)<|gA (ig aa rfl)<|gA (iM (r:=((idx.length:Nat):Int)) rfl rfl (by simp) (by omega) (by omega)) ?_;generalize hKs:qe wl kids (.node () [] [] false 0 0 none full [])=ks at*;have TR:idx.length<ks.length:=by omega
 refine jo (H1:=Rx nb (mu tp (idx++[c]) wl nt pr ov (.slice mX l2 c2) f0) 115::(nU++uN)) (Hk:=Hh++(Rx hb [I (num:Int)] 3::Hr)) (fun v ni=>∃nX yQ,Own 84 1 ov ks.length ((oW (uL wl bs cb) idx.length (bump (idx++[c]) ks idx.length).2.2).map (Pt · 0)) nX/\oq (bump (idx++[c]) ks idx.length).2.1 (oW (uL wl bs cb) idx.length (bump (idx++[c]) ks idx.length).2.2) yQ/\ni=(Rx nb (mu tp (bump (idx++[c]) ks idx.length).1 wl nt pr ov (.slice mX l2 c2) f0) 115)::(nX++yQ)) ?_ (fun e0 mL=>?_) Tryd.call72 rfl rfl (fun w1 fa _=>?_) ?_
 ·have p1:=oN [[Rx nb (mu tp (idx++[c]) wl nt pr ov (.slice mX l2 c2) f0) 115],nU,uN,Hh,[Rx hb [I (num:Int)] 3],Hr] [0,1,2,3,4,5] [0,1,2,3,4,5] (by decide);simp
 ·rcases af.1 mL with rfl|mL
  ·rfl
  rcases aB.1 mL with mL|mL
  ·exact mJ.w e0 mL
  exact ow.w e0 mL
 ·refine(Tn w1 _ nb idx.length tp (idx++[c]) wl nt pr (.slice mX l2 c2) f0 ov ks (uL wl bs cb) nU uN TR (by simp) (by simp;omega) (by omega) mJ ow fa).mono fun e w' ⟨h1,nX,yQ,h2,h3,h4⟩=>⟨_,_,h1,fun e0 mL=>?_,h4,nX,yQ,h2,h3,rfl⟩
  rcases af.1 mL with rfl|mL
  ·rfl
  rcases aB.1 mL with mL|mL
  ·exact h2.w e0 mL
  exact h3.w e0 mL
 rintro v ni ⟨vP,Hk3,vi,uo,rfl⟩;have TQ:=TO (idx++[c]) ks idx.length;have pB:=TN (idx++[c]) ks idx.length TR;generalize hB:bump (idx++[c]) ks idx.length=B at*;obtain⟨TT,C1,C2,TU,AB,sO,Au⟩:=uo.As nZ
 have Bt:TT=cb:=by
  rw[xW _ TQ (by rw[aaf,rh];omega),if_neg (by omega),if_pos rfl,aaB (by rw[rh];exact hlen)] at TU;exact(bp TU).symm
 subst Bt;refine gC<|gD<|gB<|gF<|gC<|hO (H':=C1++(Rx hb [I (num:Int)] 3::(Rx nb (mu tp B.1 wl nt pr ov (.slice mX l2 c2) f0) 115::(vP++(Hh++(C2++Hr)))))) (fun w1 h1=>h1.perm ?_) ?_
 ·have p1:=oN [[Rx nb (mu tp B.1 wl nt pr ov (.slice mX l2 c2) f0) 115],vP,C1,C2,Hh,[Rx hb [I (num:Int)] 3],Hr] [0,1,2,3,4,5,6] [2,5,0,1,4,3,6] (by decide);refine List.Perm.trans (((sO.append_left vP).cons (Rx nb (mu tp B.1 wl nt pr ov (.slice mX l2 c2) f0) 115)).append_right (Hh++(Rx hb [I (num:Int)] 3::Hr))) ?_;simpa using p1
 refine go TT C1 _ _ AB (fun k' sI s7=>?_) (.of rfl);obtain⟨H2,NU,FG⟩:=Au k' sI s7;refine⟨_,HT.mk (by rw[cR,pB];exact vi) hh NU,?_⟩;have p1:=oN [sI,[Rx nb (mu tp B.1 wl nt pr ov (.slice mX l2 c2) f0) 115],vP,Hh,C2,Hr] [0,1,2,3,4,5] [1,2,3,0,4,5] (by decide);refine List.Perm.trans (l₂:=Rx nb (mu tp B.1 wl nt pr ov (.slice mX l2 c2) f0) 115::(vP++(Hh++((sI++C2)++Hr)))) (by simpa using p1) ?_;have p2:=(((FG.symm.append_right Hr).append_left Hh).append_left vP).cons (Rx nb (mu tp B.1 wl nt pr ov (.slice mX l2 c2) f0) 115);simpa using p2
theorem aaD {R:Ending->World->Prop} {w:World} {D:Nat->Prop} {nb hb num nc:Nat} {p full tp idx:List UInt8} {nt pr:Nat} {h0:Option Nat} {f0:List UInt8} {kids:List T0} {bs:List Nat} {kv:Value} {Hs Hk:SH} {c:UInt8}
  (hs:Own 84 1 kv kids.length (bs.map (Pt · 0)) Hs) (hh:HV h0 hv Hh) (hk:oq kids bs Hk) (su:p.length<=100000) (KO:full.length<=100000) (mU:Sub [(0,Pt nb 0),(1,S p),(2,Sx hb 1 1),(6,S full),(7,I (nc:Int)),(10,.int .u8 (c.toNat:Int))] fr) (AD:c=58\/c=42\/nt=3) (rl:wl=false)
  (go:∀bc,Sub [(0,Pt nb 0),(1,S p),(2,Sx hb 1 1),(6,S full)] bc->GC Tryd.prog ⟨57,Tryd.f57,R,w,D⟩ 377 NT bc (Rx nb (mu tp idx wl nt pr kv hv f0) 115::((Hs++(Hh++Hk))++(Rx hb [I (num:Int)] 3::Hr)))):
  GC Tryd.prog ⟨57,Tryd.f57,R,w,D⟩ 377 FC fr (Rx nb (mu tp idx wl nt pr kv hv f0) 115::((Hs++(Hh++Hk))++(Rx hb [I (num:Int)] 3::Hr))):=by
 refine gN mU ?_;clear mU;obtain⟨X,hX⟩:∃X,X=(Hh++Hk)++(Rx hb [I (num:Int)] 3::Hr):=⟨_,rfl⟩;refine hO (H':=Rx nb (mu tp idx wl nt pr kv hv f0) 115::(Hs++X)) (fun w1 h1=>by rw[hX,<-aw];exact h1) ?_;have rh:=hk.len;obtain⟨ad,cap,rfl⟩:=hs.slice;obtain⟨mX,l2,c2,rfl,pX⟩:=hh.slice;refine gz<|gz<|hY (fun bc H'=>Sub [(0,Pt nb 0),(1,S p),(2,Sx hb 1 1),(6,S full),(7,I (nc:Int)),(10,.int .u8 (c.toNat:Int)),(219,.bool false)] bc/\H'=(Rx nb (mu tp idx wl nt pr (.slice ad kids.length cap) (.slice mX l2 c2) f0) 115)::(Hs++X)) (fun vQ=>?_) ?_
 ·refine gD<|gB<|gA (iF rfl rfl)<|gB<|gZ 209 rfl (fun wz=>?_) (fun wz=>?_)
  ·refine gU<|gI (iF rfl rfl)<|gT<|gB<|gZ 213 rfl (fun zD=>?_) (fun zD=>?_)
   ·refine gU<|gI (gX rfl)<|gI (gQ sX rfl)<|gI (gG cf rfl (.head _) rfl)<|gI (iF rfl rfl)<|gT<|gC<|vQ _ _ ⟨?_,rfl⟩
    have e:(!decide ((nt:Int)=3))=false:=by
     rcases AD with rfl|rfl|rfl
     ·exact absurd wz (by decide)
     ·exact absurd zD (by decide)
     rfl
    rw[e];exact .of rfl
   refine gE ?_;refine gE ?_;refine gE ?_;refine gE ?_;refine gE ?_;refine hG ?_;refine gC ?_;exact vQ _ _ ⟨.of rfl,rfl⟩
  refine gE ?_;refine gE ?_;refine hG ?_;refine gB ?_;refine gE ?_;refine gE ?_;refine gE ?_;refine gE ?_;refine gE ?_;refine hG ?_;refine gC ?_;exact vQ _ _ ⟨.of rfl,rfl⟩
 rintro bc H' ⟨vR,rfl⟩;refine gN vR ?_;clear vR;refine iJ rfl<|gz<|gD<|gB<|gJ rfl<|gH uI rfl ?_;refine gA (gG bQ rfl (.head _) rfl)<|gC<|gV rfl (fun CS=>absurd CS (by rw[rl];decide)) (fun CS=>?_);refine gL<|hO (H':=(Rx nb (mu tp idx wl nt pr (.slice ad kids.length cap) (.slice mX l2 c2) f0) 115::((Hs++(Hh++Hk))++(Rx hb [I (num:Int)] 3::Hr)))) (fun w1 h1=>?_) (go _ (.of rfl));rw[aw];rw[hX] at h1;exact h1
theorem TV {R:Ending->World->Prop} {w:World} {D:Nat->Prop} {hb num:Nat} {full:List UInt8} {vp:SH} (qv:full.length<=100000) (g:Nat) (sl:Bool) (s:List Tok) (t:T0) (na:Option T0) (nk:Ok sl s) (oE:∀c∈lg s,c≠92) (mM:(lg s).length <=100000)
  (qh:t.kids.length<=90000) (rY:t.path.length<=100000) (tB:∀k∈t.kids,k.path.length<=100000) (ht:HT t cb vp) (ol:sF g t (lg s) full num=some na) (mU:Sub [(0,Pt cb 0),(1,S (lg s)),(2,Sx hb 1 1),(6,S full)] fr)
  (fin:∀t',na=some t'->∀nC w',HT t' cb nC->HF w D (nC++Hr) w'->R (.returned (.tuple #[])) w') (sj:na=none->∀e w',wP e->HF w D [] w'->R e w'):
  GC Tryd.prog ⟨57,Tryd.f57,R,w,D⟩ 377 NT fr (vp++(Rx hb [I (num:Int)] 3::Hr)):=by
 refine gN mU ?_;clear mU;refine gz<|gD<|gB<|gB<|gB<|gB<|ku (H1:=vp++[Rx hb [I (num:Int)] 3]) (Hk:=Hr) (fun v ni=>v=.tuple #[]/\∃t',na=some t'/\HT t' cb ni) (fun ni=>na=none) (by simp) (fun e0 mL=>?_) Tryd.call70 rfl rfl (fun w1 fa=>?_) ?_ (fun ni e w' h1 h2 h3=>sj h1 e w' h2 (h3.sub (ar _)))
 ·rcases aB.1 mL with mL|mL
  ·exact ht.w e0 mL
  rw[aj.1 mL]
 ·refine(TH w1 _ qv g sl s t cb vp [] na nk oE mM qh rY tB ht ol fa).mono fun e w' h=>?_
  rcases h with⟨t',nC,h1,h2,h3,h4⟩|⟨h1,h2,h3⟩
  ·rw[aS] at h4;exact⟨nC,h3.w,h4,.inl ⟨_,h2,rfl,t',h1,h3⟩⟩
  exact⟨[],by simp,h3,.inr ⟨h2,h1⟩⟩
 rintro v ni ⟨rfl,t',qQ,sq⟩;exact gC<|jD rfl fun w' ia=>fin t' qQ ni w' sq ia
theorem aaE {R:Ending->World->Prop} {w:World} {D:Nat->Prop} {nb hb num nc:Nat} {p full tp idx:List UInt8} {nt pr:Nat} {h0:Option Nat} {f0:List UInt8} {kids:List T0} {bs:List Nat} {kv:Value} {Hs Hk:SH} {c:UInt8}
  (hs:Own 84 1 kv kids.length (bs.map (Pt · 0)) Hs) (hh:HV h0 hv Hh) (hk:oq kids bs Hk) (su:p.length<=100000) (KO:full.length<=100000) (mU:Sub [(0,Pt nb 0),(1,S p),(2,Sx hb 1 1),(6,S full),(7,I (nc:Int)),(10,.int .u8 (c.toNat:Int))] fr) (AD:c=58\/c=42\/nt=3) (rl:wl=true) (FD:kids.length<=90000) (od:kids[kids.length-1]? =some k0) (NV:k0.path.length<=100000) (ui:(k0.path.length<=p.length/\p.take k0.path.length=k0.path/\k0.nt≠3/\(p.length<=k0.path.length\/p[k0.path.length]? =some 47)))
  (go:∀cb qE tT bc,HT k0.nL cb qE->(∀k' sI,HT k' cb sI->∃nC,HT (.node () tp idx wl nt pr h0 f0 (kids.set (kids.length-1) k')) nb nC/\(sI++tT).Perm (nC++Hr))->Sub [(0,Pt cb 0),(1,S p),(2,Sx hb 1 1),(6,S full),(7,I (nc:Int))] bc->GC Tryd.prog ⟨57,Tryd.f57,R,w,D⟩ 377 FB bc (qE++(Rx hb [I (num:Int)] 3::tT))):
  GC Tryd.prog ⟨57,Tryd.f57,R,w,D⟩ 377 FC fr (Rx nb (mu tp idx wl nt pr kv hv f0) 115::((Hs++(Hh++Hk))++(Rx hb [I (num:Int)] 3::Hr))):=by
 refine gN mU ?_;clear mU;obtain⟨X,hX⟩:∃X,X=(Hh++Hk)++(Rx hb [I (num:Int)] 3::Hr):=⟨_,rfl⟩;refine hO (H':=Rx nb (mu tp idx wl nt pr kv hv f0) 115::(Hs++X)) (fun w1 h1=>by rw[hX,<-aw];exact h1) ?_;have rh:=hk.len;obtain⟨ad,cap,rfl⟩:=hs.slice;obtain⟨mX,l2,c2,rfl,pX⟩:=hh.slice;refine gz<|gz<|hY (fun bc H'=>Sub [(0,Pt nb 0),(1,S p),(2,Sx hb 1 1),(6,S full),(7,I (nc:Int)),(10,.int .u8 (c.toNat:Int)),(219,.bool false)] bc/\H'=(Rx nb (mu tp idx wl nt pr (.slice ad kids.length cap) (.slice mX l2 c2) f0) 115)::(Hs++X)) (fun vQ=>?_) ?_
 ·refine gD<|gB<|gA (iF rfl rfl)<|gB<|gZ 209 rfl (fun wz=>?_) (fun wz=>?_)
  ·refine gU<|gI (iF rfl rfl)<|gT<|gB<|gZ 213 rfl (fun zD=>?_) (fun zD=>?_)
   ·refine gU<|gI (gX rfl)<|gI (gQ sX rfl)<|gI (gG cf rfl (.head _) rfl)<|gI (iF rfl rfl)<|gT<|gC<|vQ _ _ ⟨?_,rfl⟩
    have e:(!decide ((nt:Int)=3))=false:=by
     rcases AD with rfl|rfl|rfl
     ·exact absurd wz (by decide)
     ·exact absurd zD (by decide)
     rfl
    rw[e];exact .of rfl
   refine gE ?_;refine gE ?_;refine gE ?_;refine gE ?_;refine gE ?_;refine hG ?_;refine gC ?_;exact vQ _ _ ⟨.of rfl,rfl⟩
  refine gE ?_;refine gE ?_;refine hG ?_;refine gB ?_;refine gE ?_;refine gE ?_;refine gE ?_;refine gE ?_;refine gE ?_;refine hG ?_;refine gC ?_;exact vQ _ _ ⟨.of rfl,rfl⟩
 rintro bc H' ⟨vR,rfl⟩;refine gN vR ?_;clear vR;refine iJ rfl<|gz<|gD<|gB<|gJ rfl<|gH uI rfl ?_;refine gA (gG bQ rfl (.head _) rfl)<|gC<|gV rfl (fun CS=>?_) (fun CS=>absurd rl (by rw[CS];decide));refine gz ?_;have tB:=(ae.1 od).1;obtain⟨rb,xu,spare,e1,rfl⟩:=hs.at (i:=kids.length-1) tB;cases e1;obtain⟨cb,C1,C2,rF,AB,sO,Au⟩:=hk.As od
 cases AB with
 | @mk n4 qf rE pO pd ko qR ul _ Bo rP rQ Ks Kh Kk ks kh kk=>
 simp only[Tr.path,Tr.nt] at ui NV;refine iV mixed (by kernel_rfl)<|gK (gM rfl)<|gK (gX rfl)<|gK (gQ p5 rfl)<|gK (gG bj rfl (.head _) rfl)<|gK (gM rfl)<|gK (gX rfl)<|gK (gQ p5 rfl)<|gK (gG bj rfl (.head _) rfl)<|gK (iu az rfl)<|gK (iM (r:=((kids.length-1:Nat):Int)) rfl rfl (by omega) (by omega) (by omega))<|gK (ij (i:=kids.length-1) az bi rfl rfl tB)<|gK (gG bK rfl (.tail _ (.head _)) (by rw[n8,aH,aT,ak (by rw[aQ,rh];exact tB),aD,rF];rfl)) ?_;refine gK (iT rfl)<|iH<|gz<|hO (H':=Rx cb (mu n4 qf rE pO pd rP rQ qR) 115::((Ks++(Kh++Kk))++(Rx nb (mu tp idx wl nt pr (Sx rb kids.length cap) (.slice mX l2 c2) f0) 115::([Rx rb (bs.map (Pt · 0)++spare) 84]++(C2++(Hh++(Rx hb [I (num:Int)] 3::Hr))))))) (fun w1 h1=>h1.perm ?_) ?_
 ·rw[hX];have p1:=oN [[Rx nb (mu tp idx wl nt pr (Sx rb kids.length cap) (.slice mX l2 c2) f0) 115],[Rx rb (bs.map (Pt · 0)++spare) 84],[Rx cb (mu n4 qf rE pO pd rP rQ qR) 115],(Ks++(Kh++Kk)),C2,Hh,[Rx hb [I (num:Int)] 3],Hr] [0,1,2,3,4,5,6,7] [2,3,0,1,4,5,6,7] (by decide);refine List.Perm.trans (l₂:=Rx nb (mu tp idx wl nt pr (Sx rb kids.length cap) (.slice mX l2 c2) f0) 115::([Rx rb (bs.map (Pt · 0)++spare) 84]++(((Rx cb (mu n4 qf rE pO pd rP rQ qR) 115::(Ks++(Kh++Kk)))++C2)++(Hh++(Rx hb [I (num:Int)] 3::Hr))))) ?_ (by simpa using p1);have p3:=oN [[Rx nb (mu tp idx wl nt pr (Sx rb kids.length cap) (.slice mX l2 c2) f0) 115],[Rx rb (bs.map (Pt · 0)++spare) 84],Hh,Hk,[Rx hb [I (num:Int)] 3],Hr] [0,1,2,3,4,5] [0,1,3,2,4,5] (by decide);refine List.Perm.trans (l₂:=Rx nb (mu tp idx wl nt pr (Sx rb kids.length cap) (.slice mX l2 c2) f0) 115::([Rx rb (bs.map (Pt · 0)++spare) 84]++(Hk++(Hh++(Rx hb [I (num:Int)] 3::Hr))))) (by simpa using p3) ?_;exact((sO.append_right _).append_left _).cons _
 refine gD<|gB<|gJ rfl<|gH tz rfl<|gA (gG da rfl (.head _) rfl)<|gA (jj rfl rfl) ?_;rw[Bn];refine gJ rfl<|gH tz rfl<|gO cy rfl rfl rfl (.z) rfl rfl<|gC<|gz<|gz<|hO (H':=Rx cb (mu n4 qf rE pO (pd+1) rP rQ qR) 115::((Ks++(Kh++Kk))++(Rx nb (mu tp idx wl nt pr (Sx rb kids.length cap) (.slice mX l2 c2) f0) 115::([Rx rb (bs.map (Pt · 0)++spare) 84]++(C2++(Hh++(Rx hb [I (num:Int)] 3::Hr))))))) (fun w1 h1=>?_) ?_
 ·exact h1
 refine hY (fun bc H'=>Sub [(0,Pt cb 0),(1,S p),(2,Sx hb 1 1),(6,S full),(7,I (nc:Int)),(10,.int .u8 (c.toNat:Int)),(316,.bool true)] bc/\H'=(Rx cb (mu n4 qf rE pO (pd+1) rP rQ qR) 115)::((Ks++(Kh++Kk))++(Rx nb (mu tp idx wl nt pr (Sx rb kids.length cap) (.slice mX l2 c2) f0) 115::([Rx rb (bs.map (Pt · 0)++spare) 84]++(C2++(Hh++(Rx hb [I (num:Int)] 3::Hr))))))) (fun AE=>?_) ?_
 ·refine iV mixed (by kernel_rfl)<|gK (gM rfl)<|gK (ig aa rfl)<|gK (gM rfl)<|gK (gX rfl)<|gK (gQ pU rfl)<|gK (gG ag rfl (.head _) rfl)<|gK (ig aa rfl)<|gK (jJ rfl rfl)<|gK (gM rfl)<|jr 276 rfl (fun CU=>?_) (fun CU=>?_)
  ·refine gY (gM rfl)<|gY (gX rfl)<|gY (gQ pU rfl)<|gY (gG ag rfl (.head _) rfl)<|gY (gM rfl)<|gY (gM rfl)<|gY (gX rfl)<|gY (gQ pU rfl)<|gY (gG ag rfl (.head _) rfl)<|gY (ig aa rfl)<|gY (jm (j:=n4.length) aa rfl rfl (by have:=of_decide_eq_true CU;omega))<|gY (iE rfl rfl)<|gK (iL rfl rfl)<|gK (gM rfl)<|jr 290 rfl (fun FH=>?_) (fun FH=>?_)
   ·refine gY (gM rfl)<|gY (gX rfl)<|gY (gQ sX rfl)<|gY (gG cf rfl (.head _) rfl)<|gY (iF rfl rfl)<|gK (iL rfl rfl)<|gK (gM rfl)<|jr 297 rfl (fun FI=>?_) (fun FI=>?_)
    ·refine gY (gM rfl)<|gY (gX rfl)<|gY (gQ pU rfl)<|gY (gG ag rfl (.head _) rfl)<|gY (ig aa rfl)<|gY (gM rfl)<|gY (ig aa rfl)<|gY (jJ rfl rfl)<|gY (gM rfl)<|jr 306 rfl (fun D7=>?_) (fun D7=>?_)
     ·refine gP ?_;refine gP ?_;refine gP ?_;refine gP ?_;refine gP ?_;refine gP ?_;refine gP ?_;refine gP ?_;refine gY (iL rfl rfl) ?_;refine gK (iL rfl rfl) ?_;refine iH ?_;exact AE _ _ ⟨.of rfl,rfl⟩
     refine gY (gM rfl)<|gY (gM rfl)<|gY (gX rfl)<|gY (gQ pU rfl)<|gY (gG ag rfl (.head _) rfl)<|gY (ig aa rfl) ?_;obtain⟨y,hy⟩:∃y,p[n4.length]? =some y:=⟨_,ao (by have:=of_decide_eq_false D7;omega)⟩;refine gY (iG (i:=n4.length) (b:=y) aa rfl rfl hy)<|gY (ie rfl rfl)<|gY (iD rfl rfl)<|gK (iL rfl rfl)<|iH ?_
     have e:decide ((y.toNat:Int)=47)=true:=by
      have h1:=of_decide_eq_false D7;rcases ui.2.2.2 with h|h
      ·omega
      rw[hy] at h;rw[bp h];rfl
     refine AE _ _ ⟨?_,rfl⟩;rw[e];exact .of rfl
    refine gP ?_;refine gP ?_;refine gP ?_;refine gP ?_;refine gP ?_;refine gP ?_;refine gP ?_;refine gP ?_;refine gP ?_;refine iI rfl rfl rfl rfl rfl ?_;refine iI rfl rfl rfl rfl rfl ?_;refine iI rfl rfl rfl rfl rfl ?_;refine iI rfl rfl rfl rfl rfl ?_;refine iI rfl rfl rfl rfl rfl ?_;refine iI rfl rfl rfl rfl rfl ?_;refine iI rfl rfl rfl rfl rfl ?_;refine iI rfl rfl rfl rfl rfl ?_;refine gP ?_;refine gK (iD rfl rfl) ?_;refine iH ?_;exact absurd FI (by have:=ui.2.2.1;simp;omega)
   refine gP ?_;refine gP ?_;refine gP ?_;refine gP ?_;refine gP ?_;refine gK (iD rfl rfl) ?_;refine gK (gM rfl) ?_;refine gP ?_;refine gP ?_;refine gP ?_;refine gP ?_;refine gP ?_;refine gP ?_;refine gP ?_;refine gP ?_;refine gP ?_;refine iI rfl rfl rfl rfl rfl ?_;refine iI rfl rfl rfl rfl rfl ?_;refine iI rfl rfl rfl rfl rfl ?_;refine iI rfl rfl rfl rfl rfl ?_;refine iI rfl rfl rfl rfl rfl ?_;refine iI rfl rfl rfl rfl rfl ?_;refine iI rfl rfl rfl rfl rfl ?_;refine iI rfl rfl rfl rfl rfl ?_;refine gP ?_;refine gK (iD rfl rfl) ?_;refine iH ?_;exact absurd ui.2.1.symm (of_decide_eq_false FH)
  refine gP ?_;refine gP ?_;refine gP ?_;refine gP ?_;refine gP ?_;refine gP ?_;refine gP ?_;refine gP ?_;refine gP ?_;refine gP ?_;refine gP ?_;refine gP ?_;refine gK (iD rfl rfl) ?_;refine gK (gM rfl) ?_;refine gP ?_;refine gP ?_;refine gP ?_;refine gP ?_;refine gP ?_;refine gK (iD rfl rfl) ?_;refine gK (gM rfl) ?_;refine gP ?_;refine gP ?_;refine gP ?_;refine gP ?_;refine gP ?_;refine gP ?_;refine gP ?_;refine gP ?_;refine gP ?_;refine iI rfl rfl rfl rfl rfl ?_;refine iI rfl rfl rfl rfl rfl ?_;refine iI rfl rfl rfl rfl rfl ?_;refine iI rfl rfl rfl rfl rfl ?_;refine iI rfl rfl rfl rfl rfl ?_;refine iI rfl rfl rfl rfl rfl ?_;refine iI rfl rfl rfl rfl rfl ?_;refine iI rfl rfl rfl rfl rfl ?_;refine gP ?_;refine gK (iD rfl rfl) ?_;refine iH ?_;exact absurd CU (by have:=ui.1;simp;omega)
 rintro bc H' ⟨CV,rfl⟩;refine gN CV ?_;clear CV;refine ji rfl<|ir rfl<|jx<|hO (H':=(Rx cb (mu n4 qf rE pO (pd+1) rP rQ qR) 115::(Ks++(Kh++Kk)))++(Rx hb [I (num:Int)] 3::(Rx nb (mu tp idx wl nt pr (Sx rb kids.length cap) (.slice mX l2 c2) f0) 115::([Rx rb (bs.map (Pt · 0)++spare) 84]++(C2++(Hh++Hr)))))) (fun w1 h1=>h1.perm ?_) ?_
 ·have p1:=oN [[Rx cb (mu n4 qf rE pO (pd+1) rP rQ qR) 115],(Ks++(Kh++Kk)),[Rx nb (mu tp idx wl nt pr (Sx rb kids.length cap) (.slice mX l2 c2) f0) 115],[Rx rb (bs.map (Pt · 0)++spare) 84],C2,Hh,[Rx hb [I (num:Int)] 3],Hr] [0,1,2,3,4,5,6,7] [0,1,6,2,3,4,5,7] (by decide);simpa using p1
 refine go cb _ _ _ (HT.mk (pr:=pd+1) ks kh kk) (fun k' sI s7=>?_) (.of rfl);obtain⟨H2,NU,FG⟩:=Au k' sI s7;refine⟨_,HT.mk (by rw[cR];exact hs) hh NU,?_⟩;have p1:=oN [sI,[Rx nb (mu tp idx wl nt pr (Sx rb kids.length cap) (.slice mX l2 c2) f0) 115],[Rx rb (bs.map (Pt · 0)++spare) 84],C2,Hh,Hr] [0,1,2,3,4,5] [1,2,4,0,3,5] (by decide);refine List.Perm.trans (l₂:=Rx nb (mu tp idx wl nt pr (Sx rb kids.length cap) (.slice mX l2 c2) f0) 115::([Rx rb (bs.map (Pt · 0)++spare) 84]++(Hh++((sI++C2)++Hr)))) (by simpa using p1) ?_;have p2:=(((FG.symm.append_right Hr).append_left Hh).append_left [Rx rb (bs.map (Pt · 0)++spare) 84]).cons (Rx nb (mu tp idx wl nt pr (Sx rb kids.length cap) (.slice mX l2 c2) f0) 115);simpa using p2
theorem aaF {full p a:List UInt8} {r:Int} (hp:p<:+full) (ha:a<+:p) (h:DZ full a r):∃i:Nat,r=i/\i<=full.length:=by
 rcases h with⟨rfl,h⟩|⟨i,rfl,h,_,_⟩
 ·obtain⟨u,rfl⟩:=hp;obtain⟨v,rfl⟩:=ha;refine absurd ?_ (h u.length (by simp));rw[<-aw,cE (by simp),bJ (by simp)];simp
 exact⟨i,rfl,by omega⟩
theorem aaG {R:Ending->World->Prop} {w:World} {D:Nat->Prop} {nb hb num nc:Nat} {p full tp idx:List UInt8} {nt pr:Nat} {h0:Option Nat} {f0:List UInt8} {kids:List T0} {bs:List Nat} {kv:Value} {Hs Hk:SH} {c:UInt8}
  (hs:Own 84 1 kv kids.length (bs.map (Pt · 0)) Hs) (hh:HV h0 hv Hh) (hk:oq kids bs Hk) (mM:p.length<=100000) (qv:full.length<=100000) (mU:Sub [(0,Pt nb 0),(1,S p),(2,Sx hb 1 1),(6,S full),(7,I (nc:Int)),(10,.int .u8 (c.toNat:Int))] fr) (AD:c=58\/c=42\/nt=3) (rl:wl=true) (FD:kids.length<=90000) (od:kids[kids.length-1]? =some k0) (NV:k0.path.length<=100000) (ui:¬(k0.path.length<=p.length/\p.take k0.path.length=k0.path/\k0.nt≠3/\(p.length<=k0.path.length\/p[k0.path.length]? =some 47))) (sQ:p<:+full)
  (sj:∀e w',wP e->HF w D [] w'->R e w'):
  GC Tryd.prog ⟨57,Tryd.f57,R,w,D⟩ 377 FC fr (Rx nb (mu tp idx wl nt pr kv hv f0) 115::((Hs++(Hh++Hk))++(Rx hb [I (num:Int)] 3::Hr))):=by
 refine gN mU ?_;clear mU;obtain⟨X,hX⟩:∃X,X=(Hh++Hk)++(Rx hb [I (num:Int)] 3::Hr):=⟨_,rfl⟩;refine hO (H':=Rx nb (mu tp idx wl nt pr kv hv f0) 115::(Hs++X)) (fun w1 h1=>by rw[hX,<-aw];exact h1) ?_;have rh:=hk.len;obtain⟨ad,cap,rfl⟩:=hs.slice;obtain⟨mX,l2,c2,rfl,pX⟩:=hh.slice;refine gz<|gz<|hY (fun bc H'=>Sub [(0,Pt nb 0),(1,S p),(2,Sx hb 1 1),(6,S full),(7,I (nc:Int)),(10,.int .u8 (c.toNat:Int)),(219,.bool false)] bc/\H'=(Rx nb (mu tp idx wl nt pr (.slice ad kids.length cap) (.slice mX l2 c2) f0) 115)::(Hs++X)) (fun vQ=>?_) ?_
 ·refine gD<|gB<|gA (iF rfl rfl)<|gB<|gZ 209 rfl (fun wz=>?_) (fun wz=>?_)
  ·refine gU<|gI (iF rfl rfl)<|gT<|gB<|gZ 213 rfl (fun zD=>?_) (fun zD=>?_)
   ·refine gU<|gI (gX rfl)<|gI (gQ sX rfl)<|gI (gG cf rfl (.head _) rfl)<|gI (iF rfl rfl)<|gT<|gC<|vQ _ _ ⟨?_,rfl⟩
    have e:(!decide ((nt:Int)=3))=false:=by
     rcases AD with rfl|rfl|rfl
     ·exact absurd wz (by decide)
     ·exact absurd zD (by decide)
     rfl
    rw[e];exact .of rfl
   refine gE ?_;refine gE ?_;refine gE ?_;refine gE ?_;refine gE ?_;refine hG ?_;refine gC ?_;exact vQ _ _ ⟨.of rfl,rfl⟩
  refine gE ?_;refine gE ?_;refine hG ?_;refine gB ?_;refine gE ?_;refine gE ?_;refine gE ?_;refine gE ?_;refine gE ?_;refine hG ?_;refine gC ?_;exact vQ _ _ ⟨.of rfl,rfl⟩
 rintro bc H' ⟨vR,rfl⟩;refine gN vR ?_;clear vR;refine iJ rfl<|gz<|gD<|gB<|gJ rfl<|gH uI rfl ?_;refine gA (gG bQ rfl (.head _) rfl)<|gC<|gV rfl (fun CS=>?_) (fun CS=>absurd rl (by rw[CS];decide));refine gz ?_;have tB:=(ae.1 od).1;obtain⟨rb,xu,spare,e1,rfl⟩:=hs.at (i:=kids.length-1) tB;cases e1;obtain⟨cb,C1,C2,rF,AB,sO,Au⟩:=hk.As od
 cases AB with
 | @mk n4 qf rE pO pd ko qR ul _ Bo rP rQ Ks Kh Kk ks kh kk=>
 simp only[Tr.path,Tr.nt] at ui NV;refine iV mixed (by kernel_rfl)<|gK (gM rfl)<|gK (gX rfl)<|gK (gQ p5 rfl)<|gK (gG bj rfl (.head _) rfl)<|gK (gM rfl)<|gK (gX rfl)<|gK (gQ p5 rfl)<|gK (gG bj rfl (.head _) rfl)<|gK (iu az rfl)<|gK (iM (r:=((kids.length-1:Nat):Int)) rfl rfl (by omega) (by omega) (by omega))<|gK (ij (i:=kids.length-1) az bi rfl rfl tB)<|gK (gG bK rfl (.tail _ (.head _)) (by rw[n8,aH,aT,ak (by rw[aQ,rh];exact tB),aD,rF];rfl)) ?_;refine gK (iT rfl)<|iH<|gz<|hO (H':=Rx cb (mu n4 qf rE pO pd rP rQ qR) 115::((Ks++(Kh++Kk))++(Rx nb (mu tp idx wl nt pr (Sx rb kids.length cap) (.slice mX l2 c2) f0) 115::([Rx rb (bs.map (Pt · 0)++spare) 84]++(C2++(Hh++(Rx hb [I (num:Int)] 3::Hr))))))) (fun w1 h1=>h1.perm ?_) ?_
 ·rw[hX];have p1:=oN [[Rx nb (mu tp idx wl nt pr (Sx rb kids.length cap) (.slice mX l2 c2) f0) 115],[Rx rb (bs.map (Pt · 0)++spare) 84],[Rx cb (mu n4 qf rE pO pd rP rQ qR) 115],(Ks++(Kh++Kk)),C2,Hh,[Rx hb [I (num:Int)] 3],Hr] [0,1,2,3,4,5,6,7] [2,3,0,1,4,5,6,7] (by decide);refine List.Perm.trans (l₂:=Rx nb (mu tp idx wl nt pr (Sx rb kids.length cap) (.slice mX l2 c2) f0) 115::([Rx rb (bs.map (Pt · 0)++spare) 84]++(((Rx cb (mu n4 qf rE pO pd rP rQ qR) 115::(Ks++(Kh++Kk)))++C2)++(Hh++(Rx hb [I (num:Int)] 3::Hr))))) ?_ (by simpa using p1);have p3:=oN [[Rx nb (mu tp idx wl nt pr (Sx rb kids.length cap) (.slice mX l2 c2) f0) 115],[Rx rb (bs.map (Pt · 0)++spare) 84],Hh,Hk,[Rx hb [I (num:Int)] 3],Hr] [0,1,2,3,4,5] [0,1,3,2,4,5] (by decide);refine List.Perm.trans (l₂:=Rx nb (mu tp idx wl nt pr (Sx rb kids.length cap) (.slice mX l2 c2) f0) 115::([Rx rb (bs.map (Pt · 0)++spare) 84]++(Hk++(Hh++(Rx hb [I (num:Int)] 3::Hr))))) (by simpa using p3) ?_;exact((sO.append_right _).append_left _).cons _
 refine gD<|gB<|gJ rfl<|gH tz rfl<|gA (gG da rfl (.head _) rfl)<|gA (jj rfl rfl) ?_;rw[Bn];refine gJ rfl<|gH tz rfl<|gO cy rfl rfl rfl (.z) rfl rfl<|gC<|gz<|gz<|hO (H':=Rx cb (mu n4 qf rE pO (pd+1) rP rQ qR) 115::((Ks++(Kh++Kk))++(Rx nb (mu tp idx wl nt pr (Sx rb kids.length cap) (.slice mX l2 c2) f0) 115::([Rx rb (bs.map (Pt · 0)++spare) 84]++(C2++(Hh++(Rx hb [I (num:Int)] 3::Hr))))))) (fun w1 h1=>?_) ?_
 ·exact h1
 refine hY (fun bc H'=>Sub [(0,Pt cb 0),(1,S p),(2,Sx hb 1 1),(6,S full),(7,I (nc:Int)),(10,.int .u8 (c.toNat:Int)),(316,.bool false)] bc/\H'=(Rx cb (mu n4 qf rE pO (pd+1) rP rQ qR) 115)::((Ks++(Kh++Kk))++(Rx nb (mu tp idx wl nt pr (Sx rb kids.length cap) (.slice mX l2 c2) f0) 115::([Rx rb (bs.map (Pt · 0)++spare) 84]++(C2++(Hh++(Rx hb [I (num:Int)] 3::Hr))))))) (fun AE=>?_) ?_
 ·refine iV mixed (by kernel_rfl)<|gK (gM rfl)<|gK (ig aa rfl)<|gK (gM rfl)<|gK (gX rfl)<|gK (gQ pU rfl)<|gK (gG ag rfl (.head _) rfl)<|gK (ig aa rfl)<|gK (jJ rfl rfl)<|gK (gM rfl)<|jr 276 rfl (fun CU=>?_) (fun CU=>?_)
  ·refine gY (gM rfl)<|gY (gX rfl)<|gY (gQ pU rfl)<|gY (gG ag rfl (.head _) rfl)<|gY (gM rfl)<|gY (gM rfl)<|gY (gX rfl)<|gY (gQ pU rfl)<|gY (gG ag rfl (.head _) rfl)<|gY (ig aa rfl)<|gY (jm (j:=n4.length) aa rfl rfl (by have:=of_decide_eq_true CU;omega))<|gY (iE rfl rfl)<|gK (iL rfl rfl)<|gK (gM rfl)<|jr 290 rfl (fun FH=>?_) (fun FH=>?_)
   ·refine gY (gM rfl)<|gY (gX rfl)<|gY (gQ sX rfl)<|gY (gG cf rfl (.head _) rfl)<|gY (iF rfl rfl)<|gK (iL rfl rfl)<|gK (gM rfl)<|jr 297 rfl (fun FI=>?_) (fun FI=>?_)
    ·refine gY (gM rfl)<|gY (gX rfl)<|gY (gQ pU rfl)<|gY (gG ag rfl (.head _) rfl)<|gY (ig aa rfl)<|gY (gM rfl)<|gY (ig aa rfl)<|gY (jJ rfl rfl)<|gY (gM rfl)<|jr 306 rfl (fun D7=>?_) (fun D7=>?_)
     ·refine gP ?_;refine gP ?_;refine gP ?_;refine gP ?_;refine gP ?_;refine gP ?_;refine gP ?_;refine gP ?_;refine gY (iL rfl rfl) ?_;refine gK (iL rfl rfl) ?_;refine iH ?_;exact absurd ⟨by have:=of_decide_eq_true CU;omega,(of_decide_eq_true FH).symm,by have:=FI;simp at this;omega,.inl (by have:=of_decide_eq_true D7;omega)⟩ ui
     refine gY (gM rfl)<|gY (gM rfl)<|gY (gX rfl)<|gY (gQ pU rfl)<|gY (gG ag rfl (.head _) rfl)<|gY (ig aa rfl) ?_;obtain⟨y,hy⟩:∃y,p[n4.length]? =some y:=⟨_,ao (by have:=of_decide_eq_false D7;omega)⟩;refine gY (iG (i:=n4.length) (b:=y) aa rfl rfl hy)<|gY (ie rfl rfl)<|gY (iD rfl rfl)<|gK (iL rfl rfl)<|iH ?_
     have e:decide ((y.toNat:Int)=47)=false:=by
      refine decide_eq_false fun e=>ui ⟨by have:=of_decide_eq_true CU;omega,(of_decide_eq_true FH).symm,?_,.inr (by rw[hy,Av e])⟩
      have:=FI;simp at this;omega
     refine AE _ _ ⟨?_,rfl⟩;rw[e];exact .of rfl
    refine gP ?_;refine gP ?_;refine gP ?_;refine gP ?_;refine gP ?_;refine gP ?_;refine gP ?_;refine gP ?_;refine gP ?_;refine iI rfl rfl rfl rfl rfl ?_;refine iI rfl rfl rfl rfl rfl ?_;refine iI rfl rfl rfl rfl rfl ?_;refine iI rfl rfl rfl rfl rfl ?_;refine iI rfl rfl rfl rfl rfl ?_;refine iI rfl rfl rfl rfl rfl ?_;refine iI rfl rfl rfl rfl rfl ?_;refine iI rfl rfl rfl rfl rfl ?_;refine gP ?_;refine gK (iD rfl rfl) ?_;refine iH ?_;exact AE _ _ ⟨.of rfl,rfl⟩
   refine gP ?_;refine gP ?_;refine gP ?_;refine gP ?_;refine gP ?_;refine gK (iD rfl rfl) ?_;refine gK (gM rfl) ?_;refine gP ?_;refine gP ?_;refine gP ?_;refine gP ?_;refine gP ?_;refine gP ?_;refine gP ?_;refine gP ?_;refine gP ?_;refine iI rfl rfl rfl rfl rfl ?_;refine iI rfl rfl rfl rfl rfl ?_;refine iI rfl rfl rfl rfl rfl ?_;refine iI rfl rfl rfl rfl rfl ?_;refine iI rfl rfl rfl rfl rfl ?_;refine iI rfl rfl rfl rfl rfl ?_;refine iI rfl rfl rfl rfl rfl ?_;refine iI rfl rfl rfl rfl rfl ?_;refine gP ?_;refine gK (iD rfl rfl) ?_;refine iH ?_;exact AE _ _ ⟨.of rfl,rfl⟩
  refine gP ?_;refine gP ?_;refine gP ?_;refine gP ?_;refine gP ?_;refine gP ?_;refine gP ?_;refine gP ?_;refine gP ?_;refine gP ?_;refine gP ?_;refine gP ?_;refine gK (iD rfl rfl) ?_;refine gK (gM rfl) ?_;refine gP ?_;refine gP ?_;refine gP ?_;refine gP ?_;refine gP ?_;refine gK (iD rfl rfl) ?_;refine gK (gM rfl) ?_;refine gP ?_;refine gP ?_;refine gP ?_;refine gP ?_;refine gP ?_;refine gP ?_;refine gP ?_;refine gP ?_;refine gP ?_;refine iI rfl rfl rfl rfl rfl ?_;refine iI rfl rfl rfl rfl rfl ?_;refine iI rfl rfl rfl rfl rfl ?_;refine iI rfl rfl rfl rfl rfl ?_;refine iI rfl rfl rfl rfl rfl ?_;refine iI rfl rfl rfl rfl rfl ?_;refine iI rfl rfl rfl rfl rfl ?_;refine iI rfl rfl rfl rfl rfl ?_;refine gP ?_;refine gK (iD rfl rfl) ?_;refine iH ?_;exact AE _ _ ⟨.of rfl,rfl⟩
 rintro bc H' ⟨CV,rfl⟩;refine gN CV ?_;clear CV;refine iJ rfl<|gL<|gz<|gD<|gB<|gF<|gC<|gz<|gz<|gD<|gB<|gJ rfl<|gH sX rfl<|gA (gG cf rfl (.head _) rfl)<|gA (iF rfl rfl)<|gC<|hY (fun bc H'=>∃a,a<+:p/\Sub [(0,Pt cb 0),(6,S full),(14,S a)] bc/\H'=(Rx cb (mu n4 qf rE pO (pd+1) rP rQ qR) 115)::((Ks++(Kh++Kk))++(Rx nb (mu tp idx wl nt pr (Sx rb kids.length cap) (.slice mX l2 c2) f0) 115::([Rx rb (bs.map (Pt · 0)++spare) 84]++(C2++(Hh++(Rx hb [I (num:Int)] 3::Hr))))))) (fun TW=>?_) ?_
 ·refine gV rfl (fun aaH=>?_) (fun aaH=>?_)
  ·refine gD<|gB<|iP (fun v H2=>∃a b t,a<+:p/\v=.tuple #[S a,S b,.bool t]/\H2=(Rx cb (mu n4 qf rE pO (pd+1) rP rQ qR) 115)::((Ks++(Kh++Kk))++(Rx nb (mu tp idx wl nt pr (Sx rb kids.length cap) (.slice mX l2 c2) f0) 115::([Rx rb (bs.map (Pt · 0)++spare) 84]++(C2++(Hh++(Rx hb [I (num:Int)] 3::Hr))))))) Tryd.call74 rfl rfl (fun w1 fa=>(Te w1 p [47] (by omega) (by simp)).mono fun e w' ⟨a,b,t,h1,h2,h3⟩=>⟨_,_,h2,fa.o9 h3 (fun e he=>by cases he),a,b,t,h1,rfl,rfl⟩) ?_;rintro v H2 ⟨a,bb,tt,q4,rfl,rfl⟩;exact gB<|gA (iz rfl rfl)<|gA (iz rfl rfl)<|gA (iz rfl rfl)<|gF<|gC<|TW _ _ ⟨a,q4,.of rfl,rfl⟩
  exact gL<|TW _ _ ⟨p,fo _,.of rfl,rfl⟩
 rintro bc H' ⟨a,q4,TX,rfl⟩;refine gN TX ?_;clear TX;have uq:=q4.length_le;have ajl:=sQ.length_le;refine gz ?_;obtain⟨r,hr⟩:=ZN full a;obtain⟨ri,rfl,hri⟩:=aaF sQ q4 hr;refine iV mixed (by kernel_rfl) ?_;refine gK (gM rfl) ?_;refine gK (gM rfl) ?_;refine gK (gM rfl) ?_;refine j6 (v:=I (ri:Int)) Tryd.call75 rfl rfl (fun w1 fa=>(Ny w1 full a (by omega) (by omega)).mono fun e w' ⟨r2,h1,h2,h3⟩=>⟨by rw[h2,ZM h1 hr],h3⟩) ?_;refine gK (jm (j:=ri) aa rfl rfl hri) ?_;refine gK (gM rfl) ?_;refine gK (gX rfl) ?_;refine gK (gQ pU rfl) ?_;refine gK (gG ag rfl (.head _) rfl) ?_;refine gK (iR rfl rfl (by simp;omega)) ?_;refine gK (iT rfl) ?_;refine iH ?_;refine gD ?_;refine gB ?_;refine gA (iR rfl rfl (by simp;omega)) ?_;refine gA (iR rfl rfl (by simp;omega)) ?_;refine gB ?_;refine gA (iR rfl rfl (by simp;omega)) ?_;refine gA (iR rfl rfl (by simp;omega)) ?_;refine gB ?_;refine gJ rfl ?_;refine gH pU rfl ?_;refine gA (gG ag rfl (.head _) rfl) ?_;refine gA (iR rfl rfl (by simp;omega)) ?_;refine gA (iR rfl rfl (by simp;omega)) ?_;refine gB ?_;refine gA (iR rfl rfl (by simp;omega)) ?_;refine gA (iR rfl rfl (by simp;omega)) ?_;refine gA (kq aa rfl) ?_;refine kp rfl fun w' ia=>sj _ _ ⟨_,_,rfl⟩ (ia.sub (ar _))
end Go.Proofs
