/- Lemmas of the walk and plain facts (JgO6 .. JeE8). -/
import Derived.Test.YtmneeannkgnbpaaDoorL1
import Derived.Test.YtmneeannkgnbpaaDoorL2
import Derived.Test.YtmneeannkgnbpaaDoorP30
import Derived.Test.YtmneeannkgnbpaaDoorP01
import Derived.Test.YtmneeannkgnbpaaDoorP27
import Derived.Test.YtmneeannkgnbpaaDoorP28
import Derived.Test.YtmneeannkgnbpaaDoorP17
import Derived.Test.YtmneeannkgnbpaaDoorP24
set_option maxRecDepth 20000
namespace Go.Proofs
open Go Bw Gt
variable {sv:Value}
def MU (w:World) (sv:Value) (l:List Tk):Prop:=∃ad cp,sv=.slice ad l.length cp/\∀(j:Nat) t,l[j]? =some t->∃b o,ad=some ⟨b,o,none⟩/\∀(q:Nat) v,(pu t)[q]? =some v->w.cell? ⟨b,o+j*3+q,none⟩=some v
theorem _root_.Bw.Own.mY {w0 w:World} {D:Nat->Prop} {H Hs:SH} {l:List Tk} (ho:Own 78 3 sv l.length (qd l) Hs) (hw:HF w0 D H w) (mU:∀x∈Hs,x∈H):MU w sv l:=by
 generalize hn:l.length=n at ho;generalize hx:qd l=xs at ho
 cases ho with
 |nil=>exact⟨none,0,by rw[hn],fun j x hj=>by have:=(ae.1 hj).1;omega⟩
 | @row b n cap xs spare h1 h2 h3=>
  subst hx;refine⟨some ⟨b,0,none⟩,cap,by rw[hn],fun j t hj=>⟨b,0,rfl,fun q v hv=>?_⟩⟩;have h4:=G7 hj spare;have hq:q<3:=(ae.1 hv).1;have h5:(((qd l++spare).drop (0+j*3)).take 3)[q]? =some v:=by rw[h4];exact hv
  rw[bP hq,bL] at h5;exact oQ hw (mU _ (.head _)) (by rw[n8];exact h5)
theorem yB (w:World) (l:List Tk) (sv:Value) (pe:MU w sv l) (AP:l.length<=1000000) (path:List UInt8) (mM:path.length<=1000000):Calls Tryd.prog 25 #[sv,S path] w fun e w'=>e=.returned (.bool (dec (JT l path)))/\HF w (fun _=>False) [] w':=by
 refine enter (fun _=>False) [] Tryd.func25 rfl Tryd.ntmps25 rfl rfl (HF.start w _) fun c hc=>?_
 subst hc;obtain⟨ad,cp,rfl,hc⟩:=pe;refine gz<|gD<|gF<|gC<|gz<|gD<|gF<|gC<|gz<|gz<|gD<|gB<|gA (iu aV rfl)<|gB<|gC<|gW ?_
 refine iC (fun N bc H'=>∃(j i:Nat),j+N=l.length/\i<=path.length/\(JT l path<->DI path (l.drop j) i)/\Sub [(1,S path),(5,I (i:Nat)),(9,.slice ad l.length cp),(10,I (l.length:Nat)),(11,I (j:Nat))] bc/\H'=[]) l.length
  ⟨0,0,by omega,by omega,gy,.of rfl,rfl⟩ ?_
 rintro N bc H' ⟨j,i,hj,oO,n9,mJ,rfl⟩ ih;refine gN mJ ?_;clear mJ;refine gz<|gD<|gA (ik rfl rfl)<|gC<|gz<|gS rfl (fun vj=>?_) (fun vj=>?_)
 ·refine gL<|gz<|gW<|gz ?_;have oC:j<l.length:=by omega
  obtain⟨t,ht⟩:=gx oC;obtain⟨b,o,rfl,oV⟩:=hc j t ht;have nH:=drop_cons ht;rw[nH] at n9;unfold DI at n9;refine gD<|gA (ij (i:=j) aV bA rfl rfl oC)<|gA (ju (cs:=pu t) eI bA rfl oV rfl id)<|iK ej rfl rfl (fun pb zy=>?_);refine iO (cs:=pu t) bA rfl rfl (Kc t) .z rfl<|gC<|gz<|gz<|gD<|gB<|gB<|gA (ig aa rfl)<|gA (ie rfl rfl)<|gC<|gS rfl (fun yG=>?_) (fun yG=>?_)
  ·refine gz<|gD<|gF<|gC<|ic rfl rfl fun w' ia=>⟨?_,ia.sub (ar _)⟩
   exact rB<|pD (n9.2 (.inl (by omega)))
  refine gL<|gz<|gz ?_;have RE:¬i=path.length:=by omega
  refine gD<|gH zt rfl<|gA (gG bt rfl (.head _) rfl)<|gA (iF rfl rfl)<|gC<|gV rfl (fun yA=>?_) (fun yA=>?_)
  ·refine gz ?_;have od:t.k.toNat≠0:=by simpa using yA
   rw[if_pos od] at n9;refine gD<|gB<|gB<|gA (iX (i:=i) aa rfl rfl oO)<|iw (v:=I (Lib.indexByte (path.drop i) 47)) Tryd.call41 rfl rfl (fun w1 fa=>Ry w1 (path.drop i) 47) ?_;rw[Rw];refine gF<|gC<|gz<|gz<|hY (fun bc H'=>Sub [(8,I (if (47:UInt8)∈path.drop i then((sl (path.drop i):Nat):Int) else-1)),(1,S path),(5,I (i:Nat)),(9,.slice (some ⟨b,o,none⟩) l.length cp),(10,I (l.length:Nat)),(11,I (j:Nat)),(32,.bool (dec (¬(47:UInt8)∈path.drop i\/t.k.toNat=2)))] bc/\H'=[Rx pb (pu t) 78]) (fun J9=>?_) ?_
   ·refine gD<|gB<|gA (ik rfl rfl)<|gB<|gZ 28 rfl (fun tX=>?_) (fun tX=>?_)
    ·refine gE ?_;refine gE ?_;refine gE ?_;refine gT ?_;refine gC ?_;refine J9 _ _ ⟨.cons rfl (.cons rfl (.cons rfl (.cons rfl (.cons rfl (.cons rfl (.cons (oM rfl ?_) .nil)))))),rfl⟩;have RG:=of_decide_eq_true tX;exact pD (.inl fun h=>by rw[if_pos h] at RG;omega)
    refine gI (gQ zt rfl)<|gI (gG bt rfl (.head _) rfl)<|gI (ie rfl rfl)<|hG<|gC<|J9 _ _ ⟨.cons rfl (.cons rfl (.cons rfl (.cons rfl (.cons rfl (.cons rfl (.cons (oM rfl ?_) .nil)))))),rfl⟩;have RG:=of_decide_eq_false tX;have y7:(47:UInt8)∈path.drop i:=bD fun h=>RG (by rw[if_neg h];decide)
    exact rJ ⟨fun h=>.inr (by omega),fun h=>h.elim (fun h=>absurd y7 h) (fun h=>by omega)⟩
   rintro bc H' ⟨ou,rfl⟩;refine gN ou ?_;clear ou;refine gV rfl (fun tC=>?_) (fun tC=>?_)
   ·refine gz<|gD<|gF<|gC<|ic rfl rfl fun w' ia=>⟨?_,ia.sub (ar _)⟩
    refine rB ?_;have hb:=p8.1 tC;refine pD (n9.2 (.inr ?_));rcases hb with h|h
    ·exact .inl h
    exact .inr (.inl h)
   refine gL<|gz ?_;have ti:=pP.1 tC;have y7:(47:UInt8)∈path.drop i:=bD fun h=>ti (.inl h)
   have Kj:=Cf (path.drop i);rw[aA] at Kj;rw[if_pos y7];refine gD ?_;refine gB ?_;refine gB ?_;refine gA (iB (r:=((i+sl (path.drop i):Nat):Int)) rfl rfl (by omega) (by omega) (by omega)) ?_;refine gF ?_;refine gC ?_;refine ir rfl ?_;refine gD ?_;refine gA (iy j (by omega)) ?_;refine gB ?_;refine gC ?_;refine hO (H':=[]) (fun w1 h1=>h1.sub (ar _)) ?_;refine ih (N-1) _ _ (by omega) ⟨j+1,i+sl (path.drop i),by omega,by omega,n9.trans ⟨fun h=>?_,fun h=>.inr (.inr (.inr h))⟩,.of rfl,rfl⟩;rcases h with h|h|h|h
   ·exact absurd h RE
   ·exact absurd y7 h
   ·exact absurd (.inr h) ti
   exact h
  refine gL<|gz<|gz ?_;have od:t.k.toNat=0:=by simpa using yA
  rw[if_neg (fun h=>h od)] at n9;obtain⟨x,hx⟩:∃x,path[i]? =some x:=gx (by omega);refine iV mixed (by kernel_rfl)<|gK (gM rfl)<|gK (gM rfl)<|gK (iG (i:=i) (b:=x) aa rfl rfl hx)<|gK (gQ S3 rfl)<|gK (gG bt rfl (.head _) rfl)<|gK (iF rfl rfl)<|iH<|gV rfl (fun sH=>?_) (fun sH=>?_)
  ·refine gz<|gD<|gF<|gC<|ic rfl rfl fun w' ia=>⟨?_,ia.sub (ar _)⟩
   refine rB ?_
   have rG:¬x.toNat=t.c.toNat:=by
    have DK:¬(x.toNat:Int)=t.c.toNat:=by simpa using sH
    omega
   refine oL fun h=>?_
   rcases n9.1 h with h|h
   ·exact RE h
   rw[hx] at h;cases h.1;exact rG rfl
  refine gL<|gD<|gB<|gA (iy i (by omega))<|gF<|gC<|il<|gD<|gA (iy j (by omega))<|gB<|gC<|hO (H':=[]) (fun w1 h1=>h1.sub (ar _)) ?_
  have rG:x=t.c:=by
   have DK:(x.toNat:Int)=t.c.toNat:=by simpa using sH
   exact bU.1 (by omega)
  refine ih (N-1) _ _ (by omega) ⟨j+1,i+1,by omega,by omega,n9.trans ⟨fun h=>?_,fun h=>.inr ⟨by rw[hx,rG],h⟩⟩,.of rfl,rfl⟩;rcases h with h|h
  ·exact absurd h RE
  exact h.2
 refine ir rfl<|gz<|gD<|gB<|gB<|gA (ig aa rfl)<|gA (ie rfl rfl)<|gF<|gC<|ic rfl rfl fun w' ia=>⟨?_,ia.sub (ar _)⟩
 refine rB ?_;have uz:j=l.length:=by omega
 rw[uz,cH] at n9;unfold DI at n9;exact rJ ⟨fun h=>n9.2 (by omega),fun h=>by have:=n9.1 h;omega⟩
theorem aho {x r:List Tk} {d:Nat} {a:Tk} (hx:x[d]? =some a) (hr:r[d]? =some a):same (x.drop d) (r.drop d)=same (x.drop (d+1)) (r.drop (d+1))+1:=by
 rw[drop_cons hx,drop_cons hr,same,if_pos rfl]
theorem ahp {x r:List Tk} {d:Nat} (h:¬(d<x.length/\d<r.length/\x[d]? =r[d]?)):same (x.drop d) (r.drop d)=0:=by
 rcases cn d x.length with h1|h1
 ·rcases cn d r.length with h2|h2
  ·have hx:=ao h1;have hr:=ao h2;rw[drop_cons hx,drop_cons hr,same,if_neg];intro e;exact h ⟨h1,h2,by rw[hx,hr,e]⟩
  rw[bE h2];cases x.drop d<;>rfl
 rw[bE h1];rfl
theorem Qc (w:World) (x r:List Tk) (sx sr:Value) (MQ:MU w sx x) (pC:MU w sr r) (yy:x.length<=1000000) (D3:r.length<=1000000) (path:List UInt8) (mM:path.length<=1000000):Calls Tryd.prog 23 #[sx,sr,S path] w fun e w'=>e=.returned (.bool (dec (G1 x r path)))/\HF w (fun _=>False) [] w':=by
 refine enter (fun _=>False) [] Tryd.func23 rfl Tryd.ntmps23 rfl rfl (HF.start w _) fun c hc=>?_
 subst hc;obtain⟨Cm,yH,rfl,r8⟩:=MQ;obtain⟨Yi,Yj,rfl,AI⟩:=pC;refine gz<|gD<|gF<|gC<|gz<|gD<|gF<|gC<|gz<|gW ?_
 refine iC (fun N bc H'=>∃(d:Nat),d+N=x.length/\same x r=d+same (x.drop d) (r.drop d)/\Sub [(0,.slice Cm x.length yH),(1,.slice Yi r.length Yj),(2,S path),(7,I (d:Nat))] bc/\H'=[]) x.length
  ⟨0,by omega,by simp,.of rfl,rfl⟩ ?_
 rintro N bc H' ⟨d,hd,qs,mJ,rfl⟩ ih;refine gN mJ ?_;clear mJ;refine gz<|gz<|hY (fun bc H'=>Sub [(0,.slice Cm x.length yH),(1,.slice Yi r.length Yj),(2,S path),(7,I (d:Nat)),(32,.bool (dec (d<x.length/\d<r.length/\x[d]? =r[d]?)))] bc/\H'=[]) (fun J2=>?_) ?_
 ·refine iV mixed (by kernel_rfl)<|gK (gM rfl)<|gK (gM rfl)<|gK (iu aV rfl)<|gK (ik rfl rfl)<|gK (gM rfl)<|jr 16 rfl (fun pA=>?_) (fun pA=>?_)
  ·refine gY (gM rfl)<|gY (gM rfl)<|gY (iu aV rfl)<|gY (ik rfl rfl)<|gK (iL rfl rfl)<|gK (gM rfl)<|jr 22 rfl (fun rR=>?_) (fun rR=>?_)
   ·refine gY (gM rfl)<|gY (gM rfl) ?_;have G9:=of_decide_eq_true pA;have Yk:=of_decide_eq_true rR;have Km:d<x.length:=by omega
    have nH:d<r.length:=by omega
    obtain⟨a,tJ⟩:=gx Km;obtain⟨b,vO⟩:=gx nH;obtain⟨b1,o1,rfl,oV⟩:=r8 d a tJ;obtain⟨b2,o2,rfl,oc⟩:=AI d b vO;refine gY (ij (i:=d) aV bA rfl rfl Km)<|gY (ju (cs:=pu a) eI bA rfl oV rfl id)<|gY (gM rfl)<|gY (gM rfl)<|gY (ij (i:=d) aV bA rfl rfl nH)<|gY (ju (cs:=pu b) eI bA rfl oc rfl id)<|gY (lm rfl rfl)<|gK (iL rfl rfl)<|iH<|J2 _ _ ⟨.cons rfl (.cons rfl (.cons rfl (.cons rfl (.cons (oM rfl ?_) .nil)))),rfl⟩;exact VD ⟨fun h=>⟨Km,nH,by rw[tJ,vO,h]⟩,fun h=>by have h3:=h.2.2;rw[tJ,vO] at h3;exact bp h3⟩
   refine gP ?_;refine gP ?_;refine gP ?_;refine gP ?_;refine gP ?_;refine gP ?_;refine gP ?_;refine gP ?_;refine gP ?_;refine gK (iD rfl rfl) ?_;refine iH ?_;refine J2 _ _ ⟨.cons rfl (.cons rfl (.cons rfl (.cons rfl (.cons (oM rfl ?_) .nil)))),rfl⟩;have Yk:=of_decide_eq_false rR;exact oL fun h=>Yk (by have:=h.2.1;omega)
  refine gP ?_;refine gP ?_;refine gP ?_;refine gP ?_;refine gK (iD rfl rfl) ?_;refine gK (gM rfl) ?_;refine gP ?_;refine gP ?_;refine gP ?_;refine gP ?_;refine gP ?_;refine gP ?_;refine gP ?_;refine gP ?_;refine gP ?_;refine gK (iD rfl rfl) ?_;refine iH ?_;refine J2 _ _ ⟨.cons rfl (.cons rfl (.cons rfl (.cons rfl (.cons (oM rfl ?_) .nil)))),rfl⟩;have G9:=of_decide_eq_false pA;exact oL fun h=>G9 (by have:=h.1;omega)
 rintro bc H' ⟨ou,rfl⟩;refine gN ou ?_;clear ou;refine gV rfl (fun tC=>?_) (fun tC=>?_)
 ·refine gL<|gW ?_;obtain⟨Km,nH,hxr⟩:=p8.1 tC;obtain⟨a,tJ⟩:=gx Km;have mO:=aho tJ (by rw[<-hxr];exact tJ);exact gD<|gB<|gA (iy d (by omega))<|gF<|gC<|il<|ih (N-1) _ _ (by omega) ⟨d+1,by omega,by rw[qs,mO];omega,.of rfl,rfl⟩
 refine ir rfl<|gz ?_;have PN:same x r=d:=by rw[qs,ahp (pP.1 tC)];rfl
 refine gD<|gF<|gC<|gz<|gz<|gD<|gB<|gA (iu aV rfl)<|gB<|gC<|gW ?_
 refine iC (fun N2 bc H'=>∃(j i:Nat),j+N2=x.length/\i<=path.length/\(G1 x r path<->Fb path d (x.drop j) j i)/\Sub [(2,S path),(7,I (d:Nat)),(8,I (i:Nat)),(35,.slice Cm x.length yH),(36,I (x.length:Nat)),(37,I (j:Nat))] bc/\H'=[]) x.length
  ⟨0,0,by omega,by omega,by unfold G1;rw[PN];exact gy,.of rfl,rfl⟩ ?_
 rintro N2 bc H' ⟨j,i,hj,oO,n9,mJ,rfl⟩ qz;refine gN mJ ?_;clear mJ;refine gz<|gD<|gA (ik rfl rfl)<|gC<|gz<|gS rfl (fun yq=>?_) (fun yq=>?_)
 ·refine gL<|gz<|gW<|gz ?_;have oC:j<x.length:=by omega
  obtain⟨t,ht⟩:=gx oC;obtain⟨b,o,rfl,oV⟩:=r8 j t ht;have nH:=drop_cons ht;rw[nH] at n9;unfold Fb at n9;refine gD<|gB<|gA (ij (i:=j) aV bA rfl rfl oC)<|gA (ju (cs:=pu t) eI bA rfl oV rfl id)<|iK ej rfl rfl (fun pb zy=>?_);refine gF<|iO (cs:=pu t) bA rfl rfl (Kc t) .z rfl<|gC<|gz<|gz<|gD<|gH zt rfl<|gA (gG bt rfl (.head _) rfl)<|gA (iF rfl rfl)<|gC<|gV rfl (fun tK=>?_) (fun tK=>?_)
  ·refine gz ?_;have od:t.k.toNat≠0:=by simpa using tK
   rw[if_pos od] at n9;have Kj:=Cf (path.drop i);rw[aA] at Kj;refine gD<|gB<|gB<|gA (iX (i:=i) aa rfl rfl oO)<|iw (v:=I (Lib.indexByte (path.drop i) 47)) Tryd.call41 rfl rfl (fun w1 fa=>Ry w1 (path.drop i) 47) ?_;rw[Rw];refine gF<|gC<|gz<|gz<|gD<|gB<|gA (ik rfl rfl)<|gC<|hY (fun bc H'=>Sub [(11,I ((sl (path.drop i):Nat):Int)),(2,S path),(7,I (d:Nat)),(8,I (i:Nat)),(35,.slice (some ⟨b,o,none⟩) x.length yH),(36,I (x.length:Nat)),(37,I (j:Nat)),(9,I (j:Nat)),(10,Pt pb 0)] bc/\H'=[Rx pb (pu t) 78]) (fun Yl=>?_) ?_
   ·refine gS rfl (fun xC=>?_) (fun xC=>?_)
    ·refine gD<|gB<|gA (ig aa rfl)<|gB ?_;have RC:¬(47:UInt8)∈path.drop i:=fun h=>by rw[if_pos h] at xC;omega
     have IC:sl (path.drop i)=path.length-i:=by rw[Xk RC,aA]
     exact gA (iM (r:=((sl (path.drop i):Nat):Int)) rfl rfl (by omega) (by omega) (by omega))<|gF<|gC<|Yl _ _ ⟨.of rfl,rfl⟩
    refine gL ?_;have ot:(47:UInt8)∈path.drop i:=bD fun h=>(by rw[if_neg h] at xC;omega)
    refine Yl _ _ ⟨?_,rfl⟩;rw[if_pos ot];exact .of rfl
   rintro bc H' ⟨ou,rfl⟩;refine gN ou ?_;clear ou;refine gz<|gz<|gD<|gB<|gB<|gA (iS rfl rfl)<|gC<|gS rfl (fun Jj=>?_) (fun Jj=>?_)
   ·refine gz ?_;rw[if_pos (show d<j by omega)] at n9;refine gD<|gH zt rfl<|gA (gG bt rfl (.head _) rfl)<|gA (ie rfl rfl)<|gB<|gZ 61 rfl (fun w8=>?_) (fun w8=>?_)
    ·refine gE ?_;refine gE ?_;refine gE ?_;refine gE ?_;refine gT ?_;refine gF ?_;refine gC ?_;refine ic rfl rfl fun w' ia=>⟨?_,ia.sub (ar _)⟩
     refine rB ?_;have G8:=of_decide_eq_true w8;exact pD (n9.2 (.inl (by omega)))
    refine gU<|gU<|gI (ig aa rfl)<|gI (ik rfl rfl)<|hG<|gF<|gC<|ic rfl rfl fun w' ia=>⟨?_,ia.sub (ar _)⟩
    refine rB ?_;have G8:=of_decide_eq_false w8;exact rJ ⟨fun h=>n9.2 (.inr (by omega)),fun h=>(n9.1 h).elim (fun h=>by omega) (fun h=>by omega)⟩
   refine gL ?_;refine gz ?_;rw[if_neg (show¬d<j by omega)] at n9;refine gD ?_;refine gB ?_;refine gB ?_;refine gA (iB (r:=((i+sl (path.drop i):Nat):Int)) rfl rfl (by omega) (by omega) (by omega)) ?_;refine gF ?_;refine gC ?_;refine ir rfl ?_;refine gD ?_;refine gA (iy j (by omega)) ?_;refine gB ?_;refine gC ?_;refine hO (H':=[]) (fun w1 h1=>h1.sub (ar _)) ?_;exact qz (N2-1) _ _ (by omega) ⟨j+1,i+sl (path.drop i),by omega,by omega,n9,.of rfl,rfl⟩
  refine gL<|gz<|gz ?_;have od:t.k.toNat=0:=by simpa using tK
  rw[if_neg (fun h=>h od)] at n9;refine hY (fun bc H'=>Sub [(2,S path),(7,I (d:Nat)),(8,I (i:Nat)),(35,.slice (some ⟨b,o,none⟩) x.length yH),(36,I (x.length:Nat)),(37,I (j:Nat)),(9,I (j:Nat)),(10,Pt pb 0),(81,.bool (dec (¬path[i]? =some t.c)))] bc/\H'=[Rx pb (pu t) 78]) (fun Ym=>?_) ?_
  ·refine iV mixed (by kernel_rfl)<|gK (gM rfl)<|gK (gM rfl)<|gK (ig aa rfl)<|gK (ie rfl rfl)<|gK (gM rfl)<|jr 74 rfl (fun xD=>?_) (fun xD=>?_)
   ·refine gP ?_;refine gP ?_;refine gP ?_;refine gP ?_;refine gP ?_;refine gP ?_;refine gK (iL rfl rfl) ?_;refine iH ?_;refine Ym _ _ ⟨.cons rfl (.cons rfl (.cons rfl (.cons rfl (.cons rfl (.cons rfl (.cons rfl (.cons rfl (.cons (oM rfl ?_) .nil)))))))),rfl⟩;have MR:=of_decide_eq_true xD;exact pD (by rw[dq (by omega)];simp)
   refine gY (gM rfl)<|gY (gM rfl) ?_;have MR:=of_decide_eq_false xD;obtain⟨z,hz⟩:∃z,path[i]? =some z:=gx (by omega);refine gY (iG (i:=i) (b:=z) aa rfl rfl hz)<|gY (gQ S3 rfl)<|gY (gG bt rfl (.head _) rfl)<|gY (iF rfl rfl)<|gK (iD rfl rfl)<|iH<|Ym _ _ ⟨.cons rfl (.cons rfl (.cons rfl (.cons rfl (.cons rfl (.cons rfl (.cons rfl (.cons rfl (.cons (oM rfl ?_) .nil)))))))),rfl⟩;exact tM ⟨fun h hh=>h (by rw[hz] at hh;cases hh;rfl),fun h hh=>h (by rw[hz,bU.1 (show z.toNat=t.c.toNat by omega)])⟩
  rintro bc H' ⟨ou,rfl⟩;refine gN ou ?_;clear ou;refine gV rfl (fun B8=>?_) (fun B8=>?_)
  ·refine gz<|gD<|gF<|gC<|ic rfl rfl fun w' ia=>⟨?_,ia.sub (ar _)⟩
   exact rB<|oL fun h=>p8.1 B8 (n9.1 h).1
  refine gL ?_;have oH:path[i]? =some t.c:=dE.1 (pP.1 B8);have xV:=(ae.1 oH).1;exact gD<|gB<|gA (iy i (by omega))<|gF<|gC<|il<|gD<|gA (iy j (by omega))<|gB<|gC<|hO (H':=[]) (fun w1 h1=>h1.sub (ar _))<|qz (N2-1) _ _ (by omega) ⟨j+1,i+1,by omega,by omega,n9.trans ⟨fun h=>h.2,fun h=>⟨oH,h⟩⟩,.of rfl,rfl⟩
 refine ir rfl<|gz<|gD<|gF<|gC<|ic rfl rfl fun w' ia=>⟨?_,ia.sub (ar _)⟩
 refine rB ?_;have uz:j=x.length:=by omega
 rw[uz,cH] at n9;exact oL fun h=>n9.1 h
end Go.Proofs
namespace Bw
open Go
variable {P:Program} {c:Cx} {n:Nat} {k:List Item} {fr:SF} {H:SH} {ops:Array Oper} {rest tail:List Oper} {ty t u:TypeId} {pos:String} {mG:Array Edge} {S:World->Prop} {m nv:Nat} {listed:Array Bool}
end Bw
namespace Go.Proofs
open Go Bw Gt
theorem ahr {l:List nz} {j:Nat} {p:nz} (h:l[j]? =some p):nV (l.take (j+1))=nV (l.take j)++wV p:=by
 rw[By h];simp[nV]
theorem ahs {l:List nz} (j:Nat):(nV (l.take j)).length <=(nV l).length :=by
 have:nV l=nV (l.take j)++nV (l.drop j):=by unfold nV;rw[<-List.flatMap_append,a8]
 rw[this,ax];omega
theorem Ko (w:World) (l:List nz) (sv:Value) (pe:uA w sv l) (hlen:(nV l).length <=1000000) (AP:l.length<=1000000):Calls Tryd.prog 11 #[sv] w fun e w'=>e=.returned (S (nV l))/\HF w (fun _=>False) [] w':=by
 refine enter (fun _=>False) [] Tryd.func11 rfl Tryd.ntmps11 rfl rfl (HF.start w _) fun c hc=>?_
 subst hc;obtain⟨ad,cp,rfl,s8,hc⟩:=pe;refine gz<|gD<|gF<|gC<|gz<|gD<|gF<|gC<|gz<|gz<|gD<|gB<|gA (iu bn rfl)<|gB<|gC<|gW ?_
 refine iC (fun N bc H'=>∃j,j+N=l.length/\Sub [(3,S (nV (l.take j))),(6,.slice ad l.length cp),(7,I (l.length:Nat)),(8,I (j:Nat))] bc/\H'=[]) l.length
  ⟨0,by omega,.of rfl,rfl⟩ ?_
 rintro N bc H' ⟨j,hj,mJ,rfl⟩ ih;refine gN mJ ?_;clear mJ;refine gz<|gD<|gA (ik rfl rfl)<|gC<|gz<|gS rfl (fun h9=>?_) (fun h9=>?_)
 ·refine gL<|gz<|gW<|gz ?_;have oC:j<l.length:=by omega
  obtain⟨p,hp⟩:=gx oC;obtain⟨b,o,rfl,oV,oc⟩:=hc j p hp;have Ck:=ahr hp;have hle:=ahs (l:=l) (j+1);rw[Ck,ax] at hle;unfold wV at Ck hle;rw[ax] at hle;refine gD<|gA (ij (i:=j) bn bH rfl rfl oC)<|gA (ju (cs:=oz p) ew bH rfl (AO oV oc) rfl id)<|iK ei rfl rfl (fun pb zy=>?_);refine iO (cs:=oz p) bH rfl rfl (by simp[oz,Value.oneCell']) .z rfl<|gC<|gz<|gz<|gD<|gH yM rfl<|gA (gG bt rfl (.head _) rfl)<|gC<|gW<|gz<|gD<|gA (ie rfl rfl)<|gF<|gC<|hY (fun bc H'=>Sub [(3,S (nV (l.take j)++(if p.k.toNat=1 then[58] else if p.k.toNat=2 then[42] else[]))),(5,Pt pb 0),(6,.slice (some ⟨b,o,none⟩) l.length cp),(7,I (l.length:Nat)),(8,I (j:Nat))] bc/\H'=[Rx pb (oz p) 34]) (fun RI=>?_) ?_
  ·refine gS rfl (fun xY=>?_) (fun xY=>?_)
   ·refine gD<|gB ?_;refine gA (iR rfl rfl (by simp;omega))<|gF ?_;refine gC<|RI _ _ ⟨?_,rfl⟩;rw[if_pos (by omega)];exact .of rfl
   refine gz<|gD<|gA (ie rfl rfl)<|gF<|gC<|gS rfl (fun yG=>?_) (fun yG=>?_)
   ·refine gD<|gB ?_;refine gA (iR rfl rfl (by simp;omega))<|gF ?_;refine gC<|RI _ _ ⟨?_,rfl⟩;rw[if_neg (by omega),if_pos (by omega)];exact .of rfl
   refine gL<|RI _ _ ⟨?_,rfl⟩;rw[if_neg (by omega),if_neg (by omega),aS];exact .of rfl
  rintro bc H' ⟨ou,rfl⟩;refine gN ou ?_;clear ou;refine il<|gD ?_;refine gB<|gH tw rfl ?_;refine gA (gG ag rfl (.head _) rfl)<|gA (iR rfl rfl (by rw[ax];omega)) ?_;refine gF<|gC ?_;refine il<|gD ?_;refine gA (iy j (by omega))<|gB ?_;refine gC<|hO (H':=[]) (fun w1 h1=>h1.sub (ar _))<|ih (N-1) _ _ (by omega) ⟨j+1,by omega,?_,rfl⟩;rw[Ck,<-aw];exact .of rfl
 refine ir rfl<|gz<|gD<|gB<|gF<|gC ?_;have uz:j=l.length:=by omega
 refine ic rfl rfl fun w' ia=>⟨?_,ia⟩
 rw[uz,b8]
theorem aht (w:World) (l:List (List nz)) (sv:Value) (pe:zT w sv l) (hlen:∀r∈l,(nV r).length <=1000000/\r.length<=1000000) (AP:l.length<=1000000):Calls Tryd.prog 13 #[sv] w fun e w'=>∃kv Hs,e=.returned kv/\Own 9 1 kv l.length ((l.map nV).map S) Hs/\HF w (fun _=>False) Hs w':=by
 refine enter (fun _=>False) [] Tryd.func13 rfl Tryd.ntmps13 rfl rfl (HF.start w _) fun c hc=>?_
 subst hc;obtain⟨ad,cp,rfl,s8,hc⟩:=pe;refine gz<|gD<|gF<|gC<|gz<|gD<|gF<|gC<|gz<|gz<|gD<|gB<|gA (iu bz rfl)<|gB<|gC<|gW ?_
 refine iC (fun N bc H'=>∃j kv Hs,j+N=l.length/\Own 9 1 kv j (((l.take j).map nV).map S) Hs/\Sub [(3,kv),(6,.slice ad l.length cp),(7,I (l.length:Nat)),(8,I (j:Nat))] bc/\Hs=H') l.length
  ⟨0,.slice none 0 0,[],by omega,Own.nil,.of rfl,rfl⟩ ?_
 rintro N bc H' ⟨j,kv,Hs,hj,nx,mJ,rfl⟩ ih;refine gN mJ ?_;clear mJ;refine gz<|gD<|gA (ik rfl rfl)<|gC<|gz<|gS rfl (fun h9=>?_) (fun h9=>?_)
 ·refine gL<|gz<|gW<|gz ?_;have oC:j<l.length:=by omega
  obtain⟨r,hr⟩:=gx oC;obtain⟨b,o,rv,rfl,oV,oc⟩:=hc j r hr;obtain⟨D3,ahu⟩:=hlen r (ap hr);refine gD<|gA (ij (i:=j) bz dz rfl rfl oC)<|gA (hZ (v:=rv) ec rfl (by rw[aT];exact oV) id)<|gF<|gC<|gD<|gB<|gB<|iw (v:=S (nV r)) Tryd.call11 rfl rfl (fun w1 fa=>Ko w1 r rv (oc.old fa) D3 ahu)<|je (jn aE ah ck (v:=S (nV r)) rfl) rfl rfl (fun sb vm=>?_);refine jA (i:=Tryd.t9) (sz:=1) (qg:=16) aE rfl rfl rfl rfl rfl rfl rfl nx (H':=[Rx sb [S (nV r)] 9]) (aF (l₁:=([Rx sb [S (nV r)] 9]:SH))) (vf (vs:=[S (nV r)]) (r:=[]) (.head _)) rfl (by simp[Value.oneCell']) (by omega) (by omega) (by omega) rfl (fun ov nU oS=>?_);refine gF<|gC<|il<|gD<|gA (iy j (by omega))<|gB<|gC<|hO (H':=nU) (fun w1 h1=>h1.sub (ai _ _))<|ih (N-1) _ _ (by omega) ⟨j+1,ov,nU,by omega,?_,.of rfl,rfl⟩;rw[By hr,dX,dX];exact oS
 refine ir rfl<|gz<|gD<|gB<|gF<|gC ?_;have uz:j=l.length:=by omega
 subst uz;rw[b8] at nx;exact ic rfl rfl fun w' ia=>⟨_,_,rfl,nx,ia⟩
theorem DM {rs:List (List nz)} {path:List UInt8}:∀{n m:Nat},qP rs path n=some m->m<n
 |0,m,h=>by cases h
 |n+1,m,h=>by
  unfold qP at h;split at h
  ·exact gf (DM h)
  split at h
  ·exact gf (DM h)
  ·cases h;exact gl _
  rename_i hb;split at h
  ·cases h;exact gf (DM hb)
  split at h
  ·cases h;exact gl _
  cases h;exact gf (DM hb)
def Cp (rs:List (List nz)) (path:List UInt8) (o:Option Nat) (r:Nat) (pv:Value) (full:List UInt8) (Hp:SH):Prop:=
 (o=none/\r=0/\pv=.slice none 0 0/\full=[]/\Hp=[])\/∃m a ps,o=some m/\r=m+1/\rs[m]? =some a/\full=nV a/\qV a path=some ps/\ps.length<=12/\Own 80 2 pv ps.length (nJ ps) Hp
theorem Cp.w {rs path o r pv full Hp} (h:Cp rs path o r pv full Hp):∀x∈Hp,x.w=true:=by
 rcases h with⟨_,_,_,_,rfl⟩|⟨m,a,ps,_,_,_,_,_,_,h⟩
 ·simp
 exact h.w
theorem Cp.one {rs path o r pv full Hp} (h:Cp rs path o r pv full Hp):pv.oneCell'=true:=by
 rcases h with⟨_,_,rfl,_⟩|⟨m,a,ps,_,_,_,_,_,_,h⟩
 ·rfl
 exact Own.Cw h
theorem ahv (r:Int) (pv:Value) (Ey:pv.oneCell'=true) (s:List UInt8) (w:World):(Instr.build 27 #[(0,I r),(1,pv),(2,S s)]).run Tryd.prog w=.ok (.agg #[I r,pv,S s,.bool false]) w:=by
 have hc:pv.cells= #[pv]:=by cases pv<;>first|rfl|(simp[Value.oneCell'] at Ey)
 have hi:(I r).cells = #[I r]:=rfl;simp[Instr.build,fy,Tryd.runUnderlying27,ah,bh,Tryd.sizeOf25,qp,Instr.fill,tR,hc,hi]
theorem ahw (w:World):(Instr.build 27 #[]).run Tryd.prog w=.ok (.agg #[I 0,.slice none 0 0,S [],.bool false]) w:=by
 simp[Instr.build,fy,Tryd.runUnderlying27,Instr.fill,Value.cells]
theorem Yn (w:World) (l:List (List nz)) (sv:Value) (pe:zT w sv l) (nD:∀r∈l,Gt.Clean r) (AP:l.length<=1000000) (path:List UInt8) (mM:path.length<=1000000):Calls Tryd.prog 7 #[sv,S path] w fun e w'=>∃(r:Nat) (pv:Value) (full:List UInt8) (Hp:SH),e=.returned (.agg #[I (r:Nat),pv,S full,.bool false])/\Cp l path (qP l path l.length) r pv full Hp/\HF w (fun _=>False) Hp w':=by
 refine enter (fun _=>False) [] Tryd.func7 rfl Tryd.ntmps7 rfl rfl (HF.start w _) fun c hc=>?_
 subst hc;obtain⟨ad,cp,rfl,s8,hc⟩:=pe;refine gz<|gD<|iK fy rfl rfl (fun b4 hb4=>?_);refine gC<|gz<|gD<|gA (iN (vs:=[]) rfl (fun w1=>ahw w1))<|iK fy rfl rfl (fun b5 hb5=>?_);refine iO (cs:=[I 0,.slice none 0 0,S [],.bool false]) fG rfl rfl (by simp[Value.oneCell']) .z rfl<|gC<|gz<|gz<|gD<|gB<|gA (iu bz rfl)<|gB<|gC<|gW ?_
 refine iC (fun N bc H'=>∃(j r:Nat) (pv:Value) (full:List UInt8) (Hp:SH),j+N=l.length/\Cp l path (qP l path j) r pv full Hp/\Sub [(0,.slice ad l.length cp),(1,S path),(4,Pt b4 0),(5,Pt b5 0),(11,.slice ad l.length cp),(12,I (l.length:Nat)),(13,I (j:Nat))] bc/\H'=(Rx b5 [I (r:Nat),pv,S full,.bool false] 27)::Rx b4 [I 0,.slice none 0 0,S [],.bool false] 27::Hp) l.length
  ⟨0,0,.slice none 0 0,[],[],by omega,.inl ⟨rfl,rfl,rfl,rfl,rfl⟩,.of rfl,rfl⟩ ?_
 rintro N bc H' ⟨j,r,pv,full,Hp,hj,hB,mJ,rfl⟩ ih;refine gN mJ ?_;clear mJ;refine gz<|gD<|gA (ik rfl rfl)<|gC<|gz<|gS rfl (fun xY=>?_) (fun xY=>?_)
 ·refine gL<|gz<|gW<|gz ?_;have oC:j<l.length:=by omega
  obtain⟨a,ha⟩:=gx oC;obtain⟨b,o,av,rfl,oV,oc⟩:=hc j a ha;have qS:=nD a (ap ha);refine gD<|gB<|gA (ij (i:=j) bz dz rfl rfl oC)<|gA (hZ (v:=av) ec rfl (by rw[aT];exact oV) id)<|gF<|gF<|gC<|gz<|gD<|gB<|gB<|iP (fun v H2=>∃vF ok Hs,v=.tuple #[vF,.bool ok]/\((ok=true/\∃ps,qV a path=some ps/\ps.length<=12/\Own 80 2 vF ps.length (nJ ps) Hs)\/(ok=false/\qV a path=none))/\H2=Hs++(Rx b5 [I (r:Nat),pv,S full,.bool false] 27::Rx b4 [I 0,.slice none 0 0,S [],.bool false] 27::Hp)) Tryd.call22 rfl rfl (fun w1 fa=>?_) ?_
  ·exact(Yc w1 a av (oc.old fa) qS path mM).mono fun e w' ⟨vF,ok,Hs,h1,h2,h3,h4⟩=>⟨_,_,h1,fa.o9 h4 h3,vF,ok,Hs,rfl,h2,rfl⟩
  rintro v H2 ⟨vF,ok,Hs,rfl,nk,rfl⟩;refine gB<|gA (iz rfl rfl)<|gA (iz rfl rfl)<|gF<|gF<|gC<|gz ?_
  have mO:qP l path (j+1)=match qV a path,qP l path j with
    |none,b=>b
    |some _,none=>some j
    |some _,some m=>match l[m]? with
     |none=>some m
     |some b=>if dec (sN (mY a) (mY b)) then some j else some m:=by
   rw[qP,ha]<;>rfl
  refine hY (fun bc H'=>Sub [(0,.slice (some ⟨b,o,none⟩) l.length cp),(1,S path),(4,Pt b4 0),(5,Pt b5 0),(6,I (j:Nat)),(7,av),(8,vF),(11,.slice (some ⟨b,o,none⟩) l.length cp),(12,I (l.length:Nat)),(13,I (j:Nat)),(39,.bool (dec (qP l path (j+1)=some j)))] bc/\H'=Hs++(Rx b5 [I (r:Nat),pv,S full,.bool false] 27::Rx b4 [I 0,.slice none 0 0,S [],.bool false] 27::Hp)) (fun J6=>?_) ?_
  ·refine gD<|gB<|gB<|gZ 25 rfl (fun BF=>?_) (fun BF=>?_)
   ·refine gI (gQ Ky rfl)<|gI (gG aY rfl (au _ (.head _)) rfl)<|gI (ie rfl rfl)<|gU<|gZ 29 rfl (fun xZ=>?_) (fun xZ=>?_)
    ·refine gE ?_;refine gE ?_;refine gE ?_;refine gE ?_;refine gE ?_;refine gE ?_;refine gE ?_;refine gE ?_;refine gI (iL rfl rfl) ?_;refine gT ?_;refine gC ?_;refine J6 _ _ ⟨.cons rfl (.cons rfl (.cons rfl (.cons rfl (.cons rfl (.cons rfl (.cons rfl (.cons rfl (.cons rfl (.cons rfl (.cons (oM rfl ?_) .nil)))))))))),rfl⟩
     obtain⟨RJ,vg,_⟩:∃ps,qV a path=some ps/\ps.length<=12/\Own 80 2 vF ps.length (nJ ps) Hs:=by
      rcases nk with h|h
      ·exact h.2
      rw[BF] at h;cases h.1
     have vS:r=0:=by have:=of_decide_eq_true xZ;omega
     have EM:qP l path j=none:=by
      rcases hB with h|⟨m,_,_,_,h,_⟩
      ·exact h.1
      omega
     exact pD (by rw[mO,vg,EM])
    refine gU<|gU<|gI (gQ Ky rfl)<|gI (gG aY rfl (au _ (.head _)) rfl) ?_;have vS:¬r=0:=by have:=of_decide_eq_false xZ;omega
    obtain⟨m,d,ps,qD,sK,hd,hfd,hmd,_,_⟩:∃m a ps,qP l path j=some m/\r=m+1/\l[m]? =some a/\full=nV a/\qV a path=some ps/\ps.length<=12/\Own 80 2 pv ps.length (nJ ps) Hp:=hB.resolve_left (fun h=>vS h.2.1);have py:=DM qD;obtain⟨b',o',dv,e0,Gz,uD⟩:=hc m d hd;cases e0;have rI:=nD d (ap hd);refine gI (iM (r:=((m:Nat):Int)) rfl rfl (by omega) (by omega) (by omega))<|gI (ij (i:=m) bz dz rfl rfl (by omega))<|gI (hZ (v:=dv) ec rfl (by rw[aT];exact Gz) id)<|jd rfl rfl<|iw (v:=.bool (dec (sN (mY a) (mY d)))) Tryd.call21 rfl rfl (fun w1 fa=>X9 w1 a d av dv (oc.old fa) (uD.old fa) (wo qS) (wo rI))<|gI (iD rfl rfl)<|gT<|gC<|J6 _ _ ⟨.cons rfl (.cons rfl (.cons rfl (.cons rfl (.cons rfl (.cons rfl (.cons rfl (.cons rfl (.cons rfl (.cons rfl (.cons (oM rfl ?_) .nil)))))))))),rfl⟩
    obtain⟨RJ,vg,_⟩:∃ps,qV a path=some ps/\ps.length<=12/\Own 80 2 vF ps.length (nJ ps) Hs:=by
     rcases nk with h|h
     ·exact h.2
     rw[BF] at h;cases h.1
    rw[vg,qD] at mO;simp only[hd] at mO
    cases qi:dec (sN (mY a) (mY d)) with
    |true=>rw[qi,if_pos rfl] at mO;exact pD mO
    |false=>rw[qi] at mO;simp only[c6,if_false] at mO;exact oL (by rw[mO];intro h;cases h;omega)
   refine gE ?_;refine gE ?_;refine gE ?_;refine gE ?_;refine iv ?_;refine iv ?_;refine iv ?_;refine iv ?_;refine iv ?_;refine iv ?_;refine iv ?_;refine iv ?_;refine gE ?_;refine hG ?_;refine gC ?_;refine J6 _ _ ⟨.cons rfl (.cons rfl (.cons rfl (.cons rfl (.cons rfl (.cons rfl (.cons rfl (.cons rfl (.cons rfl (.cons rfl (.cons (oM rfl ?_) .nil)))))))))),rfl⟩
   have hmn:qV a path=none:=by
    rcases nk with h|h
    ·rw[BF] at h;cases h.1
    exact h.2
   exact oL (by rw[mO,hmn];intro h;have:=DM h;omega)
  rintro bc H' ⟨ou,rfl⟩;refine gN ou ?_;clear ou;refine gV rfl (fun RL=>?_) (fun RL=>?_)
  ·have RM:=p8.1 RL
   obtain⟨RJ,vg,ahz,oS⟩:∃ps,qV a path=some ps/\ps.length<=12/\Own 80 2 vF ps.length (nJ ps) Hs:=by
    rcases nk with h|h
    ·exact h.2
    rw[mO,h.2] at RM;have:=DM RM;omega
   refine gD<|jb (H':=Rx b5 [I (r:Nat),pv,S full,.bool false] 27::Rx b4 [I 0,.slice none 0 0,S [],.bool false] 27::(Hs++Hp)) (fun w1 h1=>?_) ?_
   ·have p1:=oN [Hs,[Rx b5 [I (r:Nat),pv,S full,.bool false] 27],[Rx b4 [I 0,.slice none 0 0,S [],.bool false] 27],Hp] [0,1,2,3] [1,2,0,3] (by decide);exact h1.perm (by simpa using p1)
   refine gB<|gA (iy j (by omega))<|gB<|gB<|iw (v:=S (nV a)) Tryd.call11 rfl rfl (fun w1 fa=>Ko w1 a av (oc.old fa) (br qS.lg.1 (by omega)) (wo qS).2)<|gA (iN (vs:=[(0,I ((j+1:Nat):Int)),(1,vF),(2,S (nV a))]) rfl (fun w1=>ahv _ _ (Own.Cw oS) _ w1))<|iO (cs:=[I ((j+1:Nat):Int),vF,S (nV a),.bool false]) fG rfl rfl (fun u hu=>by simp only[af,aC,or_false] at hu;rcases hu with rfl|rfl|rfl|rfl<;>first|rfl|exact Own.Cw oS) .z rfl<|gC<|hO (H':=Rx b5 [I ((j+1:Nat):Int),vF,S (nV a),.bool false] 27::Rx b4 [I 0,.slice none 0 0,S [],.bool false] 27::Hs) (fun w1 h1=>h1.sub ?_) ?_
   ·exact((cL Hs Hp).cons_cons _).cons_cons _
   exact il<|gD<|gA (iy j (by omega))<|gB<|gC<|ih (N-1) _ _ (by omega) ⟨j+1,j+1,vF,nV a,Hs,by omega,.inr ⟨j,a,RJ,RM,rfl,ha,rfl,vg,ahz,oS⟩,.of rfl,rfl⟩
  refine gL<|il<|gD<|gA (iy j (by omega))<|gB<|gC ?_;have ti:=pP.1 RL
  have RN:qP l path (j+1)=qP l path j:=by
   rw[mO] at ti⊢
   cases Ii:qV a path with
   |none=>rfl
   |some ps0=>
    rw[Ii] at ti
    cases FA:qP l path j with
    |none=>rw[FA] at ti;exact absurd rfl ti
    |some m=>
     rw[FA] at ti;simp only at ti⊢
     cases PX:l[m]? with
     |none=>rfl
     |some d0=>
      rw[PX] at ti;simp only at ti⊢
      cases qi:dec (sN (mY a) (mY d0)) with
      |true=>rw[qi,if_pos rfl] at ti;exact absurd rfl ti
      |false=>rfl
  exact hO (H':=Rx b5 [I (r:Nat),pv,S full,.bool false] 27::Rx b4 [I 0,.slice none 0 0,S [],.bool false] 27::Hp) (fun w1 h1=>h1.sub (aG _ _))<|ih (N-1) _ _ (by omega) ⟨j+1,r,pv,full,Hp,by omega,by rw[RN];exact hB,.of rfl,rfl⟩
 refine ir rfl<|gz<|gD<|gA (ja (cs:=[I (r:Nat),pv,S full,.bool false]) Tryd.isAgg27 fG rfl (.head _) rfl rfl)<|iO (cs:=[I (r:Nat),pv,S full,.bool false]) fG rfl rfl (fun u hu=>by simp only[af,aC,or_false] at hu;rcases hu with rfl|rfl|rfl|rfl<;>first|rfl|exact hB.one) (.s .z) rfl<|gC ?_;have uz:j=l.length:=by omega
 rw[uz] at hB;refine jv (cs:=[I (r:Nat),pv,S full,.bool false]) rfl Tryd.isAgg27 fG rfl (.tail _ (.head _)) rfl fun w' ia=>⟨r,pv,full,Hp,rfl,hB,?_⟩
 exact ia.sub ((ai _ _).trans (ai _ _))
theorem ahA (w:World) (l:List (List nz)) (sv:Value) (pe:zT w sv l) (nD:∀r∈l,Gt.Clean r) (AP:l.length<=1000000) (path:List UInt8) (mM:path.length<=100000):Calls Tryd.prog 6 #[sv,S path] w fun e w'=>e=.returned (.bool (dec (zg l path)))/\HF w (fun _=>False) [] w':=by
 refine enter (fun _=>False) [] Tryd.func6 rfl Tryd.ntmps6 rfl rfl (HF.start w _) fun c hc=>?_
 subst hc;have RO:=pe;obtain⟨ad,cp,rfl,s8,hc⟩:=pe;refine gz<|gD<|gF<|gC<|gz<|gD<|gB<|gB<|iP (fun v H2=>∃(r:Nat) (pv:Value) (full:List UInt8) (Hp:SH),v=.agg #[I (r:Nat),pv,S full,.bool false]/\Cp l path (qP l path l.length) r pv full Hp/\H2=Hp++[]) Tryd.call7 rfl rfl (fun w1 fa=>?_) ?_
 ·exact(Yn w1 l _ (RO.old fa) nD AP path (by omega)).mono fun e w' ⟨r,pv,full,Hp,h1,h2,h3⟩=>⟨_,_,h1,fa.o9 h3 h2.w,r,pv,full,Hp,rfl,h2,rfl⟩
 rintro v H2 ⟨r,pv,full,Hp,rfl,hB,rfl⟩;refine iK fy rfl rfl (fun b5 hb5=>?_);refine iO (cs:=[I (r:Nat),pv,S full,.bool false]) fG rfl rfl (fun u hu=>by simp only[af,aC,or_false] at hu;rcases hu with rfl|rfl|rfl|rfl<;>first|rfl|exact hB.one) .z rfl<|gC<|gz<|gz<|gD<|gH Ky rfl<|gA (gG aY rfl (.head _) rfl)<|gA (ie rfl rfl)<|gC<|gS rfl (fun Dd=>?_) (fun Dd=>?_)
 ·refine gz<|gz<|hO (H':=[]) (fun w1 h1=>h1.sub (ar _)) ?_
  have EM:qP l path l.length=none:=by
   rcases hB with h|⟨m,_,_,_,h,_⟩
   ·exact h.1
   omega
  have pt:zg l path<->∃x∈l,G0 x path:=by unfold zg;rw[EM]
  refine gD<|gB<|gA (iu bz rfl)<|gB<|gC<|gW ?_
  refine iC (fun N bc H'=>∃(j:Nat),j+N=l.length/\(∀(i:Nat) x,i<j->l[i]? =some x->¬G0 x path)/\Sub [(1,S path),(20,.slice ad l.length cp),(21,I (l.length:Nat)),(22,I (j:Nat))] bc/\H'=[]) l.length
   ⟨0,by omega,fun i x hi=>by omega,.of rfl,rfl⟩ ?_
  rintro N bc H' ⟨j,hj,nN,mJ,rfl⟩ ih;refine gN mJ ?_;clear mJ;refine gz<|gD<|gA (ik rfl rfl)<|gC<|gz<|gS rfl (fun uj=>?_) (fun uj=>?_)
  ·refine gL<|gz<|gW<|gz ?_;have oC:j<l.length:=by omega
   obtain⟨x,hx⟩:=gx oC;obtain⟨b,o,xv,e0,oV,oc⟩:=hc j x hx;have r8:=nD x (ap hx);refine gD ?_;subst e0;refine gA (ij (i:=j) bz dz rfl rfl oC)<|gA (hZ (v:=xv) ec rfl (by rw[aT];exact oV) id)<|gF<|gC<|gz<|gD<|gB<|gB<|iw (v:=.bool (dec (G0 x path))) Tryd.call20 rfl rfl (fun w1 fa=>ahm w1 x xv (oc.old fa) r8 path (by omega))<|gC<|gV rfl (fun tX=>?_) (fun tX=>?_)
   ·refine gz<|gD<|gF<|gC<|ic rfl rfl fun w' ia=>⟨?_,ia.sub (ar _)⟩
    exact rB<|pD (pt.2 ⟨x,ap hx,p8.1 tX⟩)
   refine gL<|il<|gD<|gA (iy j (by omega))<|gB<|gC<|ih (N-1) _ _ (by omega) ⟨j+1,by omega,fun i y hi hy=>?_,.of rfl,rfl⟩;by_cases wU:i=j
   ·subst wU;rw[hx] at hy;cases hy;exact pP.1 tX
   exact nN i y (by omega) hy
  refine ir rfl<|gz<|gD<|gF<|gC<|ic rfl rfl fun w' ia=>⟨?_,ia.sub (ar _)⟩
  refine rB<|oL fun h=>?_
  obtain⟨y,hy,hl⟩:=pt.1 h;obtain⟨i,hi⟩:=bY hy;exact nN i y (by have:=(ae.1 hi).1;omega) hi hl
 refine gL<|gz ?_;obtain⟨m,r0,ps,qD,sK,vS,_⟩:∃m a ps,qP l path l.length=some m/\r=m+1/\l[m]? =some a/\full=nV a/\qV a path=some ps/\ps.length<=12/\Own 80 2 pv ps.length (nJ ps) Hp:=hB.resolve_left (fun h=>by have:=h.2.1;omega);have py:=DM qD;obtain⟨b0,o0,rv,e00,JB,rT⟩:=hc m r0 vS;have AI:=nD r0 (ap vS)
 have pt:zg l path<->∃x∈l,sN (mY x) (mY r0)/\JU x r0 path:=by
  unfold zg;rw[qD];exact⟨fun⟨r1,h1,h2⟩=>by rw[vS] at h1;cases h1;exact h2,fun h=>⟨r0,vS,h⟩⟩
 refine gD<|gB ?_;refine gH Ky rfl<|gA (gG aY rfl (.head _) rfl) ?_;refine gA (iM (r:=((m:Nat):Int)) rfl rfl (by omega) (by omega) (by omega)) ?_;subst e00;refine gA (ij (i:=m) bz dz rfl rfl (by omega))<|gA (hZ (v:=rv) ec rfl (by rw[aT];exact JB) id) ?_;refine gF<|gC ?_;refine hO (H':=[]) (fun w1 h1=>h1.sub (ar _))<|gz ?_;refine gD<|gB ?_;refine gA (iR rfl rfl (by simp;omega))<|gF ?_;refine gC<|gz ?_;refine gz<|hY (fun bc H'=>Sub [(9,S (path++[47])),(0,.slice (some ⟨b0,o0,none⟩) l.length cp),(1,S path),(8,rv),(48,.bool (decide (1<path.length/\path[path.length-1]? =some 47)))] bc/\H'=[]) (fun Kg=>?_) ?_
 ·refine gD<|gB<|gA (ig aa rfl)<|gA (iS rfl rfl)<|gB<|gZ 41 rfl (fun sH=>?_) (fun sH=>?_)
  ·refine gU<|gU<|gI (ig aa rfl) ?_;have DK:=of_decide_eq_true sH;refine gI (iM (r:=((path.length-1:Nat):Int)) rfl rfl (by omega) (by omega) (by omega)) ?_;obtain⟨z,hz⟩:∃z,path[path.length-1]? =some z:=gx (by omega);refine gI (iG (i:=path.length-1) (b:=z) aa rfl rfl hz)<|gI (ie rfl rfl)<|gT<|gC<|Kg _ _ ⟨.cons rfl (.cons rfl (.cons rfl (.cons rfl (.cons (oM rfl ?_) .nil)))),rfl⟩;exact decide_eq_decide.2 ⟨fun h=>⟨by omega,by rw[hz,zx (x:=z) (k:=47) (by omega) (by omega)];rfl⟩,fun h=>by have h2:=h.2;rw[hz] at h2;cases h2;rfl⟩
  refine gE ?_;refine gE ?_;refine gE ?_;refine gE ?_;refine gE ?_;refine gE ?_;refine hG ?_;refine gC ?_;refine Kg _ _ ⟨.cons rfl (.cons rfl (.cons rfl (.cons rfl (.cons (oM rfl ?_) .nil)))),rfl⟩;have DK:=of_decide_eq_false sH;exact(decide_eq_false fun h=>DK (by have:=h.1;omega)).symm
 rintro bc H' ⟨ou,rfl⟩;refine gN ou ?_;clear ou;refine hY (fun bc H'=>Sub [(9,S (other path)),(0,.slice (some ⟨b0,o0,none⟩) l.length cp),(1,S path),(8,rv)] bc/\H'=[]) (fun Yo=>?_) ?_
 ·refine gV rfl (fun Ek=>?_) (fun Ek=>?_)
  ·have RP:=of_decide_eq_true Ek;refine gD<|gB ?_;refine gB<|gA (ig aa rfl) ?_;refine gA (iM (r:=((path.length-1:Nat):Int)) rfl rfl (by omega) (by omega) (by omega))<|gA (jm (j:=path.length-1) aa rfl rfl (by omega)) ?_;refine gF<|gC ?_;have e:other path=path.take (path.length-1):=if_pos RP;refine Yo _ _ ⟨?_,rfl⟩;rw[e];exact .of rfl
  refine gL ?_;have RP:=of_decide_eq_false Ek;have e:other path=path++[47]:=if_neg RP;refine Yo _ _ ⟨?_,rfl⟩;rw[e];exact .of rfl
 rintro bc H' ⟨ou,rfl⟩;refine gN ou ?_;clear ou;have hol:(other path).length <=path.length+1:=by unfold other;split<;>simp<;>omega
 refine gz<|gz<|gD<|gB<|gA (iu bz rfl)<|gB<|gC<|gW ?_
 refine iC (fun N bc H'=>∃(j:Nat),j+N=l.length/\(∀(i:Nat) x,i<j->l[i]? =some x->¬(sN (mY x) (mY r0)/\JU x r0 path))/\Sub [(1,S path),(8,rv),(9,S (other path)),(54,.slice (some ⟨b0,o0,none⟩) l.length cp),(55,I (l.length:Nat)),(56,I (j:Nat))] bc/\H'=[]) l.length
  ⟨0,by omega,fun i x hi=>by omega,.of rfl,rfl⟩ ?_
 rintro N bc H' ⟨j,hj,nN,mJ,rfl⟩ ih;refine gN mJ ?_;clear mJ;refine gz<|gD<|gA (ik rfl rfl)<|gC<|gz<|gS rfl (fun Jj=>?_) (fun Jj=>?_)
 ·refine gL<|gz<|gW<|gz ?_;have oC:j<l.length:=by omega
  obtain⟨x,hx⟩:=gx oC;obtain⟨b,o,xv,e0,oV,oc⟩:=hc j x hx;have r8:=nD x (ap hx);refine gD ?_;cases e0;refine gA (ij (i:=j) bz dz rfl rfl oC)<|gA (hZ (v:=xv) ec rfl (by rw[aT];exact oV) id)<|gF<|gC<|gz<|gz<|gD<|gB<|gB<|iw (v:=.bool (dec (sN (mY x) (mY r0)))) Tryd.call21 rfl rfl (fun w1 fa=>X9 w1 x r0 xv rv (oc.old fa) (rT.old fa) (wo r8) (wo AI))<|gA (iU rfl)<|gC<|gV rfl (fun xo=>?_) (fun xo=>?_)
  ·refine ir rfl<|gD<|gA (iy j (by omega))<|gB<|gC<|ih (N-1) _ _ (by omega) ⟨j+1,by omega,fun i y hi hy=>?_,.of rfl,rfl⟩;by_cases wU:i=j
   ·subst wU;rw[hx] at hy;cases hy;exact fun h=>pP.1 (by simpa using xo) h.1
   exact nN i y (by omega) hy
  refine gL<|gz ?_;have qi:sN (mY x) (mY r0):=p8.1 (by simpa using xo);refine gD<|gB<|gB<|iP (fun v H2=>∃vF ok Hs,v=.tuple #[vF,.bool ok]/\(ok=true<->qV x (other path)≠none)/\H2=Hs++[]) Tryd.call22 rfl rfl (fun w1 fa=>?_) ?_
  ·refine(Yc w1 x xv (oc.old fa) r8 (other path) (by omega)).mono fun e w' ⟨vF,ok,Hs,h1,h2,h3,h4⟩=>⟨_,_,h1,fa.o9 h4 h3,vF,ok,Hs,rfl,?_,rfl⟩
   rcases h2 with⟨h5,ps,h6,_⟩|⟨h5,h6⟩
   ·exact⟨fun _=>(by rw[h6];simp),fun _=>h5⟩
   exact⟨fun h=>(by rw[h5] at h;cases h),fun h=>absurd h6 h⟩
  rintro v H2 ⟨vF,ok,Hs,rfl,nk,rfl⟩;refine gB<|gA (iz rfl rfl)<|gA (iz rfl rfl)<|gF<|gF<|gC<|gz<|hY (fun bc H'=>Sub [(1,S path),(8,rv),(9,S (other path)),(54,.slice (some ⟨b0,o0,none⟩) l.length cp),(55,I (l.length:Nat)),(56,I (j:Nat)),(91,.bool (dec (JU x r0 path)))] bc/\H'=[]) (fun MV=>?_) ?_
  ·refine gD<|gB<|gB<|gZ 71 rfl (fun v8=>?_) (fun v8=>?_)
   ·refine gE ?_;refine gE ?_;refine gE ?_;refine gE ?_;refine gE ?_;refine gE ?_;refine gT ?_;refine gB ?_;refine gE ?_;refine gE ?_;refine gE ?_;refine gE ?_;refine gE ?_;refine gE ?_;refine iv ?_;refine iv ?_;refine iv ?_;refine iv ?_;refine gE ?_;refine gT ?_;refine gC ?_;refine hO (H':=[]) (fun w1 h1=>h1.sub (ar _)) ?_;refine MV _ _ ⟨.cons rfl (.cons rfl (.cons rfl (.cons rfl (.cons rfl (.cons rfl (.cons (oM rfl ?_) .nil)))))),rfl⟩;exact pD (.inl (nk.1 v8))
   refine gU<|jd rfl rfl<|iP (fun v H2=>∃Hk,Own 78 3 v (mY x).length (qd (mY x)) Hk/\H2=Hk++(Hs++[])) fH rfl rfl (fun w1 fa=>?_) ?_
   ·exact(B4 w1 x xv (oc.old fa) (wo r8).1 (wo r8).2).mono fun e w' ⟨kv,Hs,h1,h2,h3⟩=>⟨_,_,h1,fa.o9 h3 h2.w,Hs,h2,rfl⟩
   rintro k1 H2 ⟨Q1,Pf,rfl⟩;refine gU<|jd rfl rfl<|iP (fun v H2=>∃Hk,Own 78 3 v (mY r0).length (qd (mY r0)) Hk/\H2=Hk++(Q1++(Hs++[]))) fH rfl rfl (fun w1 fa=>?_) ?_
   ·exact(B4 w1 r0 rv (rT.old fa) (wo AI).1 (wo AI).2).mono fun e w' ⟨kv,Hs,h1,h2,h3⟩=>⟨_,_,h1,fa.o9 h3 h2.w,Hs,h2,rfl⟩
   rintro k2 H2 ⟨Q2,Gf,rfl⟩;refine gU<|jd rfl rfl<|iw (v:=.bool (dec (G1 (mY x) (mY r0) path))) Tryd.call23 rfl rfl (fun w1 fa=>Qc w1 (mY x) (mY r0) _ _ (Pf.mY fa (fun e he=>au _ (ay _ he))) (Gf.mY fa (fun e he=>ay _ he)) (wo r8).1 (wo AI).1 path (by omega))<|hG<|gB<|gZ 79 rfl (fun wY=>?_) (fun wY=>?_)
   ·refine gE ?_;refine gE ?_;refine gE ?_;refine gE ?_;refine gE ?_;refine gE ?_;refine iv ?_;refine iv ?_;refine iv ?_;refine iv ?_;refine gE ?_;refine gT ?_;refine gC ?_;refine hO (H':=[]) (fun w1 h1=>h1.sub (ar _)) ?_;refine MV _ _ ⟨.cons rfl (.cons rfl (.cons rfl (.cons rfl (.cons rfl (.cons rfl (.cons (oM rfl ?_) .nil)))))),rfl⟩;exact pD (.inr (.inl (p8.1 wY)))
   refine gU<|gI (ig aa rfl)<|gU<|gI (ig aa rfl)<|gI (ik rfl rfl)<|gU<|gZ 85 rfl (fun RQ=>?_) (fun RQ=>?_)
   ·refine gU<|jd rfl rfl<|iP (fun v H2=>∃Hk,Own 78 3 v (mY x).length (qd (mY x)) Hk/\H2=Hk++(Q2++(Q1++(Hs++[])))) fH rfl rfl (fun w1 fa=>?_) ?_
    ·exact(B4 w1 x xv (oc.old fa) (wo r8).1 (wo r8).2).mono fun e w' ⟨kv,Hs,h1,h2,h3⟩=>⟨_,_,h1,fa.o9 h3 h2.w,Hs,h2,rfl⟩
    rintro k3 H2 ⟨Q3,ho3,rfl⟩;refine gU<|jd rfl rfl<|iw (v:=.bool (dec (JT (mY x) (other path)))) Tryd.call25 rfl rfl (fun w1 fa=>yB w1 (mY x) _ (ho3.mY fa (fun e he=>ay _ he)) (wo r8).1 (other path) (by omega))<|gI (iL rfl rfl)<|hG<|gC<|hO (H':=[]) (fun w1 h1=>h1.sub (ar _))<|MV _ _ ⟨.cons rfl (.cons rfl (.cons rfl (.cons rfl (.cons rfl (.cons rfl (.cons (oM rfl ?_) .nil)))))),rfl⟩;have RS:¬qV x (other path)≠none:=fun h=>by have:=nk.2 h;rw[v8] at this;cases this
    have Co:=pP.1 wY;have Yp:=of_decide_eq_true RQ;exact VD ⟨fun h=>.inr (.inr ⟨by omega,h⟩),fun h=>(h.resolve_left RS).elim (fun h=>absurd h Co) (fun h=>h.2)⟩
   refine gE ?_;refine gE ?_;refine gE ?_;refine gE ?_;refine gI (iD rfl rfl) ?_;refine hG ?_;refine gC ?_;refine hO (H':=[]) (fun w1 h1=>h1.sub (ar _)) ?_;refine MV _ _ ⟨.cons rfl (.cons rfl (.cons rfl (.cons rfl (.cons rfl (.cons rfl (.cons (oM rfl ?_) .nil)))))),rfl⟩;have RS:¬qV x (other path)≠none:=fun h=>by have:=nk.2 h;rw[v8] at this;cases this
   have Co:=pP.1 wY;have Yp:=of_decide_eq_false RQ;exact oL fun h=>(h.resolve_left RS).elim (fun h=>Co h) (fun h=>Yp (by have:=h.1;omega))
  rintro bc H' ⟨ou,rfl⟩;refine gN ou ?_;clear ou;refine gV rfl (fun Hc=>?_) (fun Hc=>?_)
  ·refine gz<|gD<|gF<|gC<|ic rfl rfl fun w' ia=>⟨?_,ia.sub (ar _)⟩
   exact rB<|pD (pt.2 ⟨x,ap hx,qi,p8.1 Hc⟩)
  refine gL<|il<|gD<|gA (iy j (by omega))<|gB<|gC<|ih (N-1) _ _ (by omega) ⟨j+1,by omega,fun i y hi hy=>?_,.of rfl,rfl⟩;by_cases wU:i=j
  ·subst wU;rw[hx] at hy;cases hy;exact fun h=>pP.1 Hc h.2
  exact nN i y (by omega) hy
 refine ir rfl<|gz<|gD<|gF<|gC<|ic rfl rfl fun w' ia=>⟨?_,ia.sub (ar _)⟩
 refine rB<|oL fun h=>?_
 obtain⟨y,hy,hl⟩:=pt.1 h;obtain⟨i,hi⟩:=bY hy;exact nN i y (by have:=(ae.1 hi).1;omega) hi hl
end Go.Proofs
namespace Bw
open Go
section
variable {P:Program} {c:Cx} {n:Nat} {k:List Item} {fr:SF} {H:SH} {ops:Array Oper} {ty:TypeId} {pos:String} {mG:Array Edge} {S:World->Prop} {nv:Nat} {listed:Array Bool}
theorem kS {g:FuncId} {xs:List Operand} {vs:List Value} {pj:Array TypeId} {d:Nat} {v:Value} (hg:∀(args:Array Value) w,(callFunc g args).run P w=.ok (.enter g args) w) (he:rN fr xs=some vs) (hd:Nat.blt d n=true)
  (hS:∀w,HF c.w0 c.D H w->S w) (hc:∀w,HF c.w0 c.D H w->Calls P g vs.toArray w (fun e w'=>e=.returned v/\HF w (fun _=>False) [] w'))
  (hk:GA P c n k ops S nv listed ((d,v)::fr) H):
  GB P c n k ops S nv listed ⟨some d,.call ⟨.value (.func g),xs.toArray,pj⟩,ty,pos,mG,none⟩ fr H:=by
 refine jR (fun v' H'=>v'=v/\H'=H) hg he hd (fun v' H' ⟨_,h2⟩ w hw=>hS w (h2▸hw)) (fun w hw=>?_) (fun v' H' ⟨h1,h2⟩=>h1▸h2▸hk);refine(hc w hw).mono fun e w' ⟨h1,h2⟩=>⟨v,H,h1,?_,rfl,rfl⟩
 have:=hw.o9 h2 (fun e he=>by cases he);simpa using this
end
end Bw
namespace Go.Proofs
open Go Bw Gt
theorem RT {α:Type} (f:α->Nat):∀(l:List α) (m:Nat),m<=l.foldl (fun m r=>max m (f r)) m/\∀r∈l,f r<=l.foldl (fun m r=>max m (f r)) m
 |[],m=>⟨bI _,fun r h=>by cases h⟩
 |a::l,m=>by
  obtain⟨h1,h2⟩:=RT f l (max m (f a));refine⟨br (Nat.le_max_left _ _) h1,fun r hr=>?_⟩;rcases af.1 hr with rfl|hr
  ·exact br (Nat.le_max_right _ _) h1
  exact h2 r hr
theorem Yq {l:List (List Gt.Tok)}:∀r∈l,nW r<=oU l/\nS r<=oY l:=fun r h=>
 ⟨br (MK r) ((RT (fun r:List Gt.Tok=>(lg r).count 58+(lg r).count 42) l 0).2 r h),br (ML r) ((RT (fun r:List Gt.Tok=>(lg r).count 47) l 0).2 r h)⟩
def Told (l:List (List nz)) (un:Bool) (p:List UInt8) (r:Gt.n6):Prop:=(∃t g,rO new ((l.map oh).map lg) 0=.inl t/\n7 (o6 un) (oU (l.map oh)) (oY (l.map oh)) g t p [] []=some r)/\r.ps.length<=20000/\QZ l p (o6 un) r/\(¬zg l p->Q0 l p (o6 un) r)
theorem ahD {l:List (List nz)} (ht:zS l):l.map nV=(l.map oh).map lg:=by
 rw[gp];exact fJ fun r hr=>(E4 (ht.clean r hr).k2).symm
theorem ahE {l:List (List nz)} (ht:zS l):(∀r∈l.map oh,Gt.Good r)/\(∀r∈l.map oh,(lg r).length <=20000)/\∀r∈l.map oh,∀c∈lg r,c≠92:=by
 have key:∀r∈l.map oh,Gt.Good r/\(lg r).length <=20000/\∀c∈lg r,c≠92:=fun r hr=>by
  obtain⟨x,hx,rfl⟩:=aZ.1 hr;have hc:=ht.clean x hx;rw[E4 hc.k2];exact⟨hc.E7,hc.lg⟩
 exact⟨fun r hr=>(key r hr).1,fun r hr=>(key r hr).2.1,fun r hr=>(key r hr).2.2⟩
theorem ahF (w:World) (l:List (List nz)) (sv:Value) (th:l.length<=30) (xi:zS l) (pe:vq w sv (l.map nV)) (ps:List (List UInt8)) (pv:Value) (Ey:vq w pv ps) (B9:∀p∈ps,BJ l p) (xE:ps.length<=100000) (un:Bool):
  Calls Tryd.prog 12 #[sv,pv,.bool un] w fun e w'=>∃rr fv cells Hf Hq,rr.length=ps.length/\(∀(i:Nat) p r,ps[i]? =some p->rr[i]? =some r->Told l un p r)/\e=.returned (.tuple #[fv,.bool true])/\Own 50 4 fv rr.length cells Hf/\yp rr cells Hq/\HF w (fun _=>False) (Hf++Hq) w':=by
 obtain⟨hg,hl,oE⟩:=ahE xi;rw[ahD xi] at pe;refine(Vu w (l.map oh) sv hg hl oE (by rw[aQ];omega) pe ps pv Ey (fun p hp=>by have:=(B9 p hp).2.2.2.2;omega) xE un (fun t ht p hp=>?_)).mono fun e w' h=>?_
 ·obtain⟨g,r,h1,h2,_⟩:=XH (B9 p hp) Yq (o6 un) ht;exact⟨g,r,h1,h2⟩
 rcases h with⟨j,h1,_⟩|⟨t,rr,fv,cells,Hf,Hq,h1,h2,h3,h4,h5,h6,h7⟩
 ·obtain⟨t,ht⟩:=afX hg xi.pw (.refl _);rw[ht] at h1;cases h1
 refine⟨rr,fv,cells,Hf,Hq,h2,fun i p r hp hr=>?_,h4,h5,h6,h7⟩;obtain⟨g,Je⟩:=h3 i p r hp hr;obtain⟨g2,r2,h8,h9,oF,yg⟩:=XH (B9 p (ap hp)) Yq (o6 un) h1;have e:=Pa Je h8;subst e;exact⟨⟨t,g,h1,Je⟩,br h9 (Vt hl),oF,yg⟩
theorem ahG (w:World) (l:List (List nz)) (sv:Value) (p:List UInt8) (hf:BJ l p) (pe:vq w sv (l.map nV)) (pv:Value) (Ey:vq w pv [p]) (un:Bool):
  Calls Tryd.prog 12 #[sv,pv,.bool un] w fun e w'=>∃r fb cap spare pa Ha,Told l un p r/\e=.returned (.tuple #[Sx fb 1 cap,.bool true])/\Own 52 2 pa r.ps.length (nJ r.ps) Ha/\HF w (fun _=>False) (Rx fb (qk r pa++spare) 50::Ha) w':=by
 refine(ahF w l sv hf.1 hf.2.1 pe [p] pv Ey (fun q hq=>by rw[aj.1 hq];exact hf) (by simp) un).mono fun e w' ⟨rr,fv,cells,Hf,Hq,h2,h3,h4,h5,h6,h7⟩=>?_
 obtain⟨r1,rfl⟩:∃r1,rr=[r1]:=by
  match rr,h2 with
  |[r1],_=>exact⟨r1,rfl⟩
 obtain⟨pa,rfl,ho⟩:=h6.one;obtain⟨fb,cap,spare,rfl,rfl⟩:=h5.at (i:=0) (by simp);exact⟨r1,fb,cap,spare,pa,Hq,h3 0 p r1 rfl rfl,h4,ho,h7⟩
end Go.Proofs
namespace Go.Proofs.Ec
open Go Bw
theorem K5 (w:World) (ad:Option Addr) (cp:Nat) (Rs:List RB) (tG:JC w ad Rs) (nk:∀r∈Rs,r.ok) (hlen:Rs.length<=30):
  Calls Tryd.prog 34 #[.slice ad Rs.length cp] w fun e w'=>∃rb root rt eb zb z B T q R L,e=.returned (Pt zb 0)/\oA T q R root L z B/\B<=200000/\L.reverse.map Rt.key=Rs.zipIdx/\HF w (fun _=>False) (RH rb root rt eb zb z T L) w':=by
 refine enter (fun _=>False) [] Tryd.func34 rfl Tryd.ntmps34 rfl rfl (HF.start w _) fun c hc=>?_
 subst hc;refine gz<|gD<|gF<|gC<|gz<|gD<|iP (fun v H2=>∃rb root m rt eb zb,v=Pt zb 0/\H2=RH rb root rt eb zb 0 [wK root m] []) Tryd.call48 rfl rfl (fun w1 fa=>(Qc w1).mono fun e w' ⟨rb,root,m,rt,eb,zb,h1,h2⟩=>⟨_,_,h1,?_,rb,root,m,rt,eb,zb,rfl,rfl⟩) ?_
 ·have:=fa.o9 h2 (fun e he=>by
   simp only[mI,ed,List.flatMap_nil,NR.mI,wK,af,aB,aC,or_false] at he
   rcases he with rfl|rfl|rfl|rfl|rfl|rfl<;>rfl)
  simpa[RH,tm] using this
 rintro v H2 ⟨rb,root,m,rt,eb,zb,rfl,rfl⟩;refine gF<|gC<|gz<|gz<|gD<|gB<|gA (iu fe rfl)<|gB<|gC<|gW ?_
 refine iC (fun N bc H'=>∃j z T q R L,j+N=Rs.length/\oA T q R root L z (5000*j)/\L.reverse.map Rt.key=(Rs.take j).zipIdx /\Sub [(3,Pt zb 0),(7,.slice ad Rs.length cp),(8,I (Rs.length:Nat)),(9,I ((j:Nat):Int))] bc/\H'=RH rb root rt eb zb z T L) Rs.length
  ⟨0,0,[wK root m],fun _=>[],[],[],by omega,oA.new root m,rfl,.of rfl,rfl⟩ ?_
 rintro N bc H' ⟨j,z,T,q,R,L,hj,hinv,hL,hs,rfl⟩ ih;refine gN hs ?_;clear hs;refine gz<|gD<|gA (ik rfl rfl)<|gC<|gz<|gS rfl (fun oF=>?_) (fun oF=>?_)
 ·refine gL<|gz<|gW<|gz ?_;have mS:j<Rs.length:=by omega
  have hr:Rs[j]? =some Rs[j]:=ao mS;obtain⟨ab,o,rfl,vI⟩:=tG j _ hr;have Kp:=nk _ (eG mS);generalize hRB:Rs[j]=r at*;refine gD<|gB<|gA (ij (i:=j) fe Tryd.sizeOf39 rfl rfl mS)<|gA (ju (cs:=r.cells) Tryd.isAgg39 Tryd.sizeOf39 rfl vI rfl id)<|iK fA rfl rfl (fun xb zJ=>?_);refine gF<|iO (cs:=r.cells) Tryd.sizeOf39 rfl rfl (fun v hv=>?_) .z rfl ?_
  ·simp only[RB.cells,af,aC,or_false] at hv;rcases hv with rfl|rfl|rfl<;>rfl
  refine gC<|gD<|gB<|gH ac7 rfl<|gA (gG ag rfl (.head _) rfl)<|gH ac8 rfl<|gA (gG ag rfl (.head _) rfl)<|gH ac9 rfl<|gA (gG ag rfl (.head _) rfl)<|gB<|jo (H1:=nF rb root rt eb::nI eb zb::nK zb rb z::uf rt (tm L)::mI T) (Hk:=Rx xb r.cells 39::L.flatMap Rt.mI) (fun v H1=>∃nb T' q' Rn h hh pad mR Hn,v=Pt nb 0/\Sh T' q' (⟨(nh r.p none).1,some (r.m,h)⟩::Rn++R) root/\w6 (nh r.p none).1 r.m Rn/\(∀x∈T',x.ok (5000*j+5000))/\Own 9 1 (.slice pad (nh r.p none).2.length mR) (nh r.p none).2.length ((nh r.p none).2.map S) Hn/\H1=GV nb r.m r.p r.nm::uf rt (ug (tm L) (r.m++r.p) (Pt nb 0))::nT h (some hh) r.p pad (nh r.p none).2.length mR::nF rb root rt eb::nI eb zb::nK zb rb (max z (nh r.p none).2.length)::(mI T'++Hn++[Rx hh [I ((j:Nat):Int)] 3])) ?_ ?_ Tryd.call49 rfl rfl (fun w1 fa _=>?_) ?_
  ·exact(bG (l₁:=nF rb root rt eb::nI eb zb::nK zb rb z::uf rt (tm L)::mI T)).symm
  ·intro e he;simp only[af] at he;rcases he with rfl|rfl|rfl|rfl|he
   ·rfl
   ·rfl
   ·rfl
   ·rfl
   exact BP hinv.ok e he
  ·refine(B4 w1 _ T q R rb root rt eb zb z (5000*j) ((j:Nat):Int) (tm L) r.m r.p r.nm (nh r.p none).1 (nh r.p none).2 rfl Kp.hd Kp.uE Kp.pl Kp.ml hinv.sh hinv.Rl hinv.ok (by omega) fa).mono fun e w' ⟨nb,T',q',Rn,h,hh,pad,mR,Hn,h1,h2,h3,h4,h5,h6⟩=>?_
   refine⟨_,_,h1,fun e he=>?_,h6,nb,T',q',Rn,h,hh,pad,mR,Hn,rfl,h2,h3,h4,h5,rfl⟩;simp only[af,aB,aC,or_false] at he;rcases he with rfl|rfl|rfl|rfl|rfl|rfl|((he|he)|rfl)
   ·rfl
   ·rfl
   ·rfl
   ·rfl
   ·rfl
   ·rfl
   ·exact BP h4 e he
   ·exact h5.w e he
   rfl
  rintro v H1 ⟨nb,T',q',Rn,h,hh,pad,mR,Hn,rfl,g2,g3,g4,g5,rfl⟩;refine gC<|il<|gD<|gA (iB rfl rfl rfl (by omega) (by omega))<|gB<|gC ?_;have vt:=hinv.add (r:=⟨r,j,h,hh,nb,pad,mR,Hn⟩) Kp g2 g3 g4 g5;refine hO (H':=RH rb root rt eb zb (max z (nh r.p none).2.length) T' (⟨r,j,h,hh,nb,pad,mR,Hn⟩::L)) (fun w1 fa=>?_) (ih (N-1) _ _ (by omega) ⟨j+1,_,T',q',_,_,by omega,vt,?_,.of rfl,rfl⟩)
  ·have p:=oN [[GV nb r.m r.p r.nm],[uf rt (ug (tm L) (r.m++r.p) (Pt nb 0))],[nT h (some hh) r.p pad (nh r.p none).2.length mR],[nF rb root rt eb,nI eb zb,nK zb rb (max z (nh r.p none).2.length)],mI T',Hn,[Rx hh [I ((j:Nat):Int)] 3],[Rx xb r.cells 39],L.flatMap Rt.mI] [0,1,2,3,4,5,6,7,8] [7,3,1,4,6,0,2,5,8] (by decide);refine(HF.perm (H':=Rx xb r.cells 39::RH rb root rt eb zb (max z (nh r.p none).2.length) T' (⟨r,j,h,hh,nb,pad,mR,Hn⟩::L)) fa (List.Perm.trans (.of_eq ?_) (p.trans (.of_eq ?_)))).sub (ai _ _)
   ·simp
   simp[RH,tm,Rt.mI,Rt.pS]
  rw[List.take_succ_eq_append_getElem mS,List.zipIdx_append,<-hL,hRB];simp[Rt.key,dG (gu mS)]
 refine ir rfl<|gz<|gD<|gB<|gF<|gC<|ic rfl rfl fun w' ia=>⟨rb,root,rt,eb,zb,z,5000*j,T,q,R,L,rfl,hinv,by omega,?_,ia⟩
 rw[hL,bJ (by omega)]
end Go.Proofs.Ec
