/- Lemmas of the walk and plain facts (JgN2 .. JgN4). -/
import Derived.Test.YtmneeannkgnbpaaDoorL1
import Derived.Test.YtmneeannkgnbpaaDoorL2
import Derived.Test.YtmneeannkgnbpaaDoorP17
import Derived.Test.YtmneeannkgnbpaaDoorP01
set_option maxRecDepth 20000
namespace Go.Proofs
open Go Bw Gt
theorem agL (w:World) (s:List UInt8) (hs:s.length<=1000000000000):Calls Tryd.prog 54 #[S s] w fun e w'=>e=.returned (.bool (dec (Ez s)))/\HF w (fun _=>False) [] w':=by
 refine enter (fun _=>False) [] Tryd.func54 rfl Tryd.ntmps54 rfl rfl (HF.start w _) fun c hc=>?_
 subst hc;refine gz<|gD<|gF<|gC<|gz<|gz<|gD<|gB<|gA (ig aa rfl)<|gB<|gC<|gW ?_
 refine iC (fun N bc H'=>∃i,i+N=s.length/\(∀j x,j<i->s[j]? =some x->vA x)/\Sub [(0,S s),(6,I (s.length:Nat)),(7,I (i:Nat))] bc/\H'=[]) s.length
  ⟨0,by omega,fun j x hj=>by omega,.of rfl,rfl⟩ ?_
 rintro N bc H' ⟨i,hi,nk,mJ,rfl⟩ ih;refine gN mJ ?_;clear mJ;refine gz<|gD<|gA (ik rfl rfl)<|gC<|gz<|gS rfl (fun h8=>?_) (fun h8=>?_)
 ·refine gL<|gz<|gW<|gz<|gD<|gB<|gF<|gC<|gz ?_;have oO:i<s.length:=by omega
  obtain⟨x,hx⟩:=gx oO;refine gD<|gB<|gB<|gA (iG (i:=i) (b:=x) aa rfl rfl hx)<|gF<|gC<|gz<|hY (fun bc H'=>Sub [(0,S s),(6,I (s.length:Nat)),(7,I (i:Nat)),(38,.bool (dec (¬vA x)))] bc/\H'=[]) (fun J5=>?_) ?_
  ·refine gD<|gB<|gA (iF rfl rfl)<|gB<|gZ 15 rfl (fun qY=>?_) (fun qY=>?_)
   ·refine gU<|gI (ik rfl rfl)<|gU<|gZ 18 rfl (fun yG=>?_) (fun yG=>?_)
    ·refine gE ?_;refine gE ?_;refine gI (iL rfl rfl) ?_;refine gT ?_;refine gB ?_;refine gU ?_;refine gI (ik rfl rfl) ?_;refine gU ?_;refine gZ 26 rfl (fun xx=>?_) (fun xx=>?_)
     ·refine gE ?_;refine gE ?_;refine gI (iL rfl rfl) ?_;refine gT ?_;refine gB ?_;refine gU ?_;refine gI (ik rfl rfl) ?_;refine gU ?_;refine gZ 34 rfl (fun qF=>?_) (fun qF=>?_)
      ·refine gE ?_;refine gE ?_;refine gI (iL rfl rfl) ?_;refine gT ?_;refine gC ?_;clear ih;refine J5 _ _ ⟨.cons rfl (.cons rfl (.cons rfl (.cons (oM rfl ?_) .nil))),rfl⟩;clear J5;simp only[decide_eq_true_eq,decide_eq_false_iff_not,cK] at*;unfold vA;first|exact rJ (by omega)|exact tM (by omega)|exact oL (by omega)|exact pD (by omega)
      refine gU<|gI (iS rfl rfl)<|gI (iD rfl rfl)<|gT<|gC ?_;clear ih;refine J5 _ _ ⟨.cons rfl (.cons rfl (.cons rfl (.cons (oM rfl ?_) .nil))),rfl⟩;clear J5;simp only[decide_eq_true_eq,decide_eq_false_iff_not,cK] at*;unfold vA;first|exact rJ (by omega)|exact tM (by omega)|exact oL (by omega)|exact pD (by omega)
     refine gU<|gI (iS rfl rfl)<|gI (iD rfl rfl)<|gT<|gB<|gZ 31 rfl (fun Fj=>?_) (fun Fj=>?_)
     ·refine gU<|gI (ik rfl rfl)<|gU<|gZ 34 rfl (fun qF=>?_) (fun qF=>?_)
      ·refine gE ?_;refine gE ?_;refine gI (iL rfl rfl) ?_;refine gT ?_;refine gC ?_;clear ih;refine J5 _ _ ⟨.cons rfl (.cons rfl (.cons rfl (.cons (oM rfl ?_) .nil))),rfl⟩;clear J5;simp only[decide_eq_true_eq,decide_eq_false_iff_not,cK] at*;unfold vA;first|exact rJ (by omega)|exact tM (by omega)|exact oL (by omega)|exact pD (by omega)
      refine gU<|gI (iS rfl rfl)<|gI (iD rfl rfl)<|gT<|gC ?_;clear ih;refine J5 _ _ ⟨.cons rfl (.cons rfl (.cons rfl (.cons (oM rfl ?_) .nil))),rfl⟩;clear J5;simp only[decide_eq_true_eq,decide_eq_false_iff_not,cK] at*;unfold vA;first|exact rJ (by omega)|exact tM (by omega)|exact oL (by omega)|exact pD (by omega)
     refine gE ?_;refine gE ?_;refine gE ?_;refine iv ?_;refine iv ?_;refine gE ?_;refine hG ?_;refine gC ?_;clear ih;refine J5 _ _ ⟨.cons rfl (.cons rfl (.cons rfl (.cons (oM rfl ?_) .nil))),rfl⟩;clear J5;simp only[decide_eq_true_eq,decide_eq_false_iff_not,cK] at*;unfold vA;first|exact rJ (by omega)|exact tM (by omega)|exact oL (by omega)|exact pD (by omega)
    refine gU<|gI (iS rfl rfl)<|gI (iD rfl rfl)<|gT<|gB<|gZ 23 rfl (fun uj=>?_) (fun uj=>?_)
    ·refine gU<|gI (ik rfl rfl)<|gU<|gZ 26 rfl (fun xx=>?_) (fun xx=>?_)
     ·refine gE ?_;refine gE ?_;refine gI (iL rfl rfl) ?_;refine gT ?_;refine gB ?_;refine gU ?_;refine gI (ik rfl rfl) ?_;refine gU ?_;refine gZ 34 rfl (fun qF=>?_) (fun qF=>?_)
      ·refine gE ?_;refine gE ?_;refine gI (iL rfl rfl) ?_;refine gT ?_;refine gC ?_;clear ih;refine J5 _ _ ⟨.cons rfl (.cons rfl (.cons rfl (.cons (oM rfl ?_) .nil))),rfl⟩;clear J5;simp only[decide_eq_true_eq,decide_eq_false_iff_not,cK] at*;unfold vA;first|exact rJ (by omega)|exact tM (by omega)|exact oL (by omega)|exact pD (by omega)
      refine gU<|gI (iS rfl rfl)<|gI (iD rfl rfl)<|gT<|gC ?_;clear ih;refine J5 _ _ ⟨.cons rfl (.cons rfl (.cons rfl (.cons (oM rfl ?_) .nil))),rfl⟩;clear J5;simp only[decide_eq_true_eq,decide_eq_false_iff_not,cK] at*;unfold vA;first|exact rJ (by omega)|exact tM (by omega)|exact oL (by omega)|exact pD (by omega)
     refine gU<|gI (iS rfl rfl)<|gI (iD rfl rfl)<|gT<|gB<|gZ 31 rfl (fun Fj=>?_) (fun Fj=>?_)
     ·refine gU<|gI (ik rfl rfl)<|gU<|gZ 34 rfl (fun qF=>?_) (fun qF=>?_)
      ·refine gE ?_;refine gE ?_;refine gI (iL rfl rfl) ?_;refine gT ?_;refine gC ?_;clear ih;refine J5 _ _ ⟨.cons rfl (.cons rfl (.cons rfl (.cons (oM rfl ?_) .nil))),rfl⟩;clear J5;simp only[decide_eq_true_eq,decide_eq_false_iff_not,cK] at*;unfold vA;first|exact rJ (by omega)|exact tM (by omega)|exact oL (by omega)|exact pD (by omega)
      refine gU<|gI (iS rfl rfl)<|gI (iD rfl rfl)<|gT<|gC ?_;clear ih;refine J5 _ _ ⟨.cons rfl (.cons rfl (.cons rfl (.cons (oM rfl ?_) .nil))),rfl⟩;clear J5;simp only[decide_eq_true_eq,decide_eq_false_iff_not,cK] at*;unfold vA;first|exact rJ (by omega)|exact tM (by omega)|exact oL (by omega)|exact pD (by omega)
     refine gE ?_;refine gE ?_;refine gE ?_;refine iv ?_;refine iv ?_;refine gE ?_;refine hG ?_;refine gC ?_;clear ih;refine J5 _ _ ⟨.cons rfl (.cons rfl (.cons rfl (.cons (oM rfl ?_) .nil))),rfl⟩;clear J5;simp only[decide_eq_true_eq,decide_eq_false_iff_not,cK] at*;unfold vA;first|exact rJ (by omega)|exact tM (by omega)|exact oL (by omega)|exact pD (by omega)
    refine gE ?_;refine gE ?_;refine gE ?_;refine iv ?_;refine iv ?_;refine gE ?_;refine hG ?_;refine gB ?_;refine gE ?_;refine gE ?_;refine gE ?_;refine iv ?_;refine iv ?_;refine gE ?_;refine hG ?_;refine gC ?_;clear ih;refine J5 _ _ ⟨.cons rfl (.cons rfl (.cons rfl (.cons (oM rfl ?_) .nil))),rfl⟩;clear J5;simp only[decide_eq_false_iff_not,cK] at*;unfold vA;first|exact rJ (by omega)|exact tM (by omega)|exact oL (by omega)|exact pD (by omega)
   refine gE ?_;refine gE ?_;refine gE ?_;refine iv ?_;refine iv ?_;refine gE ?_;refine hG ?_;refine gB ?_;refine gE ?_;refine gE ?_;refine gE ?_;refine iv ?_;refine iv ?_;refine gE ?_;refine hG ?_;refine gB ?_;refine gE ?_;refine gE ?_;refine gE ?_;refine iv ?_;refine iv ?_;refine gE ?_;refine hG ?_;refine gC ?_;clear ih;refine J5 _ _ ⟨.cons rfl (.cons rfl (.cons rfl (.cons (oM rfl ?_) .nil))),rfl⟩;clear J5;simp only[decide_eq_true_eq,Bool.not_eq_false'] at*;unfold vA;first|exact rJ (by omega)|exact tM (by omega)|exact oL (by omega)|exact pD (by omega)
  rintro bc H' ⟨ou,rfl⟩;refine gN ou ?_;clear ou;refine gV rfl (fun yq=>?_) (fun yq=>?_)
  ·refine gz<|gD<|gF<|gC<|ic rfl rfl fun w' ia=>⟨?_,ia⟩
   exact rB<|oL fun h=>p8.1 yq (h.1 x (ap hx))
  refine gL<|il<|gD<|gA (iy i (by omega))<|gB<|gC<|ih (N-1) _ _ (by omega) ⟨i+1,by omega,fun j y hj hy=>?_,.of rfl,rfl⟩;by_cases uV:j=i
  ·subst uV;rw[hx] at hy;cases hy;exact dE.1 (pP.1 yq)
  exact nk j y (by omega) hy
 refine ir rfl<|gz<|gD<|gB<|gA (jy rfl rfl)<|gB<|gZ 42 rfl (fun s9=>?_) (fun s9=>?_)
 ·refine gU<|gI (ig aa rfl)<|gI (jG rfl rfl)<|gT<|gF<|gC ?_
  have pN:∀x∈s,vA x:=fun x hx=>by
   obtain⟨j,hj⟩:=bY hx;exact nk j x (by have:=(ae.1 hj).1;omega) hj
  refine ic rfl rfl fun w' ia=>⟨?_,ia⟩
  refine rB ?_;have DK:s≠[]:=by simpa using s9
  exact rJ ⟨fun h=>⟨pN,DK,by omega⟩,fun h=>by have:=h.2.2;omega⟩
 refine gE ?_;refine gE ?_;refine gE ?_;refine hG ?_;refine gF ?_;refine gC ?_;refine ic rfl rfl fun w' ia=>⟨?_,ia⟩
 refine rB ?_;have DK:s=[]:=by simpa using s9
 exact oL fun h=>h.2.1 DK
theorem agM (w:World) (p:nz):Calls Tryd.prog 37 #[.agg (oz p).toArray] w fun e w'=>e=.returned (.bool (dec (Gg p)))/\HF w (fun _=>False) [] w':=by
 refine enter (fun _=>False) [] Tryd.func37 rfl Tryd.ntmps37 rfl rfl (HF.start w _) fun c hc=>?_
 subst hc;refine gz<|gD<|jc (l:=oz p) rfl (by simp[oz,qp]) rfl (fun bb sW=>?_);refine gF<|gC<|gz<|gz<|gD<|gH tw rfl<|gA (gG ag rfl (.head _) rfl)<|gA (ig aa rfl)<|gA (iS rfl rfl)<|gC<|gS rfl (fun h6=>?_) (fun h6=>?_)
 ·refine gz<|gD<|gF<|gC<|ic rfl rfl fun w' ia=>⟨?_,ia.sub (ar _)⟩
  exact rB<|oL fun h=>by unfold Gg at h;omega
 refine gL<|gz<|gD<|gF<|gC<|ic rfl rfl fun w' ia=>⟨?_,ia.sub (ar _)⟩
 exact rB<|pD (by unfold Gg;omega)
theorem Kb (w:World) (l:List nz) (sv:Value) (pe:uA w sv l):Calls Tryd.prog 16 #[sv] w fun e w'=>e=.returned (.bool (dec (Ls l)))/\HF w (fun _=>False) [] w':=by
 refine enter (fun _=>False) [] Tryd.func16 rfl Tryd.ntmps16 rfl rfl (HF.start w _) fun c hc=>?_
 subst hc;obtain⟨ad,cp,rfl,s8,hc⟩:=pe;refine gz<|gD<|gF<|gC<|gz<|gz<|gD<|gB<|gA (iu bn rfl)<|gA (iS rfl rfl)<|gC<|gS rfl (fun h7=>?_) (fun h7=>?_)
 ·refine gz<|gD<|gF<|gC<|ic rfl rfl fun w' ia=>⟨?_,ia.sub (ar _)⟩
  exact rB<|oL fun h=>by have:=h.1;omega
 refine gL<|gz<|gz<|gD<|gB<|gA (iu bn rfl)<|gB<|gC<|gW ?_
 refine iC (fun N bc H'=>∃i,i+N=l.length/\(∀j x,j<i->l[j]? =some x->Gg x)/\Sub [(8,.slice ad l.length cp),(9,I (l.length:Nat)),(10,I (i:Nat))] bc/\H'=[]) l.length
  ⟨0,by omega,fun j x hj=>by omega,.of rfl,rfl⟩ ?_
 rintro N bc H' ⟨i,hi,nk,mJ,rfl⟩ ih;refine gN mJ ?_;clear mJ;refine gz<|gD<|gA (ik rfl rfl)<|gC<|gz<|gS rfl (fun yg=>?_) (fun yg=>?_)
 ·refine gL<|gz<|gW<|gz ?_;have oO:i<l.length:=by omega
  obtain⟨p,hp⟩:=gx oO;obtain⟨b,o,rfl,oV,oc⟩:=hc i p hp;refine gD<|gA (ij (i:=i) bn bH rfl rfl oO)<|gA (ju (cs:=oz p) ew bH rfl (AO oV oc) rfl id)<|iK ei rfl rfl (fun cb rF=>?_);refine iO (cs:=oz p) bH rfl rfl (by simp[oz,Value.oneCell']) .z rfl<|gC<|gz<|gD<|gA (ja (cs:=oz p) ew bH rfl (.head _) rfl rfl)<|iw (v:=.bool (dec (Gg p))) Tryd.call37 rfl rfl (fun w1 fa=>agM w1 p)<|gA (iU rfl)<|gC<|gV rfl (fun pA=>?_) (fun pA=>?_)
  ·refine gz<|gD<|gF<|gC<|ic rfl rfl fun w' ia=>⟨?_,ia.sub (ar _)⟩
   exact rB<|oL fun h=>pP.1 (by simpa using pA) (h.2 p (ap hp))
  refine gL<|il<|gD<|gA (iy i (by omega))<|gB<|gC<|hO (H':=[]) (fun w1 h1=>h1.sub (ar _))<|ih (N-1) _ _ (by omega) ⟨i+1,by omega,fun j y hj hy=>?_,.of rfl,rfl⟩;by_cases uV:j=i
  ·subst uV;rw[hp] at hy;cases hy;exact p8.1 (by simpa using pA)
  exact nk j y (by omega) hy
 refine ir rfl<|gz<|gD<|gF<|gC<|ic rfl rfl fun w' ia=>⟨?_,ia.sub (ar _)⟩
 refine rB<|pD ⟨by omega,fun x hx=>?_⟩;obtain⟨j,hj⟩:=bY hx;exact nk j x (by have:=(ae.1 hj).1;omega) hj
theorem agN (w:World) (l:List (List nz)) (sv:Value) (pe:zT w sv l):Calls Tryd.prog 4 #[sv] w fun e w'=>e=.returned (.bool (dec (Gi l)))/\HF w (fun _=>False) [] w':=by
 refine enter (fun _=>False) [] Tryd.func4 rfl Tryd.ntmps4 rfl rfl (HF.start w _) fun c hc=>?_
 subst hc;obtain⟨ad,cp,rfl,s8,hc⟩:=pe;refine gz<|gD<|gF<|gC<|gz<|gz<|gD<|gB<|gA (iu bz rfl)<|gA (iS rfl rfl)<|gC<|gS rfl (fun h7=>?_) (fun h7=>?_)
 ·refine gz<|gD<|gF<|gC<|ic rfl rfl fun w' ia=>⟨?_,ia⟩
  exact rB<|oL fun h=>by have:=h.1;omega
 refine gL<|gz<|gz<|gD<|gB<|gA (iu bz rfl)<|gB<|gC<|gW ?_
 refine iC (fun N bc H'=>∃i,i+N=l.length/\(∀j x,j<i->l[j]? =some x->Ls x)/\Sub [(8,.slice ad l.length cp),(9,I (l.length:Nat)),(10,I (i:Nat))] bc/\H'=[]) l.length
  ⟨0,by omega,fun j x hj=>by omega,.of rfl,rfl⟩ ?_
 rintro N bc H' ⟨i,hi,nk,mJ,rfl⟩ ih;refine gN mJ ?_;clear mJ;refine gz<|gD<|gA (ik rfl rfl)<|gC<|gz<|gS rfl (fun yg=>?_) (fun yg=>?_)
 ·refine gL<|gz<|gW<|gz ?_;have oO:i<l.length:=by omega
  obtain⟨p,hp⟩:=gx oO;obtain⟨b,o,rv,rfl,oV,oc⟩:=hc i p hp;refine gD<|gA (ij (i:=i) bz dz rfl rfl oO)<|gA (hZ (v:=rv) ec rfl (by rw[aT];exact oV) id)<|gF<|gC<|gz<|gD<|gB<|iw (v:=.bool (dec (Ls p))) Tryd.call16 rfl rfl (fun w1 fa=>Kb w1 p rv (oc.old fa))<|gA (iU rfl)<|gC<|gV rfl (fun pA=>?_) (fun pA=>?_)
  ·refine gz<|gD<|gF<|gC<|ic rfl rfl fun w' ia=>⟨?_,ia⟩
   exact rB<|oL fun h=>pP.1 (by simpa using pA) (h.2 p (ap hp))
  refine gL<|il<|gD<|gA (iy i (by omega))<|gB<|gC<|ih (N-1) _ _ (by omega) ⟨i+1,by omega,fun j y hj hy=>?_,.of rfl,rfl⟩;by_cases uV:j=i
  ·subst uV;rw[hp] at hy;cases hy;exact p8.1 (by simpa using pA)
  exact nk j y (by omega) hy
 refine ir rfl<|gz<|gD<|gF<|gC<|ic rfl rfl fun w' ia=>⟨?_,ia⟩
 refine rB<|pD ⟨by omega,fun x hx=>?_⟩;obtain⟨j,hj⟩:=bY hx;exact nk j x (by have:=(ae.1 hj).1;omega) hj
theorem agO (w:World) (p:nz):Calls Tryd.prog 10 #[.agg (oz p).toArray] w fun e w'=>e=.returned (.bool (decide (p.k.toNat=2)))/\HF w (fun _=>False) [] w':=by
 refine enter (fun _=>False) [] Tryd.func10 rfl Tryd.ntmps10 rfl rfl (HF.start w _) fun c hc=>?_
 subst hc;refine gz<|gD<|jc (l:=oz p) rfl (by simp[oz,qp]) rfl (fun bb sW=>?_);refine gF<|gC<|gz<|gD<|gH yM rfl<|gA (gG bt rfl (.head _) rfl)<|gA (ie rfl rfl)<|gF<|gC<|ic rfl rfl fun w' ia=>⟨?_,ia.sub (ar _)⟩
 exact rB<|decide_eq_decide.2 (by omega)
theorem agP (w:World) (l:List nz) (sv:Value) (pe:uA w sv l) (hl:l.length<=1000000):Calls Tryd.prog 28 #[sv,.func (.func 10) #[] #[]] w fun e w'=>∃n:Int,(0<=n<->∃p∈l,p.k.toNat=2)/\e=.returned (I n)/\HF w (fun _=>False) [] w':=by
 refine enter (fun _=>False) [] Tryd.func28 rfl Tryd.ntmps28 rfl rfl (HF.start w _) fun c hc=>?_
 subst hc;obtain⟨ad,cp,rfl,s8,hc⟩:=pe;refine gz<|gD<|gF<|gC<|gz<|gz<|gD<|gB<|gA (iu bn rfl)<|gB<|gC<|gW ?_
 refine iC (fun N bc H'=>∃j,j+N=l.length/\(∀(i:Nat) q,i<j->l[i]? =some q->¬q.k.toNat=2)/\Sub [(6,.slice ad l.length cp),(7,I (l.length:Nat)),(8,I ((j:Nat):Int)),(0,.slice ad l.length cp),(1,.func (.func 10) #[] #[])] bc/\H'=[]) l.length
  ⟨0,by omega,fun i q h=>absurd h (Nat.not_lt_zero i),.of rfl,rfl⟩ ?_
 rintro N bc H' ⟨j,hj,pN,hs,rfl⟩ ih;refine gN hs ?_;clear hs;refine gz<|gD<|gA (ik rfl rfl)<|gC<|gz<|gS rfl (fun h9=>?_) (fun h9=>?_)
 ·refine gL<|gz<|gW<|gz ?_;have mS:j<l.length:=by omega
  obtain⟨q,hq⟩:=gx mS;obtain⟨b,o,rfl,oV,oc⟩:=hc j q hq;refine gD<|gB<|gF<|gC<|gz<|gD<|gB<|gB<|gB<|gA (ij (i:=j) bn bH rfl rfl mS)<|gA (ju (cs:=oz q) ew bH rfl (AO oV oc) rfl id)<|lA (xs:=[.tmp 15]) (vs:=[.agg (oz q).toArray]) (cs:=[]) (K:=fun v w'=>v=.bool (decide (q.k.toNat=2))/\HF w (fun _=>False) [] w') Tryd.call10 rfl rfl rfl (fun w1 fa=>(agO w1 q).mono fun e w' ⟨h1,h2⟩=>⟨_,h1,rfl,by simpa using fa.o9 h2 (fun e he=>by cases he)⟩) ?_;rintro v w1 w2 _ ⟨rfl,tA⟩;refine⟨[],tA,?_⟩;refine gC<|gV rfl (fun pA=>?_) (fun pA=>?_)
  ·refine gz<|gD<|gB<|gF<|gC ?_;have hs:=of_decide_eq_true pA;exact ic rfl rfl fun w' ia=>⟨(j:Nat),⟨fun _=>⟨q,ap hq,hs⟩,fun _=>by omega⟩,rfl,ia⟩
  refine gL<|il<|gD<|gA (iy j (by omega))<|gB<|gC<|ih (N-1) _ _ (by omega) ⟨j+1,by omega,fun i q' hi Ce=>?_,.of rfl,rfl⟩;by_cases wU:i=j
  ·subst wU;rw[hq] at Ce;cases Ce;exact of_decide_eq_false pA
  exact pN i q' (by omega) Ce
 exact ir rfl<|gz<|gD<|gF<|gC<|ic rfl rfl fun w' ia=>⟨-1,⟨fun h=>by omega,fun⟨q,hq,hs⟩=>by obtain⟨i,hi⟩:=bY hq;exact absurd hs (pN i q (by have:=(ae.1 hi).1;omega) hi)⟩,rfl,ia⟩
theorem agQ (w:World) (l:List nz) (sv:Value) (pe:uA w sv l) (hl:l.length<=1000000):Calls Tryd.prog 9 #[sv,.func (.func 10) #[] #[]] w fun e w'=>e=.returned (.bool (dec (∃p∈l,p.k.toNat=2)))/\HF w (fun _=>False) [] w':=by
 refine enter (fun _=>False) [] Tryd.func9 rfl Tryd.ntmps9 rfl rfl (HF.start w _) fun c hc=>?_
 subst hc;refine gz<|gD<|gF<|gC<|gz<|gD<|gB<|gB<|iP (fun v H2=>∃n:Int,(0<=n<->∃p∈l,p.k.toNat=2)/\v=I n/\H2=[]) Tryd.call28 rfl rfl (fun w1 fa=>?_) ?_
 ·refine(agP w1 l sv (pe.old fa) hl).mono fun e w' ⟨n,h1,h2,h3⟩=>⟨_,_,h2,?_,n,h1,rfl,rfl⟩
  exact fa.o9 h3 (fun e he=>by cases he)
 rintro v H2 ⟨n,hn,rfl,rfl⟩;refine gA (jJ rfl rfl)<|gF<|gC<|ic rfl rfl fun w' ia=>⟨?_,ia⟩
 exact rB<|rJ hn
end Go.Proofs
namespace Bw
open Go
variable {P:Program} {c:Cx} {n:Nat} {k:List Item} {fr:SF} {H:SH} {ops:Array Oper} {rest tail:List Oper} {ty t u:TypeId} {pos:String} {mG:Array Edge} {S:World->Prop} {m nv:Nat} {listed:Array Bool}
theorem ll {e:TypeId} {x y:Operand} {ad:Option Addr} {len cp i s:Nat} {kd:IntKind} (hU:P.underlying t=some (.slice e)) (hs:∀w,(Go.sizeOf e).run P w=.ok s w) (hx:ev fr x=some (.slice ad len cp)) (hy:ev fr y=some (.int kd (i:Int))) (hi:i<=len) (_hc:len<=cp):
  nB P c n (.slice t x (some y) none none) ty fr H (.slice (if cp=i then ad else ad.map (·.add (i*s))) (len-i) (cp-i)):=by
 intro a w ha hw dst pos mG g;simp[execOp,ha.eval hx,ha.eval hy,Instr.sliceAt,Instr.slice,underlying,hU,Instr.sliceBounds,Instr.sliceBound,asIntOf,hi,hs]
theorem mA {T e:TypeId} {i:TypeInfo} {z:Value} {x y:Operand} {n0 cap m2:Nat} {ad mX:Option Addr} (hT:P.underlying T=some (.slice e)) (hi:P.info? e=some i) (hz:i.zero=some z)
  (hx:ev fr x=some (.slice ad n0 cap)) (hy:ev fr y=some (.slice mX 0 m2)) (hle:n0<=cap):nB P c n (.call ⟨.builtin .append, #[x,y], #[T,T]⟩) ty fr H (.slice ad n0 cap):=by
 intro a w ha hw dst pos mG g
 have hr:(Builtin.append_ #[T,T] ty #[.slice ad n0 cap,.slice mX 0 m2]).run P w=.ok (.slice ad n0 cap) w:=by
  have hf:(Builtin.firstCells i.size 0 (.slice mX 0 m2)).run P w=.ok #[] w:=by
   cases mX with
   |none=>exact run_firstCells_none (P:=P) w _ _ _ _
   |some b=>exact run_firstCells_some (P:=P) w i.size 0 b 0 m2 [] (by simp) (fun j v hj=>by simp at hj)
  cases ad<;>simp[Builtin.append_,run_underlying hT,Go.sizeOf,typeInfo,zeroValue,hi,hz,Builtin.lenOf,hle,hf,storeCells]
 simp[execOp,resolve,invoke,builtin,ha.eval hx,ha.eval hy,hr]
theorem mB {T e d s:Nat} {z:Value} (hT:P.underlying T=some (.slice e)) (hs:∀w,(Go.sizeOf e).run P w=.ok s w) (_hz:∀w,(zeroValue e).run P w=.ok z w) (hS:∀w,HF c.w0 c.D H w->S w) (hd:Nat.blt d n=true)
  (hk:∀b,GM P c n k ops S m tail nv listed ((d,Sx b 0 0)::fr) (Rx b [] e::H)):Ar P c n k ops S m tail nv listed ⟨some d,.buildSlice T 0 #[],ty,pos,mG,none⟩ fr H:=by
 refine kA (kb:=.row [] e (0,0)) (v:=fun b=>Sx b 0 0) (fun a w ha hw=>?_) hS hd hk;have h0:Array.range 0= #[]:=rfl;simp[execOp,Instr.buildSlice,underlying,hT,hs,Instr.fill,newRow,oe.den,h0]
end Bw
namespace Go.Proofs
open Go Bw Gt
theorem agR (d:Nat) (a c:Nat) (w:World):(Op.equalIn (d+1) 5 (.int .u8 (a:Int)) (.int .u8 (c:Int))).run Tryd.prog w=.ok (decide (a=c)) w:=by
 simp[Op.equalIn,underlying,bT];rw[df,decide_eq_true_iff,beq_iff_eq];omega
def pu (t:Tk):List Value:=[.int .u8 (t.k.toNat:Int),.int .u8 (t.c.toNat:Int),S t.nm]
theorem toNat_inj {a b:UInt8}:a.toNat=b.toNat<->a=b:=⟨fun h=>bU.1 h,fun h=>by rw[h]⟩
theorem Tk.eq_iff {x y:Tk}:x=y<->x.k.toNat=y.k.toNat/\x.c.toNat=y.c.toNat/\x.nm=y.nm:=by
 rw[toNat_inj,toNat_inj];constructor
 ·intro h;subst h;exact⟨rfl,rfl,rfl⟩
 obtain⟨a,b,d⟩:=x;obtain⟨a',b',d'⟩:=y;rintro⟨h1,h2,h3⟩;cases h1;cases h2;cases h3;rfl
theorem XT (x y:Tk) (w:World):(Op.equalIn 10000 78 (.agg (pu x).toArray) (.agg (pu y).toArray)).run Tryd.prog w=.ok (dec (x=y)) w:=by
 have e:Tryd.prog.underlying 78=some (.struct (Tryd.prog.fieldsOf 78)):=by kernel_rfl
 rw[show(10000:Nat)=9999+1 from rfl,run_equalIn_agg w 9999 78 _ _ e (by kernel_rfl)];have hf:Tryd.prog.fieldsOf 78= #[{name:= "kind",type:=5,offset:=0,embedded:=false,tag:= "",pkgPath:= "pub-bridleway/spec",byteOffset:=0},{name:= "c",type:=5,offset:=1,embedded:=false,tag:= "",pkgPath:= "pub-bridleway/spec",byteOffset:=1},{name:= "name",type:=9,offset:=2,embedded:=false,tag:= "",pkgPath:= "pub-bridleway/spec",byteOffset:=8}]:=by kernel_rfl
 have hp:∀(xs:Array Value) (i:Nat) (v:Value) (w:World),xs[i]? =some v->(part 9 xs i).run Tryd.prog w=.ok v w:=fun xs i v w h=>by
  simp[part,ag,h]
 have MP:∀(xs:Array Value) (i:Nat) (v:Value) (w:World),xs[i]? =some v->(part 5 xs i).run Tryd.prog w=.ok v w:=fun xs i v w h=>by
  simp[part,bt,h]
 have g0:∀q:Tk,(pu q).toArray[0]? =some (.int .u8 (q.k.toNat:Int)):=fun q=>rfl
 have g1:∀q:Tk,(pu q).toArray[1]? =some (.int .u8 (q.c.toNat:Int)):=fun q=>rfl
 have g2:∀q:Tk,(pu q).toArray[2]? =some (S q.nm):=fun q=>rfl
 rw[hf];simp only[Op.eqFields];have d5:∀(a c:Nat),(Op.equalIn 9999 5 (.int .u8 (a:Int)) (.int .u8 (c:Int))).run Tryd.prog w=.ok (decide (a=c)) w:=fun a c=>agR 9998 a c w
 simp[MP _ _ _ _ (g0 x),MP _ _ _ _ (g0 y),MP _ _ _ _ (g1 x),MP _ _ _ _ (g1 y),hp _ _ _ _ (g2 x),hp _ _ _ _ (g2 y),Vv,d5];have XU:=Tk.eq_iff (x:=x) (y:=y);by_cases h1:x.k.toNat=y.k.toNat<;>by_cases h2:x.c.toNat=y.c.toNat<;>by_cases h3:x.nm=y.nm<;>simp[h1,h2,h3]<;>first|exact p8.2 (XU.2 ⟨h1,h2,h3⟩)|(refine pP.2 fun h=>?_;have h4:=XU.1 h;first|exact h1 h4.1|exact h2 h4.2.1|exact h3 h4.2.2)
theorem lm {c:Cx} {n:Nat} {fr:SF} {H:SH} {ty u:TypeId} {x y:Operand} {p q:Tk} (hx:ev fr x=some (.agg (pu p).toArray)) (hy:ev fr y=some (.agg (pu q).toArray)):nB Tryd.prog c n (.binOp .eql 78 x y u) ty fr H (.bool (dec (p=q))):=by
 intro a1 w ha hw dst pos mG g;simp[execOp,ha.eval hx,ha.eval hy,run_eqGuard_agg (P:=Tryd.prog) w .eql 78 x y _ _ (by kernel_rfl),run_eql_struct,XT]
def qd (l:List Tk):List Value:=l.flatMap pu
theorem Rc (a b:List Tk):qd (a++b)=qd a++qd b:=by simp[qd]
theorem G6 (l:List Tk):(qd l).length =3*l.length:=by
 induction l with
 |nil=>rfl
 |cons t l ih=>
  have:qd (t::l)=pu t++qd l:=rfl;rw[this,ax,ih];simp[pu];omega
theorem Kc (t:Tk):∀u∈pu t,u.oneCell'=true:=by
 intro u hu;simp only[pu,af,aC,or_false] at hu;rcases hu with rfl|rfl|rfl<;>rfl
theorem agS (k:UInt8) (s:List UInt8) (w:World):(Instr.build 78 #[(0,.int .u8 (k.toNat:Int)),(2,S s)]).run Tryd.prog w=.ok (.agg (pu ⟨k,0,s⟩).toArray) w:=by
 simp[Instr.build,ej,Tryd.runUnderlying78,bV,ah,Instr.fill,tR,pu,Value.cells]
theorem agT (c:UInt8) (w:World):(Instr.build 78 #[(1,.int .u8 (c.toNat:Int))]).run Tryd.prog w=.ok (.agg (pu ⟨0,c,[]⟩).toArray) w:=by
 simp[Instr.build,ej,Tryd.runUnderlying78,bV,ah,Instr.fill,pu,Value.cells]
theorem XV {l:List nz} {j:Nat} {p:nz} (h:l[j]? =some p):mY (l.take (j+1))=mY (l.take j)++BI p:=by
 rw[By h];simp[mY]
theorem agU {l:List nz} (j:Nat):(mY (l.take j)).length <=(mY l).length :=by
 have:mY l=mY (l.take j)++mY (l.drop j):=by unfold mY;rw[<-List.flatMap_append,a8]
 rw[this,ax];omega
theorem B4 (w:World) (l:List nz) (sv:Value) (pe:uA w sv l) (hlen:(mY l).length <=1000000) (AP:l.length<=1000000):Calls Tryd.prog 24 #[sv] w fun e w'=>∃kv Hs,e=.returned kv/\Own 78 3 kv (mY l).length (qd (mY l)) Hs/\HF w (fun _=>False) Hs w':=by
 refine enter (fun _=>False) [] Tryd.func24 rfl Tryd.ntmps24 rfl rfl (HF.start w _) fun c hc=>?_
 subst hc;obtain⟨ad,cp,rfl,s8,hc⟩:=pe;refine gz<|gD<|gF<|gC<|gz<|gD<|gF<|gC<|gz<|gz<|gD<|gB<|gA (iu bn rfl)<|gB<|gC<|gW ?_
 refine iC (fun N bc H'=>∃j kv Hs,j+N=l.length/\Own 78 3 kv (mY (l.take j)).length (qd (mY (l.take j))) Hs/\Sub [(3,kv),(7,.slice ad l.length cp),(8,I (l.length:Nat)),(9,I (j:Nat))] bc/\Hs=H') l.length
  ⟨0,.slice none 0 0,[],by omega,Own.nil,.of rfl,rfl⟩ ?_
 rintro N bc H' ⟨j,kv,Hs,hj,nx,mJ,rfl⟩ ih;refine gN mJ ?_;clear mJ;refine gz<|gD<|gA (ik rfl rfl)<|gC<|gz<|gS rfl (fun oF=>?_) (fun oF=>?_)
 ·refine gL<|gz<|gW<|gz ?_;have oC:j<l.length:=by omega
  obtain⟨p,hp⟩:=gx oC;obtain⟨b,o,rfl,oV,oc⟩:=hc j p hp;have Ck:=XV hp;have hle:=agU (l:=l) (j+1);rw[Ck,ax] at hle;refine gD<|gA (ij (i:=j) bn bH rfl rfl oC)<|gA (ju (cs:=oz p) ew bH rfl (AO oV oc) rfl id)<|iK ei rfl rfl (fun pb zy=>?_);refine iO (cs:=oz p) bH rfl rfl (by simp[oz,Value.oneCell']) .z rfl<|gC<|gz<|gz<|gD<|gH yM rfl<|gA (gG bt rfl (.head _) rfl)<|gA (iF rfl rfl)<|gC<|gV rfl (fun qY=>?_) (fun qY=>?_)
  ·refine gz ?_;have od:p.k.toNat≠0:=by simpa using qY
   have oB:BI p=[⟨p.k,0,p.nm⟩]:=if_neg od;rw[oB] at Ck hle;simp only[cX] at hle;refine gD<|gB<|gH yM rfl<|gA (gG bt rfl (.head _) rfl)<|gH tw rfl<|gA (gG ag rfl (.head _) rfl)<|gA (iN (vs:=[(0,.int .u8 (p.k.toNat:Int)),(2,S p.nm)]) rfl (fun w1=>agS _ _ w1))<|je (vs:=pu ⟨p.k,0,p.nm⟩) (kj aV bA ej) rfl rfl (fun sb vm=>?_);refine jA (i:=Tryd.t78) (sz:=3) (qg:=24) aV rfl rfl rfl rfl rfl rfl rfl nx (H':=[Rx sb (pu ⟨p.k,0,p.nm⟩) 78,Rx pb (oz p) 34]) (aF (l₁:=([Rx sb (pu ⟨p.k,0,p.nm⟩) 78,Rx pb (oz p) 34]:SH))) (vf (vs:=pu ⟨p.k,0,p.nm⟩) (r:=[]) (by rw[aS];exact .head _)) rfl (Kc _) (by omega) (by omega) (by omega) rfl (fun ov nU oS=>?_);refine gF<|gC<|ir rfl<|gD<|gA (iy j (by omega))<|gB<|gC<|hO (H':=nU) (fun w1 h1=>h1.sub (aG _ _))<|ih (N-1) _ _ (by omega) ⟨j+1,ov,nU,by omega,?_,.of rfl,rfl⟩;rw[Ck,Rc,ax];exact oS
  refine gL<|gz ?_;have od:p.k.toNat=0:=by simpa using qY
  have oB:BI p=p.nm.map fun c=>⟨0,c,[]⟩:=if_pos od
  rw[oB] at Ck hle;rw[aQ] at hle;refine gD<|gH tw rfl<|gA (gG ag rfl (.head _) rfl)<|gA (ig aa rfl)<|gB<|gC<|gW ?_
  refine iC (fun N2 bc H'=>∃i kv Hs,i+N2=p.nm.length/\Own 78 3 kv (mY (l.take j)++(p.nm.take i).map fun c=>(⟨0,c,[]⟩:Tk)).length (qd (mY (l.take j)++(p.nm.take i).map fun c=>(⟨0,c,[]⟩:Tk))) Hs/\Sub [(3,kv),(5,Pt pb 0),(7,.slice (some ⟨b,o,none⟩) l.length cp),(8,I (l.length:Nat)),(9,I (j:Nat)),(26,I (p.nm.length:Nat)),(27,I (i:Nat))] bc/\H'=(Rx pb (oz p) 34)::Hs) p.nm.length
   ⟨0,kv,Hs,by omega,by rw[fU,List.map_nil,aS];exact nx,.of rfl,rfl⟩ ?_
  rintro N2 bc H' ⟨i,kv,Hs,hi,nx,mJ,rfl⟩ qz;refine gN mJ ?_;clear mJ;refine gz<|gD<|gA (ik rfl rfl)<|gC<|gz<|gS rfl (fun tX=>?_) (fun tX=>?_)
  ·refine gL<|gz<|gW<|gz ?_;have oO:i<p.nm.length:=by omega
   obtain⟨c,r8⟩:=gx oO
   have rY:(mY (l.take j)++(p.nm.take i).map fun c=>(⟨0,c,[]⟩:Tk)).length =(mY (l.take j)).length +i:=by
    simp;omega
   have Eg:(mY (l.take j)++(p.nm.take (i+1)).map fun c=>(⟨0,c,[]⟩:Tk))=(mY (l.take j)++(p.nm.take i).map fun c=>(⟨0,c,[]⟩:Tk))++[⟨0,c,[]⟩]:=by
    rw[By r8];simp
   refine gD<|gB<|gF<|gC<|gD<|gB<|gH tw rfl<|gA (gG ag rfl (.head _) rfl)<|gB<|gA (iG (i:=i) (b:=c) aa rfl rfl r8)<|gA (iN (vs:=[(1,.int .u8 (c.toNat:Int))]) rfl (fun w1=>agT _ w1))<|je (vs:=pu ⟨0,c,[]⟩) (kj aV bA ej) rfl rfl (fun sb vm=>?_);refine jA (i:=Tryd.t78) (sz:=3) (qg:=24) aV rfl rfl rfl rfl rfl rfl rfl nx (H':=[Rx sb (pu ⟨0,c,[]⟩) 78,Rx pb (oz p) 34]) (aF (l₁:=([Rx sb (pu ⟨0,c,[]⟩) 78,Rx pb (oz p) 34]:SH))) (vf (vs:=pu ⟨0,c,[]⟩) (r:=[]) (by rw[aS];exact .head _)) rfl (Kc _) (by omega) (by omega) (by omega) rfl (fun ov nU oS=>?_);refine gF<|gC<|il<|gD<|gA (iy i (by omega))<|gB<|gC<|hO (H':=Rx pb (oz p) 34::nU) (fun w1 h1=>h1.sub (ai _ _))<|qz (N2-1) _ _ (by omega) ⟨i+1,ov,nU,by omega,?_,.of rfl,rfl⟩;rw[Eg,Rc,ax];exact oS
  refine ir rfl<|il<|gD<|gA (iy j (by omega))<|gB<|gC ?_;have vh:i=p.nm.length:=by omega
  refine hO (H':=Hs) (fun w1 h1=>h1.sub (ai _ _))<|ih (N-1) _ _ (by omega) ⟨j+1,kv,Hs,by omega,?_,.of rfl,rfl⟩;rw[vh,b8] at nx;rw[Ck];exact nx
 refine ir rfl<|gz<|gD<|gB<|gF<|gC ?_;have uz:j=l.length:=by omega
 rw[uz,b8] at nx;exact ic rfl rfl fun w' ia=>⟨_,_,rfl,nx,ia⟩
end Go.Proofs
namespace Bw
open Go
section
variable {P:Program} {c:Cx} {n:Nat} {k:List Item} {fr:SF} {H:SH} {ops:Array Oper} {rest tail:List Oper} {ty t u:TypeId} {pos:String} {mG:Array Edge} {S:World->Prop} {m nv:Nat} {listed:Array Bool}
theorem lp {T e sz qg:Nat} {i:TypeInfo} {z:Value} {x y:Operand} {sv:Value} {n0:Nat} {xs vs:List Value} {Hs H':SH} {ad:Option Addr} {m1 mc d:Nat}
  (hT:P.underlying T=some (.slice e)) (hi:P.info? e=some i) (hz:i.zero=some z) (rM:i.size=sz) (zo:i.bytes=qg) (xR:z.cells.size=sz)
  (hx:ev fr x=some sv) (hy:ev fr y=some (.slice ad m1 mc)) (nx:Own e sz sv n0 xs Hs) (sO:H.Perm (Hs++H'))
  (xS:0<m1->∃a,ad=some a/\∀w,HF c.w0 c.D H w->∀j u,vs[j]? =some u->w.cell? (a.add j)=some u) (qW:vs.length=m1*sz) (h1:∀u∈vs,u.oneCell'=true) (r9:(n0+m1)*qg<=140737488355328) (xo:n0+m1<=9223372036854775807)
  (hS:∀w,HF c.w0 c.D H' w->S w) (hd:Nat.blt d n=true)
  (hk:∀sC nX,Own e sz sC (n0+m1) (xs++vs) nX->GM P c n k ops S m tail nv listed ((d,sC)::fr) (H'++nX)):
  Ar P c n k ops S m tail nv listed ⟨some d,.call ⟨.builtin .append, #[x,y], #[T,T]⟩,ty,pos,mG,none⟩ fr H:=by
 rcases fO m1 with h0|h0
 ·subst h0;have hv:vs=[]:=bw.1 (by omega);subst hv
  obtain⟨uY,uB,rfl,hle⟩:∃uY uB,sv=.slice uY n0 uB/\n0<=uB:=by
   cases nx with
   |nil=>exact⟨none,0,rfl,bI _⟩
   |row hn hc hle=>exact⟨_,_,rfl,hle⟩
  have s7:=hk _ _ (by rw[Nat.add_zero,aS];exact nx);refine kw (A:=Unit) (H':=fun _=>H'++Hs) (v:=fun _=>.slice uY n0 uB) (fun a w ha hw=>⟨(),w,?_,hw.perm (sO.trans aF)⟩) (fun _ w hw=>hS w (hw.sub (cL _ _))) hd (fun _=>s7);exact mA hT hi hz hx hy hle a w ha hw _ _ _ _
 obtain⟨a,rfl,hs⟩:=xS h0;exact kC hT hi hz rM zo xR hx hy nx sO hs qW h1 h0 r9 xo hS hd hk
end
theorem Own.tail {e sz n:Nat} {v:Value} {xs:List Value} {Hs:SH} (h:Own e sz v n xs Hs) (yy:xs.length=n*sz):∃ad cp,v=.slice ad n cp/\n<=cp/\∀(i:Nat) (w0:World) (D:Nat->Prop) (H:SH),(∀x∈Hs,x∈H)->0<n-i->∃a,(if cp=i then ad else ad.map (·.add (i*sz)))=some a/\∀w,HF w0 D H w->∀(j:Nat) u,(xs.drop (i*sz))[j]? =some u->w.cell? (a.add j)=some u:=by
 cases h with
 |nil=>exact⟨none,0,rfl,bI _,fun i w0 D H _ hi=>by omega⟩
 | @row b n cap xs spare hn hc hle=>
  refine⟨some ⟨b,0,none⟩,cap,rfl,hle,fun i w0 D H mU hi=>?_⟩;rw[if_neg (by omega)];refine⟨_,rfl,fun w hw j u hj=>?_⟩
  have e1:((⟨b,0,none⟩:Addr).add (i*sz)).add j=⟨b,i*sz+j,none⟩:=by
   by_cases h0:i*sz=0
   ·by_cases h1:j=0<;>simp[Addr.add,h0,h1]
   by_cases h1:j=0<;>simp[Addr.add,h0,h1]
  rw[e1];refine oQ hw (mU _ (.head _)) ?_;rw[bL] at hj;rw[n8,ak (ae.1 hj).1];exact hj
end Bw
namespace Go.Proofs
open Go Bw Gt
theorem G7 {l:List Tk} {j:Nat} {x:Tk} (h:l[j]? =some x) (r:List Value):((qd l++r).drop (0+j*3)).take 3=pu x:=by
 induction l generalizing j with
 |nil=>simp at h
 |cons t l ih=>
  have e:qd (t::l)=pu t++qd l:=rfl;rw[e,aw]
  cases j with
  |zero=>simp at h;subst h;simp[pu]
  |succ j=>
   have e2:0+(j+1)*3=(pu t).length +(0+j*3):=by simp[pu];omega
   rw[e2,<-bZ,eE];exact ih (by simpa using h)
theorem Fk {l:List Tk} {j:Nat} {x:Tk} (h:l[j]? =some x) (r:List Value):nth (qd l++r) (0+j*3+0)=some (.int .u8 (x.k.toNat:Int)):=by
 have h1:=G7 h r;have h2:(((qd l++r).drop (0+j*3)).take 3)[0]? =some (.int .u8 (x.k.toNat:Int)):=by rw[h1];rfl
 rw[bP (by omega),bL] at h2;rw[n8];exact h2
theorem agV {x y z:List Tk} {t:Tk} (h:x=[]\/y=[]) (hz:x++y=t::z):v7 x y<->t.k.toNat≠2:=by
 rcases h with rfl|rfl
 ·simp at hz;subst hz;simp[v7]
 simp at hz;subst hz;simp[v7]
theorem zw {a b:Tk} {s r:List Tk}:v7 (a::s) (b::r)<->(a=b/\v7 s r)\/(a≠b/\a.k.toNat≠2/\b.k.toNat≠2/\¬(a.k.toNat=1/\b.k.toNat=1)):=gy
theorem XW (l:List Tk) (i:Nat):(qd l).drop (i*3)=qd (l.drop i):=by
 induction i generalizing l with
 |zero=>simp
 |succ i ih=>
  cases l with
  |nil=>simp[qd]
  |cons t l=>
   have e:qd (t::l)=pu t++qd l:=rfl;have e2:(i+1)*3=(pu t).length +i*3:=by simp[pu];omega
   rw[e,e2,<-bZ,eE,ih];rfl
theorem XX (l:List Tk):∀u∈qd l,u.oneCell'=true:=by
 intro u hu;obtain⟨t,_,ht⟩:=dP.1 hu;exact Kc t u ht
theorem agW (w:World) (la lb:List nz) (sa sb:Value) (Re:uA w sa la) (vm:uA w sb lb) (Df:(mY la).length <=1000000/\la.length<=1000000) (yO:(mY lb).length <=1000000/\lb.length<=1000000):Calls Tryd.prog 39 #[sa,sb] w fun e w'=>e=.returned (.bool (dec (v7 (mY la) (mY lb))))/\HF w (fun _=>False) [] w':=by
 refine enter (fun _=>False) [] Tryd.func39 rfl Tryd.ntmps39 rfl rfl (HF.start w _) fun c hc=>?_
 subst hc;obtain⟨x,yx⟩:∃x,mY la=x:=⟨_,rfl⟩;obtain⟨y,Fl⟩:∃y,mY lb=y:=⟨_,rfl⟩;rw[yx,Fl];have yy:x.length<=1000000:=by rw[<-yx];exact Df.1
 have hyl:y.length<=1000000:=by rw[<-Fl];exact yO.1
 refine gz<|gD<|gF<|gC<|gz<|gD<|gB<|iP (fun v H2=>∃Hk,Own 78 3 v x.length (qd x) Hk/\H2=Hk++[]) fH rfl rfl (fun w1 fa=>?_) ?_
 ·refine(B4 w1 la sa (Re.old fa) Df.1 Df.2).mono fun e w' ⟨kv,Hs,h1,h2,h3⟩=>?_
  rw[yx] at h2;exact⟨_,_,h1,fa.o9 h3 h2.w,Hs,h2,rfl⟩
 rintro kx H2 ⟨Hx,Fh,rfl⟩;refine gB<|iP (fun v H2=>∃Hk,Own 78 3 v y.length (qd y) Hk/\H2=Hk++(Hx++[])) fH rfl rfl (fun w1 fa=>?_) ?_
 ·refine(B4 w1 lb sb (vm.old fa) yO.1 yO.2).mono fun e w' ⟨kv,Hs,h1,h2,h3⟩=>?_
  rw[Fl] at h2;exact⟨_,_,h1,fa.o9 h3 h2.w,Hs,h2,rfl⟩
 rintro ky H2 ⟨Hy,Kd,rfl⟩;refine gF<|gF<|gC ?_;rw[aS];obtain⟨Cm,yH,rfl,r8,MQ⟩:=Fh.tail (by rw[G6,eu]);obtain⟨Ke,Fm,rfl,XY,XZ⟩:=Kd.tail (by rw[G6,eu]);refine gz<|gD<|gF<|gC<|gW ?_
 refine iC (fun N bc H'=>∃i,i+N=x.length/\i<=y.length/\(v7 x y<->v7 (x.drop i) (y.drop i))/\Sub [(5,.slice Cm x.length yH),(6,.slice Ke y.length Fm),(7,I (i:Nat))] bc/\H'=Hy++Hx) x.length
  ⟨0,by omega,bM _,gy,.of rfl,rfl⟩ ?_
 rintro N bc H' ⟨i,hi,hiy,q4,mJ,rfl⟩ ih;refine gN mJ ?_;clear mJ;refine gz<|gW<|gz<|gW<|gz<|hY (fun bc H'=>Sub [(5,.slice Cm x.length yH),(6,.slice Ke y.length Fm),(7,I (i:Nat)),(15,.bool (dec (i=x.length/\i=y.length)))] bc/\H'=Hy++Hx) (fun J4=>?_) ?_
 ·refine gD<|gB<|gB<|gA (iu aV rfl)<|gA (ie rfl rfl)<|gB<|gZ 20 rfl (fun AQ=>?_) (fun AQ=>?_)
  ·refine gU<|gU<|gI (iu aV rfl)<|gI (ie rfl rfl)<|gT<|gF<|gC<|J4 _ _ ⟨.cons rfl (.cons rfl (.cons rfl (.cons (oM rfl ?_) .nil))),rfl⟩;have X0:=of_decide_eq_true AQ;exact rJ ⟨fun h=>⟨by omega,by omega⟩,fun h=>by omega⟩
  refine gE ?_;refine gE ?_;refine gE ?_;refine gE ?_;refine hG ?_;refine gF ?_;refine gC ?_;refine J4 _ _ ⟨.cons rfl (.cons rfl (.cons rfl (.cons (oM rfl ?_) .nil))),rfl⟩;have X0:=of_decide_eq_false AQ;exact oL fun h=>X0 (by omega)
 rintro bc H' ⟨ou,rfl⟩;refine gN ou ?_;clear ou;refine gV rfl (fun qY=>?_) (fun qY=>?_)
 ·refine gz ?_;obtain⟨L2,hy0⟩:=p8.1 qY;refine gD<|gF<|gC<|ic rfl rfl fun w' ia=>⟨?_,ia.sub (ar _)⟩
  exact rB<|oL fun h=>by rw[q4,L2,cH,<-L2,hy0,cH] at h;exact h
 refine gz<|hY (fun bc H'=>Sub [(5,.slice Cm x.length yH),(6,.slice Ke y.length Fm),(7,I (i:Nat)),(26,.bool (dec (i=x.length\/i=y.length)))] bc/\H'=Hy++Hx) (fun J6=>?_) ?_
 ·refine gD<|gB<|gB<|gA (iu aV rfl)<|gA (ie rfl rfl)<|gB<|gZ 31 rfl (fun Fj=>?_) (fun Fj=>?_)
  ·refine gE ?_;refine gE ?_;refine gE ?_;refine gE ?_;refine gT ?_;refine gF ?_;refine gC ?_;refine J6 _ _ ⟨.cons rfl (.cons rfl (.cons rfl (.cons (oM rfl ?_) .nil))),rfl⟩;have agZ:=of_decide_eq_true Fj;exact pD (.inl (by omega))
  refine gU<|gU<|gI (iu aV rfl)<|gI (ie rfl rfl)<|hG<|gF<|gC<|J6 _ _ ⟨.cons rfl (.cons rfl (.cons rfl (.cons (oM rfl ?_) .nil))),rfl⟩;have agZ:=of_decide_eq_false Fj;exact rJ ⟨fun h=>.inr (by omega),fun h=>by omega⟩
 rintro bc H' ⟨ou,rfl⟩;refine gN ou ?_;clear ou;refine gV rfl (fun xx=>?_) (fun xx=>?_)
 ·refine gz ?_;have hor:=p8.1 xx;have ajW:=pP.1 qY;have ag1:=MQ i;have ag2:=XZ i;have hlx:(qd (x.drop i)).length =(x.length-i)*3:=by rw[G6,aA,eu]
  have hly:(qd (y.drop i)).length =(y.length-i)*3:=by rw[G6,aA,eu]
  refine jT 9 (fun _=>True) mixed (by kernel_rfl)<|iq 1 rfl (fun _ _=>trivial) (gM rfl)<|iq 2 rfl (fun _ _=>trivial) (gM rfl)<|iq 3 rfl (fun _ _=>trivial) (ll (i:=i) aV bA rfl rfl (by omega) r8)<|iq 5 rfl (fun _ _=>trivial) (gM rfl)<|iq 6 rfl (fun _ _=>trivial) (gM rfl)<|iq 7 rfl (fun _ _=>trivial) (ll (i:=i) aV bA rfl rfl (by omega) XY)<|jC 0 rfl (by kernel_rfl)<|mB aV bA ej (fun _ _=>trivial) rfl (fun eb=>?_);refine jC 4 rfl (by kernel_rfl)<|lp (i:=Tryd.t78) (sz:=3) (qg:=24) (vs:=qd (x.drop i)) aV rfl rfl rfl rfl rfl rfl rfl (Own.row (b:=eb) (n:=0) (cap:=0) (xs:=[]) (spare:=[]) rfl rfl (bI _)) (H':=Hy++Hx) (.of_eq rfl) (fun h0=>by have:=ag1 w (fun _=>False) (Rx eb [] 78::(Hy++Hx)) (fun e he=>dW _ (au _ he)) h0;rw[XW] at this;exact this) hlx (XX _) (by omega) (by omega) (fun _ _=>trivial) rfl (fun kz Hz hoz=>?_);refine jC 8 rfl (by kernel_rfl)<|lp (i:=Tryd.t78) (sz:=3) (qg:=24) (vs:=qd (y.drop i)) aV rfl rfl rfl rfl rfl rfl rfl hoz (H':=Hy++Hx) aF (fun h0=>by have:=ag2 w (fun _=>False) (Hy++Hx++Hz) (fun e he=>ay _ (ay _ he)) h0;rw[XW] at this;exact this) hly (XX _) (by omega) (by omega) (fun _ _=>trivial) rfl (fun kz2 Hz2 X1=>?_);refine jU (by kernel_rfl)<|gF<|gC<|gz ?_;have hz0:[]++qd (x.drop i)++qd (y.drop i)=qd (x.drop i++y.drop i):=by rw[Rc];rfl
  rw[hz0] at X1;obtain⟨zb,zc,zs,rfl,rfl⟩:=X1.at (i:=0) (by omega)
  obtain⟨t,z,hz⟩:∃t z,x.drop i++y.drop i=t::z:=by
   cases hd:x.drop i++y.drop i with
   |nil=>have:=congrArg List.length hd;simp at this;omega
   |cons t z=>exact⟨t,z,rfl⟩
  have tG:(x.drop i++y.drop i)[0]? =some t:=by rw[hz];rfl
  refine gD<|gB ?_;refine gA (ij (i:=0) aV bA rfl rfl (by omega))<|gH zt rfl ?_;refine gA (gG bt rfl (au _ (.head _)) (Fk tG _))<|gA (iF rfl rfl) ?_;refine gF<|gC<|ic rfl rfl fun w' ia=>⟨?_,ia.sub (ar _)⟩
  refine rB ?_;have hae:=agV (x:=x.drop i) (y:=y.drop i) (hor.elim (fun h=>.inl (by rw[h,cH])) (fun h=>.inr (by rw[h,cH]))) hz;refine tM ?_;rw[q4,hae];exact⟨fun h h2=>h (by omega),fun h h2=>h (by omega)⟩
 refine gz ?_;have ajZ:=pP.1 xx;have Bc:i<x.length:=by omega
 have xX:i<y.length:=by omega
 obtain⟨a,tJ⟩:=gx Bc;obtain⟨b,DL⟩:=gx xX;obtain⟨xb,xc,xs,ex,rfl⟩:=Fh.at (i:=i) Bc;obtain⟨yb,yc,ys,ey,rfl⟩:=Kd.at (i:=i) xX;cases ex;cases ey;have Rf:=drop_cons tJ;have Rg:=drop_cons DL;rw[Rf,Rg,zw] at q4;refine iV mixed (by kernel_rfl)<|gK (gM rfl)<|gK (gM rfl)<|gK (ij (i:=i) aV bA rfl rfl Bc)<|gK (ja (cs:=pu a) eI bA rfl (.tail _ (.head _)) (G7 tJ _) rfl)<|gK (gM rfl)<|gK (gM rfl)<|gK (ij (i:=i) aV bA rfl rfl xX)<|gK (ja (cs:=pu b) eI bA rfl (.head _) (G7 DL _) rfl)<|gK (lm rfl rfl)<|gK (iT rfl)<|iH<|gV rfl (fun wW=>?_) (fun wW=>?_)
 ·refine ir rfl ?_;refine gD ?_;refine gB ?_;refine gA (iB (r:=((i+1:Nat):Int)) rfl rfl (by omega) (by omega) (by omega)) ?_;refine gF ?_;refine gC ?_;have pq:=p8.1 wW;refine ih (N-1) _ _ (by omega) ⟨i+1,by omega,by omega,?_,.of rfl,rfl⟩;rw[q4];exact⟨fun h=>h.elim (fun h=>h.2) (fun h=>absurd pq h.1),fun h=>.inl ⟨pq,h⟩⟩
 refine gz<|hY (fun bc H'=>Sub [(5,Sx xb x.length yH),(6,Sx yb y.length Fm),(7,I (i:Nat)),(61,.bool (dec (a.k.toNat=2\/b.k.toNat=2)))] bc/\H'=[Rx yb (qd y++ys) 78]++[Rx xb (qd x++xs) 78]) (fun X2=>?_) ?_
 ·refine gD<|gB<|gB<|gA (ij (i:=i) aV bA rfl rfl Bc)<|gH zt rfl<|gA (gG bt rfl (.tail _ (.head _)) (Fk tJ _))<|gA (ie rfl rfl)<|gB<|gZ 68 rfl (fun yw=>?_) (fun yw=>?_)
  ·refine gE ?_;refine gE ?_;refine gE ?_;refine gE ?_;refine gE ?_;refine gE ?_;refine gT ?_;refine gF ?_;refine gC ?_;refine X2 _ _ ⟨.cons rfl (.cons rfl (.cons rfl (.cons (oM rfl ?_) .nil))),rfl⟩;have Cn:=of_decide_eq_true yw;exact pD (.inl (by omega))
  refine gU<|gU<|gI (ij (i:=i) aV bA rfl rfl xX)<|gI (gQ zt rfl)<|gI (gG bt rfl (.head _) (Fk DL _))<|gI (ie rfl rfl)<|hG<|gF<|gC<|X2 _ _ ⟨.cons rfl (.cons rfl (.cons rfl (.cons (oM rfl ?_) .nil))),rfl⟩;have Cn:=of_decide_eq_false yw;exact rJ ⟨fun h=>.inr (by omega),fun h=>by omega⟩
 rintro bc H' ⟨ou,rfl⟩;refine gN ou ?_;clear ou;refine gV rfl (fun w8=>?_) (fun w8=>?_)
 ·refine gz<|gD<|gF<|gC<|ic rfl rfl fun w' ia=>⟨?_,ia.sub (ar _)⟩
  refine rB ?_;have G8:=p8.1 w8;have Kf:=pP.1 wW;refine oL fun h=>?_
  rw[q4] at h;rcases h with h|h
  ·exact Kf h.1
  exact G8.elim h.2.1 h.2.2.1
 refine gz<|hY (fun bc H'=>Sub [(5,Sx xb x.length yH),(6,Sx yb y.length Fm),(7,I (i:Nat)),(76,.bool (dec (a.k.toNat=1/\b.k.toNat=1)))] bc/\H'=[Rx yb (qd y++ys) 78]++[Rx xb (qd x++xs) 78]) (fun Kg=>?_) ?_
 ·refine gD<|gB<|gB<|gA (ij (i:=i) aV bA rfl rfl Bc)<|gH zt rfl<|gA (gG bt rfl (.tail _ (.head _)) (Fk tJ _))<|gA (ie rfl rfl)<|gB<|gZ 83 rfl (fun AV=>?_) (fun AV=>?_)
  ·refine gU<|gU<|gI (ij (i:=i) aV bA rfl rfl xX)<|gI (gQ zt rfl)<|gI (gG bt rfl (.head _) (Fk DL _))<|gI (ie rfl rfl)<|gT<|gF<|gC<|Kg _ _ ⟨.cons rfl (.cons rfl (.cons rfl (.cons (oM rfl ?_) .nil))),rfl⟩;have X3:=of_decide_eq_true AV;exact rJ ⟨fun h=>⟨by omega,by omega⟩,fun h=>by omega⟩
  refine gE ?_;refine gE ?_;refine gE ?_;refine gE ?_;refine gE ?_;refine gE ?_;refine hG ?_;refine gF ?_;refine gC ?_;refine Kg _ _ ⟨.cons rfl (.cons rfl (.cons rfl (.cons (oM rfl ?_) .nil))),rfl⟩;have X3:=of_decide_eq_false AV;exact oL fun h=>X3 (by omega)
 rintro bc H' ⟨ou,rfl⟩;refine gN ou ?_;clear ou;refine gV rfl (fun B7=>?_) (fun B7=>?_)
 ·refine gz<|gD<|gF<|gC<|ic rfl rfl fun w' ia=>⟨?_,ia.sub (ar _)⟩
  refine rB ?_;have Rh:=p8.1 B7;have Kf:=pP.1 wW;refine oL fun h=>?_
  rw[q4] at h;rcases h with h|h
  ·exact Kf h.1
  exact h.2.2.2 Rh
 refine gL<|il<|gz<|gD<|gF<|gC<|ic rfl rfl fun w' ia=>⟨?_,ia.sub (ar _)⟩
 refine rB ?_;have Rh:=pP.1 B7;have Kf:=pP.1 wW;have G8:=pP.1 w8;refine pD ?_;rw[q4];exact .inr ⟨Kf,fun h=>G8 (.inl h),fun h=>G8 (.inr h),Rh⟩
end Go.Proofs
