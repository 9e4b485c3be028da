/- Lemmas of the walk and plain facts (JgG5 .. JgG5). -/
import Derived.Test.YtmneeannkgnbpaaDoorL1
import Derived.Test.YtmneeannkgnbpaaDoorL2
import Derived.Test.YtmneeannkgnbpaaDoorP13
import Derived.Test.YtmneeannkgnbpaaDoorP01
set_option maxRecDepth 20000
namespace Go.Proofs
open Go Bw Gt
variable {Cs Ht:SH} {pb mZ qb nq vb:Nat} {has un:Bool} {mN mQ:List Value} {fr:SF}
theorem BC:AK Ht none (.slice none 0 0):=.inl ⟨rfl,rfl⟩
theorem UM {R:Ending->World->Prop} {w:World} {D:Nat->Prop} {cP cS:Nat} {n:T0} {p:List UInt8} {ps:List (List UInt8×List UInt8)} {sk:List Sk} {nb:Nat} {c:UInt8}
  (hn:Rd Ht Cs n nb) (nQ:mN.length=2*cP) (oK:mN.take (2*ps.length)=nJ ps) (wD:mQ.length=3*cS) (wE:qH Ht Cs mQ sk) (oI:has=false->ps=[]) (su:p.length<=100000) (uS:ps.length<=cP) (uu:cP<=20000) (uT:sk.length<=cS) (vx:cS<=20000) (mU:Sub [(0,Pt nb 0),(1,S p),(2,Pt pb 0),(3,Pt qb 0),(4,.bool un),(10,Pt vb 0),(11,.int .i16 (ps.length:Int)),(12,S n.path),(13,.int .u8 (c.toNat:Int))] fr) (hw:n.mm=false) (rj:p=[47]\/sk=[])
  (fin:yi R w D pb mZ cP Ht ⟨none,ps,decide (p=[47])&&n.h.isSome,[]⟩):
  GC Tryd.prog ⟨61,Tryd.f61,R,w,D⟩ 703 FP fr (Hq vb [(.slice none 0 0),(pV pb has),.bool false,(S [])] pb mZ ps.length cP mN qb nq sk.length cS mQ (Cs++Ht)):=by
 refine gN mU ?_;clear mU;have oD:=hn
 cases hn with
 | @mk path idx mm nt pr h full kids _ bs kv hv Hs hm hs qs pB hh hk=>
 simp only[oZ,sw,ta] at*;obtain⟨ad,cap,rfl⟩:=hs.slice;obtain⟨mX,l2,c2,rfl,pX⟩:=hh.slice;refine gz<|gz<|gD<|gB<|gJ rfl<|gH uI rfl ?_;refine gA (gG bQ rfl (m5 hm) rfl)<|gA (iU rfl)<|gC<|gV rfl (fun wT=>?_) (fun wT=>absurd wT (by rw[hw];decide));refine gz<|gz<|gD<|gB<|gA (jy rfl rfl)<|gC<|hY (fun bc H'=>Sub [(0,Pt nb 0),(1,S p),(2,Pt pb 0),(3,Pt qb 0),(4,.bool un),(10,Pt vb 0),(11,.int .i16 (ps.length:Int)),(12,S path)] bc/\H'=(Hq vb [(.slice none 0 0),(pV pb has),.bool false,(S [])] pb mZ ps.length cP mN qb nq sk.length cS mQ (Cs++Ht))) (fun UN=>?_) ?_
 ·refine gV rfl (fun FR=>?_) (fun FR=>?_)
  ·refine gz ?_
   have IZ:sk=[]:=by
    rcases rj with h|h
    ·rw[h] at FR;simp at FR
    exact h
   refine gD<|gB ?_;refine gJ rfl<|gA (gG cT rfl (m3 (.head _)) rfl) ?_;refine gA (iu cd rfl)<|gF ?_;refine gC<|gW ?_;refine jw<|gz ?_;refine gz<|gD ?_;refine gB<|gA (iS rfl rfl) ?_;refine gC<|gS rfl (fun IS=>absurd IS (by rw[IZ];simp)) (fun IS=>?_);exact ir rfl<|UN _ _ ⟨.of rfl,rfl⟩
  exact gL<|UN _ _ ⟨.of rfl,rfl⟩
 rintro bc H' ⟨UO,rfl⟩;refine gN UO ?_;clear UO;refine gz<|hY (fun bc H'=>Sub [(0,Pt nb 0),(1,S p),(2,Pt pb 0),(3,Pt qb 0),(4,.bool un),(10,Pt vb 0),(11,.int .i16 (ps.length:Int)),(12,S path)] bc/\H'=(Hq vb [.slice none 0 0,pV pb has,.bool (decide (p=[47])&&h.isSome),S []] pb mZ ps.length cP mN qb nq sk.length cS mQ (Cs++Ht))) (fun UP=>?_) ?_
 ·refine gD<|gB<|gA (iE rfl rfl)<|gB<|gZ 190 rfl (fun OG=>?_) (fun OG=>?_)
  ·refine gU<|gI (gX rfl)<|gI (gQ sY rfl)<|gI (gG bX rfl (m5 hm) rfl)<|gI (jB bR rfl)<|gT<|gH s6 rfl ?_;have e:(decide (p=[47])&&h.isSome)=(!mX.isNone):=by rw[decide_eq_true (of_decide_eq_true OG),pX,fE,cI]
   refine gO aP rfl rfl rfl .z rfl rfl<|gC<|UP _ _ ⟨.of rfl,?_⟩;rw[e];rfl
  refine gE ?_;refine gE ?_;refine gE ?_;refine gE ?_;refine gE ?_;refine hG ?_;refine gH s6 rfl ?_;have e:(decide (p=[47])&&h.isSome)=false:=by rw[decide_eq_false (of_decide_eq_false OG)];rfl
  refine gO aP rfl rfl rfl .z rfl rfl<|gC<|UP _ _ ⟨.of rfl,?_⟩;rw[e];rfl
 rintro bc H' ⟨UQ,rfl⟩;refine gN UQ ?_;clear UQ;refine gz<|gD<|gA (ja (cs:=[.slice none 0 0,pV pb has,.bool (decide (p=[47])&&h.isSome),S []]) bW bg rfl (.head _) rfl rfl)<|iO (cs:=[.slice none 0 0,pV pb has,.bool (decide (p=[47])&&h.isSome),S []]) bg rfl rfl (by intro v hv;simp only[af,aC,or_false] at hv;rcases hv with rfl|rfl|rfl|rfl<;>first|rfl|exact yh _ _) .z rfl<|gC<|jv (cs:=[.slice none 0 0,pV pb has,.bool (decide (p=[47])&&h.isSome),S []]) rfl bW bg rfl (.head _) rfl fun w' ia=>fin has mN (.slice none 0 0) w' nQ oK oI (BC) (ia.sub (.cons _ (.cons_cons _ (.cons_cons _ (.cons _ (.cons _ (aG _ _)))))))
theorem ab3 {R:Ending->World->Prop} {w:World} {D:Nat->Prop} {cP cS:Nat} {n:T0} {p:List UInt8} {ps:List (List UInt8×List UInt8)} {sk:List Sk} {nb:Nat} {_c:UInt8}
  (hn:Rd Ht Cs n nb) (nQ:mN.length=2*cP) (oK:mN.take (2*ps.length)=nJ ps) (wD:mQ.length=3*cS) (wE:qH Ht Cs mQ sk) (oI:has=false->ps=[]) (su:p.length<=100000) (uS:ps.length<=cP) (uu:cP<=20000) (uT:sk.length<=cS) (vx:cS<=20000) (mU:Sub [(0,Pt nb 0),(1,S p),(2,Pt pb 0),(3,Pt qb 0),(4,.bool un),(10,Pt vb 0),(11,.int .i16 (ps.length:Int)),(12,S n.path)] fr) (us:n.h.isSome=true)
  (fin:yi R w D pb mZ cP Ht ⟨n.h,ps,false,n.full⟩):
  GC Tryd.prog ⟨61,Tryd.f61,R,w,D⟩ 703 FQ fr (Hq vb [(.slice none 0 0),(pV pb has),.bool false,(S [])] pb mZ ps.length cP mN qb nq sk.length cS mQ (Cs++Ht)):=by
 refine gN mU ?_;clear mU;have oD:=hn
 cases hn with
 | @mk path idx mm nt pr h full kids _ bs kv hv Hs hm hs qs pB hh hk=>
 simp only[oZ,ta] at*;obtain⟨ad,cap,rfl⟩:=hs.slice;obtain⟨mX,l2,c2,rfl,pX⟩:=hh.slice;obtain⟨x8,rfl⟩:∃a,mX=some a:=by cases mX with|none=>rw[<-cI,<-pX] at us;cases us|some a=>exact⟨a,rfl⟩
 refine gz<|gz<|gD<|gB<|gJ rfl<|gH sY rfl<|gA (gG bX rfl (m5 hm) rfl)<|gA (jL bR rfl)<|gB<|gZ 467 rfl (fun C5=>?_) (fun C5=>?_)
 ·exact absurd C5 (by simp)
 refine gE ?_;refine gE ?_;refine hG ?_;refine gC ?_;refine iJ rfl ?_;refine gL ?_;refine gz ?_;refine gz ?_;refine gD ?_;refine gB ?_;refine gJ rfl ?_;refine gH sY rfl ?_;refine gA (gG bX rfl (m5 hm) rfl) ?_;refine gH yN rfl ?_;refine gO cu rfl rfl rfl .z rfl rfl ?_;refine gC ?_;refine gz ?_;refine gD ?_;refine gH yN rfl ?_;refine gA (gG bX rfl (.head _) rfl) ?_;refine gA (jB bR rfl) ?_;refine gC ?_;refine gV rfl (fun I0=>?_) (fun I0=>absurd I0 (by simp));refine gz ?_;refine gD ?_;refine gB ?_;refine gJ rfl ?_;refine gH Aq rfl ?_;refine gA (gG ag rfl (m5 hm) rfl) ?_;refine gH KB rfl ?_;refine gO ah rfl rfl rfl .z rfl rfl ?_;refine gC ?_;refine gz ?_;refine gD ?_;refine gA (ja (cs:=[.slice (some x8) l2 c2,pV pb has,.bool false,S full]) bW bg rfl (.head _) rfl rfl) ?_;refine iO (cs:=[.slice (some x8) l2 c2,pV pb has,.bool false,S full]) bg rfl rfl (by intro v hv;simp only[af,aC,or_false] at hv;rcases hv with rfl|rfl|rfl|rfl<;>first|rfl|exact yh _ _) .z rfl ?_;refine gC ?_;refine jv (cs:=[.slice (some x8) l2 c2,pV pb has,.bool false,S full]) rfl bW bg rfl (.head _) rfl fun w' ia=>fin has mN (.slice (some x8) l2 c2) w' nQ oK oI (hh) (ia.sub (.cons _ (.cons_cons _ (.cons_cons _ (.cons _ (.cons _ (aG _ _)))))))
noncomputable def I1:List Item:=Ld (Ld FQ)
theorem ab4 {R:Ending->World->Prop} {w:World} {D:Nat->Prop} {cP cS:Nat} {n:T0} {p:List UInt8} {ps:List (List UInt8×List UInt8)} {sk:List Sk} {nb:Nat} {_c:UInt8}
  (hn:Rd Ht Cs n nb) (Ou:mN.length=2*cP) (Ov:mN.take (2*ps.length)=nJ ps) (wD:mQ.length=3*cS) (wE:qH Ht Cs mQ sk) (Ow:has=false->ps=[]) (su:p.length<=100000) (uS:ps.length<=cP) (uu:cP<=20000) (uT:sk.length<=cS) (vx:cS<=20000) (mU:Sub [(0,Pt nb 0),(1,S p),(2,Pt pb 0),(3,Pt qb 0),(4,.bool un),(10,Pt vb 0),(11,.int .i16 (ps.length:Int)),(12,S n.path)] fr) (us:n.h=none) (rj:p=[47]\/sk=[])
  (go:∀bc,Sub [(0,Pt nb 0),(1,S p),(2,Pt pb 0),(3,Pt qb 0),(4,.bool un),(10,Pt vb 0),(11,.int .i16 (ps.length:Int)),(12,S n.path)] bc->GC Tryd.prog ⟨61,Tryd.f61,R,w,D⟩ 703 I1 bc (Hq vb [(.slice none 0 0),(pV pb has),.bool false,(S [])] pb mZ ps.length cP mN qb nq sk.length cS mQ (Cs++Ht))):
  GC Tryd.prog ⟨61,Tryd.f61,R,w,D⟩ 703 FQ fr (Hq vb [(.slice none 0 0),(pV pb has),.bool false,(S [])] pb mZ ps.length cP mN qb nq sk.length cS mQ (Cs++Ht)):=by
 refine gN mU ?_;clear mU;have oD:=hn
 cases hn with
 | @mk path idx mm nt pr h full kids _ bs kv hv Hs hm hs qs pB hh hk=>
 simp only[oZ,ta] at*;obtain⟨ad,cap,rfl⟩:=hs.slice;obtain⟨mX,l2,c2,rfl,pX⟩:=hh.slice
 have CM:(Value.slice mX l2 c2)=.slice none 0 0:=by
  rcases hh with⟨_,h2⟩|⟨k,hb,h2,_⟩
  ·exact h2
  rw[us] at h2;cases h2
 cases CM;refine gz<|gz<|hY (fun bc H'=>Sub [(0,Pt nb 0),(1,S p),(2,Pt pb 0),(3,Pt qb 0),(4,.bool un),(10,Pt vb 0),(11,.int .i16 (ps.length:Int)),(12,S path),(470,.bool (!decide (p=[47])))] bc/\H'=(Hq vb [(.slice none 0 0),(pV pb has),.bool false,(S [])] pb mZ ps.length cP mN qb nq sk.length cS mQ (Cs++Ht))) (fun OA=>?_) ?_
 ·refine gD<|gB<|gJ rfl<|gH sY rfl<|gA (gG bX rfl (m5 hm) rfl)<|gA (jL bR rfl)<|gB<|gZ 467 rfl (fun C5=>?_) (fun C5=>?_)
  ·exact gU<|gI (jy rfl rfl)<|gT<|gC<|OA _ _ ⟨.of rfl,rfl⟩
  refine gE ?_;refine gE ?_;refine hG ?_;refine gC ?_;exact absurd C5 (by decide)
 rintro bc H' ⟨IU,rfl⟩;refine gN IU ?_;clear IU;refine hY (fun bc H'=>Sub [(0,Pt nb 0),(1,S p),(2,Pt pb 0),(3,Pt qb 0),(4,.bool un),(10,Pt vb 0),(11,.int .i16 (ps.length:Int)),(12,S path)] bc/\H'=(Hq vb [(.slice none 0 0),(pV pb has),.bool false,(S [])] pb mZ ps.length cP mN qb nq sk.length cS mQ (Cs++Ht))) (fun UR=>?_) ?_
 ·refine gV rfl (fun OH=>?_) (fun OH=>?_)
  ·refine gz ?_
   have IZ:sk=[]:=by
    rcases rj with h|h
    ·rw[h] at OH;simp at OH
    exact h
   refine gD<|gB ?_;refine gJ rfl<|gA (gG cT rfl (m3 (.head _)) rfl) ?_;refine gA (iu cd rfl)<|gF ?_;refine gC<|gW ?_;refine jw<|gz ?_;refine gz<|gD ?_;refine gB<|gA (iS rfl rfl) ?_;refine gC<|gS rfl (fun IV=>absurd IV (by rw[IZ];simp)) (fun IV=>?_);exact ir rfl<|UR _ _ ⟨.of rfl,rfl⟩
  exact gL<|UR _ _ ⟨.of rfl,rfl⟩
 rintro bc H' ⟨US,rfl⟩;refine gN US ?_;clear US;refine gz<|gz<|gD<|gB<|gJ rfl<|gH sY rfl ?_;refine gA (gG bX rfl (m5 hm) rfl)<|gH yN rfl<|gO cu rfl rfl rfl .z rfl rfl<|gC<|gz<|gD ?_;refine gH yN rfl<|gA (gG bX rfl (.head _) rfl)<|gA (jB bR rfl)<|gC<|gV rfl (fun I0=>absurd I0 (by simp)) (fun I0=>?_);exact gL<|go _ (.of rfl)
theorem ab5 {R:Ending->World->Prop} {w:World} {D:Nat->Prop} {cP cS:Nat} {n:T0} {p:List UInt8} {ps:List (List UInt8×List UInt8)} {sk:List Sk} {nb:Nat} {_c:UInt8}
  (hn:Rd Ht Cs n nb) (nQ:mN.length=2*cP) (oK:mN.take (2*ps.length)=nJ ps) (wD:mQ.length=3*cS) (wE:qH Ht Cs mQ sk) (oI:has=false->ps=[]) (su:p.length<=100000) (uS:ps.length<=cP) (uu:cP<=20000) (uT:sk.length<=cS) (vx:cS<=20000) (mU:Sub [(0,Pt nb 0),(1,S p),(2,Pt pb 0),(3,Pt qb 0),(4,.bool un),(10,Pt vb 0),(11,.int .i16 (ps.length:Int)),(12,S n.path)] fr) (rI:p=[47]/\n.mm=true/\n.nt≠1)
  (fin:yi R w D pb mZ cP Ht ⟨none,ps,true,[]⟩):
  GC Tryd.prog ⟨61,Tryd.f61,R,w,D⟩ 703 I1 fr (Hq vb [(.slice none 0 0),(pV pb has),.bool false,(S [])] pb mZ ps.length cP mN qb nq sk.length cS mQ (Cs++Ht)):=by
 refine gN mU ?_;clear mU;have oD:=hn
 cases hn with
 | @mk path idx mm nt pr h full kids _ bs kv hv Hs hm hs qs pB hh hk=>
 simp only[oZ,sw,rn] at*;obtain⟨ad,cap,rfl⟩:=hs.slice;obtain⟨mX,l2,c2,rfl,pX⟩:=hh.slice;refine gz<|gz<|hY (fun bc H'=>Sub [(0,Pt nb 0),(1,S p),(2,Pt pb 0),(3,Pt qb 0),(4,.bool un),(10,Pt vb 0),(11,.int .i16 (ps.length:Int)),(12,S path),(545,.bool true)] bc/\H'=(Hq vb [(.slice none 0 0),(pV pb has),.bool false,(S [])] pb mZ ps.length cP mN qb nq sk.length cS mQ (Cs++Ht))) (fun yk=>?_) ?_
 ·refine gD<|gB<|gA (iE rfl rfl)<|gB<|gZ 533 rfl (fun zL=>?_) (fun zL=>?_)
  ·refine gU<|gI (gX rfl)<|gI (gQ uI rfl)<|gI (gG bQ rfl (m5 hm) rfl)<|gT<|gB<|gZ 539 rfl (fun zM=>?_) (fun zM=>?_)
   ·refine gU<|gI (gX rfl)<|gI (gQ sX rfl)<|gI (gG cf rfl (m5 hm) rfl)<|gI (iF rfl rfl)<|gT<|gC<|yk _ _ ⟨?_,rfl⟩;have e:(!decide ((nt:Int)=1))=true:=by have:=rI.2.2;simp;omega
    rw[e];exact .of rfl
   refine gE ?_;refine gE ?_;refine gE ?_;refine gE ?_;refine gE ?_;refine hG ?_;refine gC ?_;exact absurd zM (by rw[rI.2.1];decide)
  refine gE ?_;refine gE ?_;refine gE ?_;refine gE ?_;refine hG ?_;refine gB ?_;refine gE ?_;refine gE ?_;refine gE ?_;refine gE ?_;refine gE ?_;refine hG ?_;refine gC ?_;exact absurd rI.1 (of_decide_eq_false zL)
 rintro bc H' ⟨zN,rfl⟩;refine gN zN ?_;clear zN;refine ji rfl<|gz<|gD<|gH s6 rfl<|gO aP rfl rfl rfl .z rfl rfl<|gC<|gz<|gD<|gA (ja (cs:=[.slice none 0 0,pV pb has,.bool true,S []]) bW bg rfl (.head _) rfl rfl)<|iO (cs:=[.slice none 0 0,pV pb has,.bool true,S []]) bg rfl rfl (by intro v hv;simp only[af,aC,or_false] at hv;rcases hv with rfl|rfl|rfl|rfl<;>first|rfl|exact yh _ _) .z rfl<|gC<|jv (cs:=[.slice none 0 0,pV pb has,.bool true,S []]) rfl bW bg rfl (.head _) rfl fun w' ia=>fin has mN (.slice none 0 0) w' nQ oK oI (BC) (ia.sub (.cons _ (.cons_cons _ (.cons_cons _ (.cons _ (.cons _ (aG _ _)))))))
theorem ab6 {R:Ending->World->Prop} {w:World} {D:Nat->Prop} {cP cS:Nat} {n:T0} {p:List UInt8} {ps:List (List UInt8×List UInt8)} {sk:List Sk} {nb:Nat} {_c:UInt8}
  (hn:Rd Ht Cs n nb) (nQ:mN.length=2*cP) (oK:mN.take (2*ps.length)=nJ ps) (wD:mQ.length=3*cS) (wE:qH Ht Cs mQ sk) (oI:has=false->ps=[]) (su:p.length<=100000) (uS:ps.length<=cP) (uu:cP<=20000) (uT:sk.length<=cS) (vx:cS<=20000) (mU:Sub [(0,Pt nb 0),(1,S p),(2,Pt pb 0),(3,Pt qb 0),(4,.bool un),(10,Pt vb 0),(11,.int .i16 (ps.length:Int)),(12,S n.path)] fr) (rI:¬(p=[47]/\n.mm=true/\n.nt≠1)) (zO:p=[47]/\n.nt=0)
  (fin:yi R w D pb mZ cP Ht ⟨none,ps,true,[]⟩):
  GC Tryd.prog ⟨61,Tryd.f61,R,w,D⟩ 703 I1 fr (Hq vb [(.slice none 0 0),(pV pb has),.bool false,(S [])] pb mZ ps.length cP mN qb nq sk.length cS mQ (Cs++Ht)):=by
 refine gN mU ?_;clear mU;have oD:=hn
 cases hn with
 | @mk path idx mm nt pr h full kids _ bs kv hv Hs hm hs qs pB hh hk=>
 simp only[oZ,sw,rn] at*;obtain⟨ad,cap,rfl⟩:=hs.slice;obtain⟨mX,l2,c2,rfl,pX⟩:=hh.slice;refine gz<|gz<|hY (fun bc H'=>Sub [(0,Pt nb 0),(1,S p),(2,Pt pb 0),(3,Pt qb 0),(4,.bool un),(10,Pt vb 0),(11,.int .i16 (ps.length:Int)),(12,S path),(545,.bool false)] bc/\H'=(Hq vb [(.slice none 0 0),(pV pb has),.bool false,(S [])] pb mZ ps.length cP mN qb nq sk.length cS mQ (Cs++Ht))) (fun yk=>?_) ?_
 ·refine gD<|gB<|gA (iE rfl rfl)<|gB<|gZ 533 rfl (fun zL=>?_) (fun zL=>?_)
  ·refine gU<|gI (gX rfl)<|gI (gQ uI rfl)<|gI (gG bQ rfl (m5 hm) rfl)<|gT<|gB<|gZ 539 rfl (fun zM=>?_) (fun zM=>?_)
   ·refine gU<|gI (gX rfl)<|gI (gQ sX rfl)<|gI (gG cf rfl (m5 hm) rfl)<|gI (iF rfl rfl)<|gT<|gC<|yk _ _ ⟨?_,rfl⟩
    have e:(!decide ((nt:Int)=1))=false:=by
     have:nt=1:=bD fun e=>rI ⟨of_decide_eq_true zL,zM,e⟩
     subst this;rfl
    rw[e];exact .of rfl
   refine gE ?_;refine gE ?_;refine gE ?_;refine gE ?_;refine gE ?_;refine hG ?_;refine gC ?_;refine yk _ _ ⟨?_,rfl⟩;exact .of rfl
  refine gE ?_;refine gE ?_;refine gE ?_;refine gE ?_;refine hG ?_;refine gB ?_;refine gE ?_;refine gE ?_;refine gE ?_;refine gE ?_;refine gE ?_;refine hG ?_;refine gC ?_;refine yk _ _ ⟨?_,rfl⟩;exact .of rfl
 rintro bc H' ⟨zN,rfl⟩;refine gN zN ?_;clear zN;refine iJ rfl<|gL<|gz<|gz<|hY (fun bc H'=>Sub [(0,Pt nb 0),(1,S p),(2,Pt pb 0),(3,Pt qb 0),(4,.bool un),(10,Pt vb 0),(11,.int .i16 (ps.length:Int)),(12,S path),(556,.bool true)] bc/\H'=(Hq vb [(.slice none 0 0),(pV pb has),.bool false,(S [])] pb mZ ps.length cP mN qb nq sk.length cS mQ (Cs++Ht))) (fun Em=>?_) ?_
 ·refine gD<|gB<|gA (iE rfl rfl)<|gB<|gZ 550 rfl (fun C7=>?_) (fun C7=>?_)
  ·refine gU<|gI (gX rfl)<|gI (gQ sX rfl)<|gI (gG cf rfl (m5 hm) rfl)<|gI (ie rfl rfl)<|gT<|gC<|Em _ _ ⟨?_,rfl⟩;have e:decide ((nt:Int)=0)=true:=by have:=zO.2;simp;omega
   rw[e];exact .of rfl
  refine gE ?_;refine gE ?_;refine gE ?_;refine gE ?_;refine gE ?_;refine hG ?_;refine gC ?_;exact absurd zO.1 (of_decide_eq_false C7)
 rintro bc H' ⟨C8,rfl⟩;refine gN C8 ?_;clear C8;refine ji rfl<|gz<|gD<|gH s6 rfl<|gO aP rfl rfl rfl .z rfl rfl<|gC<|gz<|gD<|gA (ja (cs:=[.slice none 0 0,pV pb has,.bool true,S []]) bW bg rfl (.head _) rfl rfl)<|iO (cs:=[.slice none 0 0,pV pb has,.bool true,S []]) bg rfl rfl (by intro v hv;simp only[af,aC,or_false] at hv;rcases hv with rfl|rfl|rfl|rfl<;>first|rfl|exact yh _ _) .z rfl<|gC<|jv (cs:=[.slice none 0 0,pV pb has,.bool true,S []]) rfl bW bg rfl (.head _) rfl fun w' ia=>fin has mN (.slice none 0 0) w' nQ oK oI (BC) (ia.sub (.cons _ (.cons_cons _ (.cons_cons _ (.cons _ (.cons _ (aG _ _)))))))
theorem ab7 {R:Ending->World->Prop} {w:World} {D:Nat->Prop} {cP cS:Nat} {n:T0} {p:List UInt8} {ps:List (List UInt8×List UInt8)} {sk:List Sk} {nb:Nat} {_c:UInt8}
  (hn:Rd Ht Cs n nb) (nQ:mN.length=2*cP) (oK:mN.take (2*ps.length)=nJ ps) (wD:mQ.length=3*cS) (wE:qH Ht Cs mQ sk) (oI:has=false->ps=[]) (su:p.length<=100000) (uS:ps.length<=cP) (uu:cP<=20000) (uT:sk.length<=cS) (vx:cS<=20000) (mU:Sub [(0,Pt nb 0),(1,S p),(2,Pt pb 0),(3,Pt qb 0),(4,.bool un),(10,Pt vb 0),(11,.int .i16 (ps.length:Int)),(12,S n.path)] fr) (rI:¬(p=[47]/\n.mm=true/\n.nt≠1)) (zO:¬(p=[47]/\n.nt=0)) (hj:idxOf 47 n.idx=none) (oO:n.idx.length<=1000000)
  (fin:yi R w D pb mZ cP Ht ⟨none,ps,false,[]⟩):
  GC Tryd.prog ⟨61,Tryd.f61,R,w,D⟩ 703 I1 fr (Hq vb [(.slice none 0 0),(pV pb has),.bool false,(S [])] pb mZ ps.length cP mN qb nq sk.length cS mQ (Cs++Ht)):=by
 refine gN mU ?_;clear mU;have oD:=hn
 cases hn with
 | @mk path idx mm nt pr h full kids _ bs kv hv Hs hm hs qs pB hh hk=>
 simp only[oZ,tH,sw,rn] at*;obtain⟨ad,cap,rfl⟩:=hs.slice;obtain⟨mX,l2,c2,rfl,pX⟩:=hh.slice;have vU:=KN hj;refine gz<|gz<|hY (fun bc H'=>Sub [(0,Pt nb 0),(1,S p),(2,Pt pb 0),(3,Pt qb 0),(4,.bool un),(10,Pt vb 0),(11,.int .i16 (ps.length:Int)),(12,S path),(545,.bool false)] bc/\H'=(Hq vb [(.slice none 0 0),(pV pb has),.bool false,(S [])] pb mZ ps.length cP mN qb nq sk.length cS mQ (Cs++Ht))) (fun yk=>?_) ?_
 ·refine gD<|gB<|gA (iE rfl rfl)<|gB<|gZ 533 rfl (fun zL=>?_) (fun zL=>?_)
  ·refine gU<|gI (gX rfl)<|gI (gQ uI rfl)<|gI (gG bQ rfl (m5 hm) rfl)<|gT<|gB<|gZ 539 rfl (fun zM=>?_) (fun zM=>?_)
   ·refine gU<|gI (gX rfl)<|gI (gQ sX rfl)<|gI (gG cf rfl (m5 hm) rfl)<|gI (iF rfl rfl)<|gT<|gC<|yk _ _ ⟨?_,rfl⟩
    have e:(!decide ((nt:Int)=1))=false:=by
     have:nt=1:=bD fun e=>rI ⟨of_decide_eq_true zL,zM,e⟩
     subst this;rfl
    rw[e];exact .of rfl
   refine gE ?_;refine gE ?_;refine gE ?_;refine gE ?_;refine gE ?_;refine hG ?_;refine gC ?_;refine yk _ _ ⟨?_,rfl⟩;exact .of rfl
  refine gE ?_;refine gE ?_;refine gE ?_;refine gE ?_;refine hG ?_;refine gB ?_;refine gE ?_;refine gE ?_;refine gE ?_;refine gE ?_;refine gE ?_;refine hG ?_;refine gC ?_;refine yk _ _ ⟨?_,rfl⟩;exact .of rfl
 rintro bc H' ⟨zN,rfl⟩;refine gN zN ?_;clear zN;refine iJ rfl<|gL<|gz<|gz<|hY (fun bc H'=>Sub [(0,Pt nb 0),(1,S p),(2,Pt pb 0),(3,Pt qb 0),(4,.bool un),(10,Pt vb 0),(11,.int .i16 (ps.length:Int)),(12,S path),(556,.bool false)] bc/\H'=(Hq vb [(.slice none 0 0),(pV pb has),.bool false,(S [])] pb mZ ps.length cP mN qb nq sk.length cS mQ (Cs++Ht))) (fun Em=>?_) ?_
 ·refine gD<|gB<|gA (iE rfl rfl)<|gB<|gZ 550 rfl (fun C7=>?_) (fun C7=>?_)
  ·refine gU<|gI (gX rfl)<|gI (gQ sX rfl)<|gI (gG cf rfl (m5 hm) rfl)<|gI (ie rfl rfl)<|gT<|gC<|Em _ _ ⟨?_,rfl⟩;have e:decide ((nt:Int)=0)=false:=decide_eq_false fun e=>zO ⟨of_decide_eq_true C7,by omega⟩
   rw[e];exact .of rfl
  refine gE ?_;refine gE ?_;refine gE ?_;refine gE ?_;refine gE ?_;refine hG ?_;refine gC ?_;refine Em _ _ ⟨?_,rfl⟩;exact .of rfl
 rintro bc H' ⟨C8,rfl⟩;refine gN C8 ?_;clear C8;refine iJ rfl<|gL<|gz<|gz<|gD<|gB<|gJ rfl<|gH sP rfl<|gA (gG ag rfl (m5 hm) rfl)<|jS aa aL bT rfl rfl (fun tb BB z fz vO s8=>?_);refine gA (iu aL rfl)<|gB<|gC<|gW ?_
 refine iC (fun N bc H'=>∃q,q+N=idx.length/\Sub [(0,Pt nb 0),(1,S p),(2,Pt pb 0),(3,Pt qb 0),(4,.bool un),(10,Pt vb 0),(11,.int .i16 (ps.length:Int)),(12,S path),(563,Sx tb idx.length BB),(564,I (idx.length:Nat)),(565,I (q:Nat))] bc/\H'=⟨tb,true,.row (bC (idx++z)) 5 fz⟩::(Hq vb [(.slice none 0 0),(pV pb has),.bool false,(S [])] pb mZ ps.length cP mN qb nq sk.length cS mQ (Cs++Ht))) idx.length
  ⟨0,by omega,.of rfl,rfl⟩ ?_
 rintro N bc H' ⟨q,hq,mJ,rfl⟩ ih;refine gN mJ ?_;clear mJ;refine gz<|gD<|gA (ik rfl rfl)<|gC<|gz<|gS rfl (fun Lg=>?_) (fun Lg=>?_)
 ·refine gL<|gz<|gW<|gz ?_;have sG:q<idx.length:=by omega
  obtain⟨x,hx⟩:=gx sG;refine gD<|gB<|gA (ij (i:=q) aL bV rfl rfl sG)<|gA (gG (b:=tb) (off:=0+q*1) (wf:=true) (l:=bC (idx++z)) (T:=5) (fz:=fz) (v:=.int .u8 (x.toNat:Int)) bt rfl (.head _) (by rw[n8,aH,aT,zp,ak (by rw[xT];exact sG)];simp[bC,Lib.byteCells,hx])) ?_;refine gF<|gF<|gC<|gz<|gD<|gB ?_;refine gA (ie rfl rfl)<|gC<|gS rfl (fun FV=>absurd (by rw[hx,Av FV]) (vU q)) (fun FV=>?_);exact gL<|il<|gD<|gA (iy q (by omega))<|gB<|gC<|ih (N-1) _ _ (by omega) ⟨q+1,by omega,.of rfl,rfl⟩
 refine ir rfl<|gz<|hO (H':=(Hq vb [(.slice none 0 0),(pV pb has),.bool false,(S [])] pb mZ ps.length cP mN qb nq sk.length cS mQ (Cs++Ht))) (fun w1 h1=>h1.sub (ai _ _))<|gD<|gA (ja (cs:=[.slice none 0 0,pV pb has,.bool false,S []]) bW bg rfl (.head _) rfl rfl)<|iO (cs:=[.slice none 0 0,pV pb has,.bool false,S []]) bg rfl rfl (by intro v hv;simp only[af,aC,or_false] at hv;rcases hv with rfl|rfl|rfl|rfl<;>first|rfl|exact yh _ _) .z rfl<|gC<|jv (cs:=[.slice none 0 0,pV pb has,.bool false,S []]) rfl bW bg rfl (.head _) rfl fun w' ia=>fin has mN (.slice none 0 0) w' nQ oK oI (BC) (ia.sub (.cons _ (.cons_cons _ (.cons_cons _ (.cons _ (.cons _ (aG _ _)))))))
theorem ab8 {R:Ending->World->Prop} {w:World} {D:Nat->Prop} {cP cS:Nat} {n:T0} {p:List UInt8} {ps:List (List UInt8×List UInt8)} {sk:List Sk} {nb:Nat} {_c:UInt8}
  (hn:Rd Ht Cs n nb) (nQ:mN.length=2*cP) (oK:mN.take (2*ps.length)=nJ ps) (wD:mQ.length=3*cS) (wE:qH Ht Cs mQ sk) (oI:has=false->ps=[]) (su:p.length<=100000) (uS:ps.length<=cP) (uu:cP<=20000) (uT:sk.length<=cS) (vx:cS<=20000) (mU:Sub [(0,Pt nb 0),(1,S p),(2,Pt pb 0),(3,Pt qb 0),(4,.bool un),(10,Pt vb 0),(11,.int .i16 (ps.length:Int)),(12,S n.path)] fr) (rI:¬(p=[47]/\n.mm=true/\n.nt≠1)) (zO:¬(p=[47]/\n.nt=0)) {i:Nat} {k:T0} (hj:idxOf 47 n.idx=some i) (qL:n.kids[i]? =some k) (uo:¬(k.nt=3/\k.kids=[])) (oO:n.idx.length<=1000000)
  (fin:yi R w D pb mZ cP Ht ⟨none,ps,(decide (k.path.length=1)&&k.h.isSome)||(decide (k.nt=3)&&((k.kids.head?).map (·.h.isSome)).getD false),[]⟩):
  GC Tryd.prog ⟨61,Tryd.f61,R,w,D⟩ 703 I1 fr (Hq vb [(.slice none 0 0),(pV pb has),.bool false,(S [])] pb mZ ps.length cP mN qb nq sk.length cS mQ (Cs++Ht)):=by
 refine gN mU ?_;clear mU;have oD:=hn
 cases hn with
 | @mk path idx mm nt pr h full kids _ bs kv hv Hs hm hs qs pB hh hk=>
 simp only[oZ,tH,rp,sw,rn] at*;obtain⟨ad,cap,rfl⟩:=hs.slice;obtain⟨mX,l2,c2,rfl,pX⟩:=hh.slice;obtain⟨zB,vU⟩:=Ik hj;have oC:i<idx.length:=(ae.1 zB).1;refine gz<|gz<|hY (fun bc H'=>Sub [(0,Pt nb 0),(1,S p),(2,Pt pb 0),(3,Pt qb 0),(4,.bool un),(10,Pt vb 0),(11,.int .i16 (ps.length:Int)),(12,S path),(545,.bool false)] bc/\H'=(Hq vb [(.slice none 0 0),(pV pb has),.bool false,(S [])] pb mZ ps.length cP mN qb nq sk.length cS mQ (Cs++Ht))) (fun yk=>?_) ?_
 ·refine gD<|gB<|gA (iE rfl rfl)<|gB<|gZ 533 rfl (fun zL=>?_) (fun zL=>?_)
  ·refine gU<|gI (gX rfl)<|gI (gQ uI rfl)<|gI (gG bQ rfl (m5 hm) rfl)<|gT<|gB<|gZ 539 rfl (fun zM=>?_) (fun zM=>?_)
   ·refine gU<|gI (gX rfl)<|gI (gQ sX rfl)<|gI (gG cf rfl (m5 hm) rfl)<|gI (iF rfl rfl)<|gT<|gC<|yk _ _ ⟨?_,rfl⟩
    have e:(!decide ((nt:Int)=1))=false:=by
     have:nt=1:=bD fun e=>rI ⟨of_decide_eq_true zL,zM,e⟩
     subst this;rfl
    rw[e];exact .of rfl
   refine gE ?_;refine gE ?_;refine gE ?_;refine gE ?_;refine gE ?_;refine hG ?_;refine gC ?_;refine yk _ _ ⟨?_,rfl⟩;exact .of rfl
  refine gE ?_;refine gE ?_;refine gE ?_;refine gE ?_;refine hG ?_;refine gB ?_;refine gE ?_;refine gE ?_;refine gE ?_;refine gE ?_;refine gE ?_;refine hG ?_;refine gC ?_;refine yk _ _ ⟨?_,rfl⟩;exact .of rfl
 rintro bc H' ⟨zN,rfl⟩;refine gN zN ?_;clear zN;refine iJ rfl<|gL<|gz<|gz<|hY (fun bc H'=>Sub [(0,Pt nb 0),(1,S p),(2,Pt pb 0),(3,Pt qb 0),(4,.bool un),(10,Pt vb 0),(11,.int .i16 (ps.length:Int)),(12,S path),(556,.bool false)] bc/\H'=(Hq vb [(.slice none 0 0),(pV pb has),.bool false,(S [])] pb mZ ps.length cP mN qb nq sk.length cS mQ (Cs++Ht))) (fun Em=>?_) ?_
 ·refine gD<|gB<|gA (iE rfl rfl)<|gB<|gZ 550 rfl (fun C7=>?_) (fun C7=>?_)
  ·refine gU<|gI (gX rfl)<|gI (gQ sX rfl)<|gI (gG cf rfl (m5 hm) rfl)<|gI (ie rfl rfl)<|gT<|gC<|Em _ _ ⟨?_,rfl⟩;have e:decide ((nt:Int)=0)=false:=decide_eq_false fun e=>zO ⟨of_decide_eq_true C7,by omega⟩
   rw[e];exact .of rfl
  refine gE ?_;refine gE ?_;refine gE ?_;refine gE ?_;refine gE ?_;refine hG ?_;refine gC ?_;refine Em _ _ ⟨?_,rfl⟩;exact .of rfl
 rintro bc H' ⟨C8,rfl⟩;refine gN C8 ?_;clear C8;refine iJ rfl<|gL<|gz<|gz<|gD<|gB<|gJ rfl<|gH sP rfl<|gA (gG ag rfl (m5 hm) rfl)<|jS aa aL bT rfl rfl (fun tb BB z fz vO s8=>?_);refine gA (iu aL rfl)<|gB<|gC<|gW ?_
 refine iC (fun N bc H'=>∃q,q+N=i/\Sub [(0,Pt nb 0),(1,S p),(2,Pt pb 0),(3,Pt qb 0),(4,.bool un),(10,Pt vb 0),(11,.int .i16 (ps.length:Int)),(12,S path),(563,Sx tb idx.length BB),(564,I (idx.length:Nat)),(565,I (q:Nat))] bc/\H'=⟨tb,true,.row (bC (idx++z)) 5 fz⟩::(Hq vb [(.slice none 0 0),(pV pb has),.bool false,(S [])] pb mZ ps.length cP mN qb nq sk.length cS mQ (Cs++Ht))) i
  ⟨0,by omega,.of rfl,rfl⟩ ?_
 rintro N bc H' ⟨q,hq,mJ,rfl⟩ ih;refine gN mJ ?_;clear mJ;refine gz<|gD<|gA (ik rfl rfl)<|gC<|gz<|gS rfl (fun Lg=>?_) (fun Lg=>absurd (by omega) Lg);refine gL<|gz<|gW<|gz ?_;have sG:q<idx.length:=by omega
 obtain⟨x,hx⟩:=gx sG;refine gD<|gB<|gA (ij (i:=q) aL bV rfl rfl sG)<|gA (gG (b:=tb) (off:=0+q*1) (wf:=true) (l:=bC (idx++z)) (T:=5) (fz:=fz) (v:=.int .u8 (x.toNat:Int)) bt rfl (.head _) (by rw[n8,aH,aT,zp,ak (by rw[xT];exact sG)];simp[bC,Lib.byteCells,hx])) ?_;refine gF<|gF<|gC<|gz<|gD<|gB<|gA (ie rfl rfl)<|gC<|gS rfl (fun FV=>?_) (fun FV=>?_)
 ·refine gz ?_
  have zC:q=i:=by
   have rG:=Av FV;rcases cn q i with h|h
   ·exact absurd (by rw[hx,rG]) (vU q h)
   omega
  subst zC;have qh:=(ae.1 qL).1;obtain⟨kb,rH⟩:∃kb,bs[q]? =some kb:=gx (by omega);have tW:=hk q k kb qL rH;obtain⟨rb,xu,spare,e1,rfl⟩:=hs.at qh;cases e1;have yj:=qs _ (.head _);clear hs
  cases tW with
  | @mk n4 qf rE pO pd kh qR ul _ Bo rP rQ OI km ks I2 Eo C9 kk=>
  simp only[oZ,rn,rp,ta] at*;obtain⟨vW,vX,rfl⟩:=ks.slice;obtain⟨Ep,Er,Es,rfl,BD⟩:=C9.slice;refine gD<|gB<|gJ rfl<|gH p5 rfl<|gA (gG bj rfl (m6 hm) rfl)<|gB<|gA (ij (i:=q) az bi rfl rfl qh)<|gA (gG bK rfl (.tail _ (.tail _ (.tail _ (.tail _ (.tail _ (.tail _ ((au _ yj)))))))) (by rw[n8,aH,aT,ak (by rw[aQ];omega),aD,rH];rfl)) ?_;refine gF<|gC<|gz<|hY (fun bc H'=>Sub [(10,Pt vb 0)] bc/\H'=⟨tb,true,.row (bC (idx++z)) 5 fz⟩::(Hq vb [.slice none 0 0,pV pb has,.bool ((decide (n4.length=1)&&kh.isSome)||(decide (pO=3)&&((ul.head?).map (fun t:T0=>t.h.isSome)).getD false)),S []] pb mZ ps.length cP mN qb nq sk.length cS mQ (Cs++Ht))) (fun I3=>?_) ?_
  ·refine gD<|gB<|gJ rfl<|gH pU rfl<|gA (gG ag rfl (m6 km) rfl)<|gA (ig aa rfl)<|gA (ie rfl rfl)<|gB<|gZ 585 rfl (fun FW=>?_) (fun FW=>?_)
   ·refine gU<|gI (gX rfl)<|gI (gQ sY rfl)<|gI (gG bX rfl (m6 km) rfl)<|gI (jB bR rfl)<|gT<|gB<|gZ 592 rfl (fun Lh=>?_) (fun Lh=>?_)
    ·refine gE ?_;refine gE ?_;refine gE ?_;refine gE ?_;refine gE ?_;refine gE ?_;refine iv ?_;refine iv ?_;refine iv ?_;refine iv ?_;refine iv ?_;refine iv ?_;refine iv ?_;refine iv ?_;refine iv ?_;refine iv ?_;refine gE ?_;refine gT ?_;refine gH s6 rfl ?_;have px:kh.isSome=true:=by rw[<-cI,<-BD];exact Lh
     have h5:n4.length=1:=by have:=of_decide_eq_true FW;omega
     have e:((decide (n4.length=1)&&kh.isSome)||(decide (pO=3)&&((ul.head?).map (fun t:T0=>t.h.isSome)).getD false))=true:=by rw[decide_eq_true h5,px];rfl
     refine gO aP rfl rfl rfl (.s .z) rfl rfl<|gC<|I3 _ _ ⟨.cons rfl .nil,?_⟩;rw[e];rfl
    refine gU<|gI (gX rfl)<|gI (gQ sX rfl)<|gI (gG cf rfl (m6 km) rfl)<|gI (ie rfl rfl)<|gU<|gZ 598 rfl (fun Et=>?_) (fun Et=>?_)
    ·refine gU<|gI (gX rfl)<|gI (gQ p5 rfl) ?_;have I4:pO=3:=by have:=of_decide_eq_true Et;omega
     obtain⟨k0,kr,rfl⟩:∃k0 kr,ul=k0::kr:=by
      cases ul with
      |nil=>exact absurd ⟨I4,rfl⟩ uo
      |cons a r=>exact⟨a,r,rfl⟩
     obtain⟨Eu,I5⟩:∃Eu,Bo[0]? =some Eu:=⟨_,ao (by rw[Eo];simp)⟩;have FX:=kk 0 k0 Eu rfl I5;obtain⟨BE,ab9,aca,e2,rfl⟩:=ks.at (i:=0) (by simp);cases e2;have OJ:=I2 _ (.head _)
     cases FX with
     | @mk OK OL OM ON OO OP OQ OR _ acb acd ace acf OS k0s aci acj OT k0k=>
     obtain⟨OU,acm,acn,rfl,OV⟩:=OT.slice;refine gI (gG bj rfl (m6 km) rfl)<|gI (ij (i:=0) az bi rfl rfl (by simp))<|gI (gG bK rfl (.tail _ (.tail _ (.tail _ (.tail _ (.tail _ (.tail _ ((au _ OJ)))))))) (by rw[n8,aH,aT,ak (by rw[aQ,Eo];simp),aD,I5];rfl)) ?_;refine gI (gX rfl)<|gI (gQ sY rfl)<|gI (gG bX rfl (m6 OS) rfl)<|gI (jB bR rfl)<|gI (iL rfl rfl)<|hG<|gH s6 rfl ?_;have px:kh.isSome=false:=by rw[<-cI,<-BD];exact Lh
     have h5:n4.length=1:=by have:=of_decide_eq_true FW;omega
     have e:((decide (n4.length=1)&&kh.isSome)||(decide (pO=3)&&(((Tr.node () OK OL OM ON OO OP OQ OR::kr).head?).map (fun t:T0=>t.h.isSome)).getD false))=(!OU.isNone):=by rw[px,decide_eq_true I4,OV,cI,gv,dL,fE];rfl
     refine gO aP rfl rfl rfl (.s .z) rfl rfl<|gC<|I3 _ _ ⟨.cons rfl .nil,?_⟩;rw[e];rfl
    refine gE ?_;refine gE ?_;refine gE ?_;refine gE ?_;refine gE ?_;refine gE ?_;refine gE ?_;refine gE ?_;refine gE ?_;refine gE ?_;refine gI (iD rfl rfl) ?_;refine hG ?_;refine gH s6 rfl ?_;have px:kh.isSome=false:=by rw[<-cI,<-BD];exact Lh
    have h5:n4.length=1:=by have:=of_decide_eq_true FW;omega
    have h3:¬pO=3:=by have:=of_decide_eq_false Et;omega
    have e:((decide (n4.length=1)&&kh.isSome)||(decide (pO=3)&&((ul.head?).map (fun t:T0=>t.h.isSome)).getD false))=false:=by rw[px,decide_eq_false h3,gv,dL,eh]
    refine gO aP rfl rfl rfl (.s .z) rfl rfl<|gC<|I3 _ _ ⟨.cons rfl .nil,?_⟩;rw[e];rfl
   refine gE ?_;refine gE ?_;refine gE ?_;refine gE ?_;refine gE ?_;refine hG ?_;refine gB ?_;refine gU ?_;refine gI (gX rfl) ?_;refine gI (gQ sX rfl) ?_;refine gI (gG cf rfl (m6 km) rfl) ?_;refine gI (ie rfl rfl) ?_;refine gU ?_;refine gZ 598 rfl (fun Et=>?_) (fun Et=>?_)
   ·refine gU<|gI (gX rfl)<|gI (gQ p5 rfl) ?_;have I4:pO=3:=by have:=of_decide_eq_true Et;omega
    obtain⟨k0,kr,rfl⟩:∃k0 kr,ul=k0::kr:=by
     cases ul with
     |nil=>exact absurd ⟨I4,rfl⟩ uo
     |cons a r=>exact⟨a,r,rfl⟩
    obtain⟨Eu,I5⟩:∃Eu,Bo[0]? =some Eu:=⟨_,ao (by rw[Eo];simp)⟩;have FX:=kk 0 k0 Eu rfl I5;obtain⟨BE,ab9,aca,e2,rfl⟩:=ks.at (i:=0) (by simp);cases e2;have OJ:=I2 _ (.head _)
    cases FX with
    | @mk OK OL OM ON OO OP OQ OR _ acb acd ace acf OS k0s aci acj OT k0k=>
    obtain⟨OU,acm,acn,rfl,OV⟩:=OT.slice;refine gI (gG bj rfl (m6 km) rfl)<|gI (ij (i:=0) az bi rfl rfl (by simp))<|gI (gG bK rfl (.tail _ (.tail _ (.tail _ (.tail _ (.tail _ (.tail _ ((au _ OJ)))))))) (by rw[n8,aH,aT,ak (by rw[aQ,Eo];simp),aD,I5];rfl)) ?_;refine gI (gX rfl)<|gI (gQ sY rfl)<|gI (gG bX rfl (m6 OS) rfl)<|gI (jB bR rfl)<|gI (iL rfl rfl)<|hG<|gH s6 rfl ?_;have h5:¬n4.length=1:=by have:=of_decide_eq_false FW;omega
    have e:((decide (n4.length=1)&&kh.isSome)||(decide (pO=3)&&(((Tr.node () OK OL OM ON OO OP OQ OR::kr).head?).map (fun t:T0=>t.h.isSome)).getD false))=(!OU.isNone):=by rw[decide_eq_false h5,decide_eq_true I4,OV,cI,eh,dL,fE];rfl
    refine gO aP rfl rfl rfl (.s .z) rfl rfl<|gC<|I3 _ _ ⟨.cons rfl .nil,?_⟩;rw[e];rfl
   refine gE ?_;refine gE ?_;refine gE ?_;refine gE ?_;refine gE ?_;refine gE ?_;refine gE ?_;refine gE ?_;refine gE ?_;refine gE ?_;refine gI (iD rfl rfl) ?_;refine hG ?_;refine gH s6 rfl ?_;have h5:¬n4.length=1:=by have:=of_decide_eq_false FW;omega
   have h3:¬pO=3:=by have:=of_decide_eq_false Et;omega
   have e:((decide (n4.length=1)&&kh.isSome)||(decide (pO=3)&&((ul.head?).map (fun t:T0=>t.h.isSome)).getD false))=false:=by rw[decide_eq_false h5,decide_eq_false h3,eh,dL,eh]
   refine gO aP rfl rfl rfl (.s .z) rfl rfl<|gC<|I3 _ _ ⟨.cons rfl .nil,?_⟩;rw[e];rfl
  rintro bc H' ⟨UT,rfl⟩;refine gN UT ?_;clear UT;refine hO (H':=(Hq vb [.slice none 0 0,pV pb has,.bool ((decide (n4.length=1)&&kh.isSome)||(decide (pO=3)&&((ul.head?).map (fun t:T0=>t.h.isSome)).getD false)),S []] pb mZ ps.length cP mN qb nq sk.length cS mQ (Cs++Ht))) (fun w1 h1=>h1.sub (ai _ _))<|gz<|gD<|gA (ja (cs:=[.slice none 0 0,pV pb has,.bool ((decide (n4.length=1)&&kh.isSome)||(decide (pO=3)&&((ul.head?).map (fun t:T0=>t.h.isSome)).getD false)),S []]) bW bg rfl (.head _) rfl rfl)<|iO (cs:=[.slice none 0 0,pV pb has,.bool ((decide (n4.length=1)&&kh.isSome)||(decide (pO=3)&&((ul.head?).map (fun t:T0=>t.h.isSome)).getD false)),S []]) bg rfl rfl (by intro v hv;simp only[af,aC,or_false] at hv;rcases hv with rfl|rfl|rfl|rfl<;>first|rfl|exact yh _ _) .z rfl<|gC<|jv (cs:=[.slice none 0 0,pV pb has,.bool ((decide (n4.length=1)&&kh.isSome)||(decide (pO=3)&&((ul.head?).map (fun t:T0=>t.h.isSome)).getD false)),S []]) rfl bW bg rfl (.head _) rfl fun w' ia=>fin has mN (.slice none 0 0) w' nQ oK oI (BC) (ia.sub (.cons _ (.cons_cons _ (.cons_cons _ (.cons _ (.cons _ (aG _ _)))))))
 refine gL<|il<|gD<|gA (iy q (by omega))<|gB<|gC ?_;have rG:x≠47:=fun e=>FV (by rw[e];rfl)
 have zC:q≠i:=fun e=>rG (by rw[e,zB] at hx;exact(bp hx).symm)
 exact ih (N-1) _ _ (by omega) ⟨q+1,by omega,.of rfl,rfl⟩
theorem UU {R:Ending->World->Prop} {w:World} {D:Nat->Prop} {cP cS:Nat} {n:T0} {p:List UInt8} {ps:List (List UInt8×List UInt8)} {sk:List Sk} {nb:Nat} {_c:UInt8}
  (hn:Rd Ht Cs n nb) (nQ:mN.length=2*cP) (oK:mN.take (2*ps.length)=nJ ps) (wD:mQ.length=3*cS) (wE:qH Ht Cs mQ sk) (oI:has=false->ps=[]) (su:p.length<=100000) (uS:ps.length<=cP) (uu:cP<=20000) (uT:sk.length<=cS) (vx:cS<=20000) (mU:Sub [(0,Pt nb 0),(1,S p),(2,Pt pb 0),(3,Pt qb 0),(4,.bool un),(10,Pt vb 0),(11,.int .i16 (ps.length:Int)),(12,S n.path)] fr) {ts:Bool} (rj:ts=true\/p=[47]\/sk=[])
  (fin:yi R w D pb mZ cP Ht ⟨none,ps,ts,[]⟩):
  GC Tryd.prog ⟨61,Tryd.f61,R,w,D⟩ 703 OC fr (Hq vb [(.slice none 0 0),(pV pb has),.bool ts,(S [])] pb mZ ps.length cP mN qb nq sk.length cS mQ (Cs++Ht)):=by
 refine gN mU ?_;clear mU;have oD:=hn
 cases hn with
 | @mk path idx mm nt pr h full kids _ bs kv hv Hs hm hs qs pB hh hk=>
 simp only[oZ] at*;obtain⟨ad,cap,rfl⟩:=hs.slice;obtain⟨mX,l2,c2,rfl,pX⟩:=hh.slice;refine gz<|gz<|hY (fun bc H'=>∃t,(t=true->ts=false/\p≠[47])/\Sub [(0,Pt nb 0),(1,S p),(2,Pt pb 0),(3,Pt qb 0),(4,.bool un),(10,Pt vb 0),(11,.int .i16 (ps.length:Int)),(12,S path),(655,.bool t)] bc/\H'=(Hq vb [(.slice none 0 0),(pV pb has),.bool ts,(S [])] pb mZ ps.length cP mN qb nq sk.length cS mQ (Cs++Ht))) (fun Lf=>?_) ?_
 ·refine gD<|gH s6 rfl<|gA (gG bQ rfl (.head _) rfl)<|gA (iU rfl)<|gB<|gZ 652 rfl (fun IW=>?_) (fun IW=>?_)
  ·refine gU ?_;refine gI (jy rfl rfl) ?_;refine gT ?_;refine gC ?_;exact Lf _ _ ⟨_,fun h=>⟨by simpa using IW,by simpa using h⟩,.of rfl,rfl⟩
  refine gE ?_;refine gE ?_;refine hG ?_;refine gC ?_;exact Lf _ _ ⟨false,fun h=>(by cases h),.of rfl,rfl⟩
 rintro bc H' ⟨t,ht,IX,rfl⟩;refine gN IX ?_;clear IX;refine hY (fun bc H'=>Sub [(0,Pt nb 0),(1,S p),(2,Pt pb 0),(3,Pt qb 0),(4,.bool un),(10,Pt vb 0),(11,.int .i16 (ps.length:Int)),(12,S path)] bc/\H'=(Hq vb [(.slice none 0 0),(pV pb has),.bool ts,(S [])] pb mZ ps.length cP mN qb nq sk.length cS mQ (Cs++Ht))) (fun UW=>?_) ?_
 ·refine gV rfl (fun UX=>?_) (fun UX=>?_)
  ·refine gz ?_;obtain⟨Li,h6b⟩:=ht UX
   have IZ:sk=[]:=by
    rcases rj with h|h|h
    ·rw[h] at Li;cases Li
    ·exact absurd h h6b
    exact h
   refine gD<|gB ?_;refine gJ rfl<|gA (gG cT rfl (m3 (.head _)) rfl) ?_;refine gA (iu cd rfl)<|gF ?_;refine gC<|gW ?_;refine jw<|gz ?_;refine gz<|gD ?_;refine gB<|gA (iS rfl rfl) ?_;refine gC<|gS rfl (fun IY=>absurd IY (by rw[IZ];simp)) (fun IY=>?_);exact ir rfl<|UW _ _ ⟨.of rfl,rfl⟩
  exact gL<|UW _ _ ⟨.of rfl,rfl⟩
 rintro bc H' ⟨UY,rfl⟩;refine gN UY ?_;clear UY;refine gz<|gD<|gA (ja (cs:=[.slice none 0 0,pV pb has,.bool ts,S []]) bW bg rfl (.head _) rfl rfl)<|iO (cs:=[.slice none 0 0,pV pb has,.bool ts,S []]) bg rfl rfl (by intro v hv;simp only[af,aC,or_false] at hv;rcases hv with rfl|rfl|rfl|rfl<;>first|rfl|exact yh _ _) .z rfl<|gC<|jv (cs:=[.slice none 0 0,pV pb has,.bool ts,S []]) rfl bW bg rfl (.head _) rfl fun w' ia=>fin has mN (.slice none 0 0) w' nQ oK oI (BC) (ia.sub (.cons _ (.cons_cons _ (.cons_cons _ (.cons _ (.cons _ (aG _ _)))))))
end Go.Proofs
