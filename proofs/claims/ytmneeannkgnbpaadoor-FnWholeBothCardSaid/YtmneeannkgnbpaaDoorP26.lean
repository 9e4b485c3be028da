/- Lemmas of the walk and plain facts (JeF5 .. JeV3). -/
import Derived.Test.YtmneeannkgnbpaaDoorL1
import Derived.Test.YtmneeannkgnbpaaDoorL2
import Derived.Test.YtmneeannkgnbpaaDoorP25
import Derived.Test.YtmneeannkgnbpaaDoorP01
set_option maxRecDepth 20000
namespace Go.Proofs.Ec
open Go Bw
def pF (cb:Nat) (sl pn hp:Value) (pa al:List UInt8):oJ:=Rx cb [sl,pn,hp,S pa,S al] 107
def zd (B:LB) (cb:Nat) (bx:List UInt8) (mT m:Option Nat):SF:=[(1,S bx),(8,Pt cb 0),(9,Pt B.b9 0),(10,PO mT),(11,PO m)]
def yC:List UInt8:=[79,80,84,73,79,78,83]
theorem afa {R:Ending->World->Prop} {w:World} {D:Nat->Prop} {B:LB} {cb:Nat} {bx path:List UInt8} {si pi:Nat} {s:List UInt8} {mH:List (List UInt8)} {sl pn hp:Value} {pa al:List UInt8} {fr:SF} (hs:Sub (zd B cb bx none none) fr) (k:∀w',HF w D (B.mI path none si pi s mH++[pF cb sl pn hp pa al]) w'->R (.returned (.tuple #[])) w'):GC Tryd.prog ⟨51,Tryd.f51,R,w,D⟩ 316 xJ fr (B.mI path none si pi s mH++[pF cb sl pn hp pa al]):=by
 refine gN hs<|gz<|gz<|gD<|gA (gG aq rfl (.head _) rfl)<|gA (jg (p:=none) aK rfl)<|gB<|gZ 225 rfl (fun wj=>?_) (fun wj=>?_)
 ·exact gU<|gI (jg (p:=none) aK rfl)<|iZ (v:=.bool true) (iL rfl rfl) rfl<|gC<|ji rfl<|jD rfl fun w' ia=>k w' ia
 cases wj
theorem afb {R:Ending->World->Prop} {w:World} {D:Nat->Prop} {B:LB} {cb:Nat} {bx path:List UInt8} {si pi:Nat} {s:List UInt8} {mH:List (List UInt8)} {sl pn hp:Value} {pa al:List UInt8} {fr:SF} {E:SH} (hE:RF w D E) {n:Nat} {mT:Option Nat} {h hh np mR:Nat} {pp:List UInt8} {pad:Option Addr} (hm:nT h (some hh) pp pad np mR∈E) (hs:Sub (zd B cb bx mT (some h)) fr) (k:∀w',HF w D (B.mI path (some n) si pi s mH++[pF cb sl (.slice pad np mR) (Pt hh 0) pp al]) w'->R (.returned (.tuple #[])) w'):
  GC Tryd.prog ⟨51,Tryd.f51,R,w,D⟩ 316 xJ fr (B.mI path (some n) si pi s mH++[pF cb sl pn hp pa al]):=by
 have n5:∀(i:Nat) (v:Value),nth [PO (some hh),S pp,.slice pad np mR] i=some v->w.cell? ⟨h,i,none⟩=some v:=fun i v hv=>hE.cell hm hv
 have hD:¬D h:=hE.D hm;refine gN hs<|gz<|gz<|gD<|gA (gG aq rfl (.head _) rfl)<|gA (jg (p:=some n) aK rfl)<|gB<|gZ 225 rfl (fun wj=>?_) (fun wj=>?_)
 ·cases wj
 refine gE ?_;refine gE ?_;refine iZ (v:=.bool false) (iD rfl rfl) rfl ?_;refine gC ?_;refine iJ rfl ?_;refine gL ?_;refine gz ?_;refine gD ?_;refine gF ?_;refine gC ?_;refine gz ?_;refine gD ?_;refine gF ?_;refine gC ?_;refine gz ?_;refine gz ?_;refine gD ?_;refine gB ?_;refine gA (iA aJ rfl) ?_;refine gC ?_;refine ji rfl ?_;refine gz ?_;refine gD ?_;refine gB ?_;refine gJ rfl ?_;refine gH Dg rfl ?_;refine gA (hZ ag rfl (n5 1 _ rfl) hD) ?_;refine gF ?_;refine gC ?_;refine gz ?_;refine gD ?_;refine gB ?_;refine gJ rfl ?_;refine gH BM rfl ?_;refine gA (hZ bF rfl (n5 2 _ rfl) hD) ?_;refine gF ?_;refine gC ?_;refine gD ?_;refine gB ?_;refine gB ?_;refine gJ rfl ?_;refine gH AT rfl ?_;refine gA (hZ dy rfl (n5 0 _ rfl) hD) ?_;refine gJ rfl ?_;refine gH yY rfl ?_;refine gO cN rfl rfl rfl (.s (.s (.s (.s (.s (.s (.s .z))))))) rfl rfl ?_;refine gC ?_;refine gz ?_;refine gD ?_;refine gB ?_;refine gB ?_;refine gJ rfl ?_;refine gH Gk rfl ?_;refine gO ah rfl rfl rfl (.s (.s (.s (.s (.s (.s (.s .z))))))) rfl rfl ?_;refine gC ?_;refine gD ?_;refine gB ?_;refine gB ?_;refine gJ rfl ?_;refine gH Gj rfl ?_;refine gO cB rfl rfl rfl (.s (.s (.s (.s (.s (.s (.s .z))))))) rfl rfl ?_;refine gC ?_;exact jq rfl fun w' ia=>k w' ia
theorem afc {R:Ending->World->Prop} {w:World} {D:Nat->Prop} {B:LB} {cb:Nat} {bx path:List UInt8} {si pi:Nat} {s:List UInt8} {mH:List (List UInt8)} {sl pn hp:Value} {pa al:List UInt8} {fr:SF} {E:SH} (hE:RF w D E) {_n:Nat} {r:NR} (hr:∀e∈r.mI,e∈E) (pZ:r.nf=none) (nn:r.nn=true) (hs:Sub (zd B cb bx (some r.n) none) fr)
  (k:∀hb w',HF w D (Rx hb [I (if bx=yC then-3 else-2)] 3::(B.mI path (some r.n) si pi s mH++[pF cb sl (.slice none 0 0) (Pt hb 0) r.rZ r.nH])) w'->R (.returned (.tuple #[])) w'):
  GC Tryd.prog ⟨51,Tryd.f51,R,w,D⟩ 316 xJ fr (B.mI path none si pi s mH++[pF cb sl pn hp pa al]):=by
 have n5:∀(i:Nat) (v:Value),nth r.row i=some v->w.cell? ⟨r.n,i,none⟩=some v:=fun i v hv=>hE.cell (hr _ (.head _)) hv
 have vN:∀(i:Nat) (v:Value),nth r.mr i=some v->w.cell? ⟨r.m,i,none⟩=some v:=fun i v hv=>hE.cell (hr _ (.tail _ (.head _))) hv
 have hD:¬D r.n:=hE.D (hr _ (.head _));have uG:¬D r.m:=hE.D (hr _ (.tail _ (.head _)));refine gN hs<|gz<|gz<|gD<|gA (gG aq rfl (.head _) rfl)<|gA (jg (p:=none) aK rfl)<|gB<|gZ 225 rfl (fun wj=>?_) (fun wj=>?_)
 ·refine gU<|gI (jg (p:=some r.n) aK rfl)<|iZ (v:=.bool false) (iL rfl rfl) rfl<|gC<|iJ rfl<|gL<|gz<|gN (bc:=zd B cb bx (some r.n) none) (.of rfl)<|gD<|gF<|gC<|gz<|gD<|gF<|gC<|gz<|gz<|gD<|gB<|gA (iA (p:=none) aJ rfl)<|gC<|iJ rfl<|gz<|gD<|gB<|gO bm rfl rfl rfl .z rfl rfl<|gC<|gz<|gD<|gA (gG aq rfl (.head _) rfl)<|gJ rfl<|gH AR rfl<|gA (hZ ag rfl (n5 6 _ rfl) hD)<|gF<|gC<|gz<|gD<|gF<|gC<|gz<|gD<|gB<|jH dV rfl rfl (fun w1 _=>yB w1 (-1)) (fun sd _=>?_);refine gJ rfl<|gH yY rfl<|gO cN rfl rfl rfl (.s (.s (.s (.s (.s (.s (.s (.s .z)))))))) rfl rfl<|gC<|gz<|gD<|gA (gG aq rfl (.tail _ (.head _)) rfl)<|gJ rfl<|gH uW rfl<|gA (hZ aO rfl (n5 4 _ rfl) hD)<|gA (iA aJ rfl)<|gC<|gV rfl (fun yD=>by rw[pZ] at yD;cases yD) (fun yD=>?_);refine gz<|gD<|gA (gG aq rfl (.tail _ (.head _)) rfl)<|gJ rfl<|gH ED rfl<|gA (hZ bQ rfl (n5 12 _ rfl) hD)<|gC<|gV rfl (fun EY=>?_) (fun EY=>by rw[nn] at EY;cases EY);refine gz<|gD<|gB<|gA (gG aq rfl (.tail _ (.head _)) rfl)<|gJ rfl<|gH q6 rfl<|gA (hZ bq rfl (n5 0 _ rfl) hD)<|gJ rfl<|gH Pn rfl<|gA (hZ ag rfl (vN 12 _ rfl) uG)<|gJ rfl<|gH Pk rfl<|gO ah rfl rfl rfl (.s (.s (.s (.s (.s (.s (.s (.s .z)))))))) rfl rfl<|gC<|gz<|gD<|gB<|jH dV rfl rfl (fun w1 _=>yB w1 (-2)) (fun sf _=>?_);refine gJ rfl<|gH yY rfl<|gO cN rfl rfl rfl (.s (.s (.s (.s (.s (.s (.s (.s (.s .z))))))))) rfl rfl<|gC<|gz<|gD<|gB<|gA (iE rfl rfl)<|gC<|hY (fun bc H'=>Sub [(8,Pt cb 0),(32,S r.rZ),(33,.slice none 0 0)] bc/\∃hb,H'=(Rx hb [I (if bx=yC then-3 else-2)] 3)::(B.mI path (some r.n) si pi s mH++[pF cb sl pn (Pt hb 0) pa r.nH])) (fun JM=>?_) ?_
  ·refine gS rfl (fun uU=>?_) (fun uU=>?_)
   ·refine gD<|gB<|jH dV rfl rfl (fun w1 _=>yB w1 (-3)) (fun ze _=>?_);refine gJ rfl<|gH yY rfl<|gO cN rfl rfl rfl (.s (.s (.s (.s (.s (.s (.s (.s (.s (.s .z)))))))))) rfl rfl<|gC ?_;have EZ:(if bx=yC then(-3:Int) else-2)=(-3):=if_pos uU;refine hO (H':=Rx ze [I (-3)] 3::(B.mI path (some r.n) si pi s mH++[pF cb sl pn (Pt ze 0) pa r.nH])) (fun w1 fa=>HF.sub (H:=Rx ze [I (-3)] 3::Rx sf [I (-2)] 3::Rx sd [I (-1)] 3::(B.mI path (some r.n) si pi s mH++[pF cb sl pn (Pt ze 0) pa r.nH])) fa (.cons_cons _ ((ai _ _).trans (ai _ _)))) (JM _ _ ⟨.of rfl,ze,by rw[EZ]⟩)
   refine gL ?_;have EZ:(if bx=yC then(-3:Int) else-2)=(-2):=if_neg uU;refine hO (H':=Rx sf [I (-2)] 3::(B.mI path (some r.n) si pi s mH++[pF cb sl pn (Pt sf 0) pa r.nH])) (fun w1 fa=>HF.sub (H:=Rx sf [I (-2)] 3::Rx sd [I (-1)] 3::(B.mI path (some r.n) si pi s mH++[pF cb sl pn (Pt sf 0) pa r.nH])) fa (.cons_cons _ (ai _ _))) (JM _ _ ⟨.of rfl,sf,by rw[EZ]⟩)
  rintro bc H' ⟨mJ,hb,rfl⟩;refine gN mJ ?_;clear mJ;refine gz<|gD<|gB<|gB<|gJ rfl<|gH Gk rfl ?_;refine gO ah rfl rfl rfl (.s (.s (.s (.s (.s (.s (.s (.s .z)))))))) rfl rfl<|gC<|gD<|gB<|gB<|gJ rfl ?_;exact gH Gj rfl<|gO cB rfl rfl rfl (.s (.s (.s (.s (.s (.s (.s (.s .z)))))))) rfl rfl<|gC<|jq rfl fun w' ia=>k hb w' ia
 cases wj
theorem afd {R:Ending->World->Prop} {w:World} {D:Nat->Prop} {B:LB} {cb:Nat} {bx path:List UInt8} {si pi:Nat} {s:List UInt8} {mH:List (List UInt8)} {sl pn hp:Value} {pa al:List UInt8} {fr:SF} {E:SH} (hE:RF w D E) {n:Nat} {r:NR} (hr:∀e∈r.mI,e∈E) (pZ:r.nf=none) (nn:r.nn=true) (hs:Sub (zd B cb bx (some r.n) none) fr)
  (k:∀hb w',HF w D (Rx hb [I (if bx=yC then-3 else-2)] 3::(B.mI path (some r.n) si pi s mH++[pF cb sl (.slice none 0 0) (Pt hb 0) r.rZ r.nH])) w'->R (.returned (.tuple #[])) w'):
  GC Tryd.prog ⟨51,Tryd.f51,R,w,D⟩ 316 xJ fr (B.mI path (some n) si pi s mH++[pF cb sl pn hp pa al]):=by
 have n5:∀(i:Nat) (v:Value),nth r.row i=some v->w.cell? ⟨r.n,i,none⟩=some v:=fun i v hv=>hE.cell (hr _ (.head _)) hv
 have vN:∀(i:Nat) (v:Value),nth r.mr i=some v->w.cell? ⟨r.m,i,none⟩=some v:=fun i v hv=>hE.cell (hr _ (.tail _ (.head _))) hv
 have hD:¬D r.n:=hE.D (hr _ (.head _));have uG:¬D r.m:=hE.D (hr _ (.tail _ (.head _)));refine gN hs<|gz<|gz<|gD<|gA (gG aq rfl (.head _) rfl)<|gA (jg (p:=(some n)) aK rfl)<|gB<|gZ 225 rfl (fun wj=>?_) (fun wj=>?_)
 ·cases wj
 refine gE ?_;refine gE ?_;refine iZ (v:=.bool false) (iD rfl rfl) rfl ?_;refine gC ?_;refine iJ rfl ?_;refine gL ?_;refine gz ?_;refine gN (bc:=zd B cb bx (some r.n) none) (.of rfl) ?_;refine gD ?_;refine gF ?_;refine gC ?_;refine gz ?_;refine gD ?_;refine gF ?_;refine gC ?_;refine gz ?_;refine gz ?_;refine gD ?_;refine gB ?_;refine gA (iA (p:=none) aJ rfl) ?_;refine gC ?_;refine iJ rfl ?_;refine gz ?_;refine gD ?_;refine gB ?_;refine gO bm rfl rfl rfl .z rfl rfl ?_;refine gC ?_;refine gz ?_;refine gD ?_;refine gA (gG aq rfl (.head _) rfl) ?_;refine gJ rfl ?_;refine gH AR rfl ?_;refine gA (hZ ag rfl (n5 6 _ rfl) hD) ?_;refine gF ?_;refine gC ?_;refine gz ?_;refine gD ?_;refine gF ?_;refine gC ?_;refine gz ?_;refine gD ?_;refine gB ?_;refine jH dV rfl rfl (fun w1 _=>yB w1 (-1)) (fun sd _=>?_);refine gJ rfl ?_;refine gH yY rfl ?_;refine gO cN rfl rfl rfl (.s (.s (.s (.s (.s (.s (.s (.s .z)))))))) rfl rfl ?_;refine gC ?_;refine gz ?_;refine gD ?_;refine gA (gG aq rfl (.tail _ (.head _)) rfl) ?_;refine gJ rfl ?_;refine gH uW rfl ?_;refine gA (hZ aO rfl (n5 4 _ rfl) hD) ?_;refine gA (iA aJ rfl) ?_;refine gC ?_;refine gV rfl (fun yD=>by rw[pZ] at yD;cases yD) (fun yD=>?_);refine gz ?_;refine gD ?_;refine gA (gG aq rfl (.tail _ (.head _)) rfl) ?_;refine gJ rfl ?_;refine gH ED rfl ?_;refine gA (hZ bQ rfl (n5 12 _ rfl) hD) ?_;refine gC ?_;refine gV rfl (fun EY=>?_) (fun EY=>by rw[nn] at EY;cases EY);refine gz ?_;refine gD ?_;refine gB ?_;refine gA (gG aq rfl (.tail _ (.head _)) rfl) ?_;refine gJ rfl ?_;refine gH q6 rfl ?_;refine gA (hZ bq rfl (n5 0 _ rfl) hD) ?_;refine gJ rfl ?_;refine gH Pn rfl ?_;refine gA (hZ ag rfl (vN 12 _ rfl) uG) ?_;refine gJ rfl ?_;refine gH Pk rfl ?_;refine gO ah rfl rfl rfl (.s (.s (.s (.s (.s (.s (.s (.s .z)))))))) rfl rfl ?_;refine gC ?_;refine gz ?_;refine gD ?_;refine gB ?_;refine jH dV rfl rfl (fun w1 _=>yB w1 (-2)) (fun sf _=>?_);refine gJ rfl ?_;refine gH yY rfl ?_;refine gO cN rfl rfl rfl (.s (.s (.s (.s (.s (.s (.s (.s (.s .z))))))))) rfl rfl ?_;refine gC ?_;refine gz ?_;refine gD ?_;refine gB ?_;refine gA (iE rfl rfl) ?_;refine gC ?_;refine hY (fun bc H'=>Sub [(8,Pt cb 0),(32,S r.rZ),(33,.slice none 0 0)] bc/\∃hb,H'=(Rx hb [I (if bx=yC then-3 else-2)] 3)::(B.mI path (some r.n) si pi s mH++[pF cb sl pn (Pt hb 0) pa r.nH])) (fun JM=>?_) ?_
 ·refine gS rfl (fun uU=>?_) (fun uU=>?_)
  ·refine gD<|gB<|jH dV rfl rfl (fun w1 _=>yB w1 (-3)) (fun ze _=>?_);refine gJ rfl<|gH yY rfl<|gO cN rfl rfl rfl (.s (.s (.s (.s (.s (.s (.s (.s (.s (.s .z)))))))))) rfl rfl<|gC ?_;have EZ:(if bx=yC then(-3:Int) else-2)=(-3):=if_pos uU;refine hO (H':=Rx ze [I (-3)] 3::(B.mI path (some r.n) si pi s mH++[pF cb sl pn (Pt ze 0) pa r.nH])) (fun w1 fa=>HF.sub (H:=Rx ze [I (-3)] 3::Rx sf [I (-2)] 3::Rx sd [I (-1)] 3::(B.mI path (some r.n) si pi s mH++[pF cb sl pn (Pt ze 0) pa r.nH])) fa (.cons_cons _ ((ai _ _).trans (ai _ _)))) (JM _ _ ⟨.of rfl,ze,by rw[EZ]⟩)
  refine gL ?_;have EZ:(if bx=yC then(-3:Int) else-2)=(-2):=if_neg uU;refine hO (H':=Rx sf [I (-2)] 3::(B.mI path (some r.n) si pi s mH++[pF cb sl pn (Pt sf 0) pa r.nH])) (fun w1 fa=>HF.sub (H:=Rx sf [I (-2)] 3::Rx sd [I (-1)] 3::(B.mI path (some r.n) si pi s mH++[pF cb sl pn (Pt sf 0) pa r.nH])) fa (.cons_cons _ (ai _ _))) (JM _ _ ⟨.of rfl,sf,by rw[EZ]⟩)
 rintro bc H' ⟨mJ,hb,rfl⟩;refine gN mJ ?_;clear mJ;refine gz<|gD<|gB<|gB<|gJ rfl<|gH Gk rfl ?_;refine gO ah rfl rfl rfl (.s (.s (.s (.s (.s (.s (.s (.s .z)))))))) rfl rfl<|gC<|gD<|gB<|gB<|gJ rfl ?_;exact gH Gj rfl<|gO cB rfl rfl rfl (.s (.s (.s (.s (.s (.s (.s (.s .z)))))))) rfl rfl<|gC<|jq rfl fun w' ia=>k hb w' ia
theorem afe {R:Ending->World->Prop} {w:World} {D:Nat->Prop} {B:LB} {cb:Nat} {bx path:List UInt8} {si pi:Nat} {s:List UInt8} {mH:List (List UInt8)} {sl pn hp:Value} {pa al:List UInt8} {fr:SF} {E:SH} (hE:RF w D E) {_n:Nat} {r:NR} (hr:∀e∈r.mI,e∈E) {h hh np mR:Nat} {pp:List UInt8} {pad:Option Addr} (hm:nT h (some hh) pp pad np mR∈E) (pZ:r.nf=some h) (hs:Sub (zd B cb bx (some r.n) none) fr)
  (k:∀w',HF w D (B.mI path (some r.n) si pi s mH++[pF cb sl (.slice pad np mR) (Pt hh 0) pp al]) w'->R (.returned (.tuple #[])) w'):
  GC Tryd.prog ⟨51,Tryd.f51,R,w,D⟩ 316 xJ fr (B.mI path none si pi s mH++[pF cb sl pn hp pa al]):=by
 have n5:∀(i:Nat) (v:Value),nth r.row i=some v->w.cell? ⟨r.n,i,none⟩=some v:=fun i v hv=>hE.cell (hr _ (.head _)) hv
 have hD:¬D r.n:=hE.D (hr _ (.head _));have sK:∀(i:Nat) (v:Value),nth [PO (some hh),S pp,.slice pad np mR] i=some v->w.cell? ⟨h,i,none⟩=some v:=fun i v hv=>hE.cell hm hv
 have E0:¬D h:=hE.D hm;have Ca:w.cell? ⟨r.n,4,none⟩=some (Pt h 0):=by rw[n5 4 _ rfl,pZ];rfl
 refine gN hs<|gz<|gz<|gD<|gA (gG aq rfl (.head _) rfl)<|gA (jg (p:=none) aK rfl)<|gB<|gZ 225 rfl (fun wj=>?_) (fun wj=>?_)
 ·refine gU<|gI (jg (p:=some r.n) aK rfl)<|iZ (v:=.bool false) (iL rfl rfl) rfl<|gC<|iJ rfl<|gL ?_;refine gz<|gN (bc:=zd B cb bx (some r.n) none) (.of rfl)<|gD<|gF<|gC<|gz ?_;refine gD<|gF<|gC<|gz<|gz<|gD ?_;refine gB<|gA (iA (p:=none) aJ rfl)<|gC<|iJ rfl<|gz<|gD ?_;refine gB<|gO bm rfl rfl rfl .z rfl rfl<|gC<|gz<|gD<|gA (gG aq rfl (.head _) rfl) ?_;refine gJ rfl<|gH AR rfl<|gA (hZ ag rfl (n5 6 _ rfl) hD)<|gF<|gC<|gz ?_;refine gD<|gF<|gC<|gz<|gD<|gB<|jH dV rfl rfl (fun w1 _=>yB w1 (-1)) (fun sd _=>?_);refine gJ rfl<|gH yY rfl<|gO cN rfl rfl rfl (.s (.s (.s (.s (.s (.s (.s (.s .z)))))))) rfl rfl<|gC<|gz<|gD ?_;refine gA (gG aq rfl (.tail _ (.head _)) rfl)<|gJ rfl<|gH uW rfl<|gA (hZ aO rfl Ca hD)<|gA (iA (p:=some h) aJ rfl)<|gC<|gV rfl (fun yD=>?_) (fun yD=>by cases yD);refine gz<|gD<|gA (gG aq rfl (.tail _ (.head _)) rfl)<|gJ rfl<|gH uW rfl<|gA (hZ aO rfl Ca hD) ?_;refine gJ rfl<|gH Dg rfl<|gA (hZ ag rfl (sK 1 _ rfl) E0)<|gF<|gC<|gz ?_;refine gD<|gA (gG aq rfl (.tail _ (.head _)) rfl)<|gJ rfl<|gH uW rfl<|gA (hZ aO rfl Ca hD)<|gJ rfl ?_;refine gH BM rfl<|gA (hZ bF rfl (sK 2 _ rfl) E0)<|gF<|gC<|gD<|gB ?_;refine gA (gG aq rfl (.tail _ (.head _)) rfl)<|gJ rfl<|gH uW rfl<|gA (hZ aO rfl Ca hD)<|gJ rfl<|gH AT rfl ?_;refine gA (hZ dy rfl (sK 0 _ rfl) E0)<|gJ rfl<|gH yY rfl<|gO cN rfl rfl rfl (.s (.s (.s (.s (.s (.s (.s (.s .z)))))))) rfl rfl<|gC<|gz ?_;refine gD<|gB<|gB<|gJ rfl<|gH Gk rfl<|gO ah rfl rfl rfl (.s (.s (.s (.s (.s (.s (.s (.s .z)))))))) rfl rfl ?_;refine gC<|gD<|gB<|gB<|gJ rfl<|gH Gj rfl ?_;exact gO cB rfl rfl rfl (.s (.s (.s (.s (.s (.s (.s (.s .z)))))))) rfl rfl<|gC<|jq rfl fun w' ia=>k w' (HF.sub (H:=Rx sd [I (-1)] 3::(B.mI path (some r.n) si pi s mH++[pF cb sl (.slice pad np mR) (Pt hh 0) pp al])) ia (ai _ _))
 cases wj
theorem aff {R:Ending->World->Prop} {w:World} {D:Nat->Prop} {B:LB} {cb:Nat} {bx path:List UInt8} {si pi:Nat} {s:List UInt8} {mH:List (List UInt8)} {sl pn hp:Value} {pa al:List UInt8} {fr:SF} {E:SH} (hE:RF w D E) {n:Nat} {r:NR} (hr:∀e∈r.mI,e∈E) {h hh np mR:Nat} {pp:List UInt8} {pad:Option Addr} (hm:nT h (some hh) pp pad np mR∈E) (pZ:r.nf=some h) (hs:Sub (zd B cb bx (some r.n) none) fr)
  (k:∀w',HF w D (B.mI path (some r.n) si pi s mH++[pF cb sl (.slice pad np mR) (Pt hh 0) pp al]) w'->R (.returned (.tuple #[])) w'):
  GC Tryd.prog ⟨51,Tryd.f51,R,w,D⟩ 316 xJ fr (B.mI path (some n) si pi s mH++[pF cb sl pn hp pa al]):=by
 have n5:∀(i:Nat) (v:Value),nth r.row i=some v->w.cell? ⟨r.n,i,none⟩=some v:=fun i v hv=>hE.cell (hr _ (.head _)) hv
 have hD:¬D r.n:=hE.D (hr _ (.head _));have sK:∀(i:Nat) (v:Value),nth [PO (some hh),S pp,.slice pad np mR] i=some v->w.cell? ⟨h,i,none⟩=some v:=fun i v hv=>hE.cell hm hv
 have E0:¬D h:=hE.D hm;have Ca:w.cell? ⟨r.n,4,none⟩=some (Pt h 0):=by rw[n5 4 _ rfl,pZ];rfl
 refine gN hs<|gz<|gz<|gD<|gA (gG aq rfl (.head _) rfl)<|gA (jg (p:=(some n)) aK rfl)<|gB<|gZ 225 rfl (fun wj=>?_) (fun wj=>?_)
 ·cases wj
 refine gE ?_;refine gE ?_;refine iZ (v:=.bool false) (iD rfl rfl) rfl ?_;refine gC ?_;refine iJ rfl ?_;refine gL ?_;refine gz ?_;refine gN (bc:=zd B cb bx (some r.n) none) (.of rfl) ?_;refine gD ?_;refine gF ?_;refine gC ?_;refine gz ?_;refine gD ?_;refine gF ?_;refine gC ?_;refine gz ?_;refine gz ?_;refine gD ?_;refine gB ?_;refine gA (iA (p:=none) aJ rfl) ?_;refine gC ?_;refine iJ rfl ?_;refine gz ?_;refine gD ?_;refine gB ?_;refine gO bm rfl rfl rfl .z rfl rfl ?_;refine gC ?_;refine gz ?_;refine gD ?_;refine gA (gG aq rfl (.head _) rfl) ?_;refine gJ rfl ?_;refine gH AR rfl ?_;refine gA (hZ ag rfl (n5 6 _ rfl) hD) ?_;refine gF ?_;refine gC ?_;refine gz ?_;refine gD ?_;refine gF ?_;refine gC ?_;refine gz ?_;refine gD ?_;refine gB ?_;refine jH dV rfl rfl (fun w1 _=>yB w1 (-1)) (fun sd _=>?_);refine gJ rfl ?_;refine gH yY rfl ?_;refine gO cN rfl rfl rfl (.s (.s (.s (.s (.s (.s (.s (.s .z)))))))) rfl rfl ?_;refine gC ?_;refine gz ?_;refine gD ?_;refine gA (gG aq rfl (.tail _ (.head _)) rfl) ?_;refine gJ rfl ?_;refine gH uW rfl ?_;refine gA (hZ aO rfl Ca hD) ?_;refine gA (iA (p:=some h) aJ rfl) ?_;refine gC ?_;refine gV rfl (fun yD=>?_) (fun yD=>by cases yD);refine gz ?_;refine gD ?_;refine gA (gG aq rfl (.tail _ (.head _)) rfl) ?_;refine gJ rfl ?_;refine gH uW rfl ?_;refine gA (hZ aO rfl Ca hD) ?_;refine gJ rfl ?_;refine gH Dg rfl ?_;refine gA (hZ ag rfl (sK 1 _ rfl) E0) ?_;refine gF ?_;refine gC ?_;refine gz ?_;refine gD ?_;refine gA (gG aq rfl (.tail _ (.head _)) rfl) ?_;refine gJ rfl ?_;refine gH uW rfl ?_;refine gA (hZ aO rfl Ca hD) ?_;refine gJ rfl ?_;refine gH BM rfl ?_;refine gA (hZ bF rfl (sK 2 _ rfl) E0) ?_;refine gF ?_;refine gC ?_;refine gD ?_;refine gB ?_;refine gA (gG aq rfl (.tail _ (.head _)) rfl) ?_;refine gJ rfl ?_;refine gH uW rfl ?_;refine gA (hZ aO rfl Ca hD) ?_;refine gJ rfl ?_;refine gH AT rfl ?_;refine gA (hZ dy rfl (sK 0 _ rfl) E0) ?_;refine gJ rfl ?_;refine gH yY rfl ?_;refine gO cN rfl rfl rfl (.s (.s (.s (.s (.s (.s (.s (.s .z)))))))) rfl rfl ?_;refine gC ?_;refine gz ?_;refine gD ?_;refine gB ?_;refine gB ?_;refine gJ rfl ?_;refine gH Gk rfl ?_;refine gO ah rfl rfl rfl (.s (.s (.s (.s (.s (.s (.s (.s .z)))))))) rfl rfl ?_;refine gC ?_;refine gD ?_;refine gB ?_;refine gB ?_;refine gJ rfl ?_;refine gH Gj rfl ?_;refine gO cB rfl rfl rfl (.s (.s (.s (.s (.s (.s (.s (.s .z)))))))) rfl rfl ?_;refine gC ?_;exact jq rfl fun w' ia=>k w' (HF.sub (H:=Rx sd [I (-1)] 3::(B.mI path (some r.n) si pi s mH++[pF cb sl (.slice pad np mR) (Pt hh 0) pp al])) ia (ai _ _))
inductive Af (L:List Rt) (T:List NR) (bx:List UInt8) (cb h0:Nat) (sl:Value):n6->List (List UInt8)->SH->Prop
 |wg {mH}:Af L T bx cb h0 sl (.wg mH) mH [pF cb sl (.slice none 0 0) (Pt h0 0) [] []]
 |nO {mH} {rt:Rt} (hr:rt∈L):Af L T bx cb h0 sl (.nO rt.h mH) mH [pF cb sl (.slice rt.pad rt.pS.length rt.mR) (Pt rt.hh 0) rt.rb.p []]
 |xK {mH} {rt:Rt} {r:NR} (hr:rt∈L) (hT:r∈T) (hn:r.nf=some rt.h):Af L T bx cb h0 sl (.o7 r.n mH) mH [pF cb sl (.slice rt.pad rt.pS.length rt.mR) (Pt rt.hh 0) rt.rb.p []]
 |o7 {mH} {hb:Nat} {r:NR} (hT:r∈T) (hn:r.nf=none) (hd:r.nn=true):Af L T bx cb h0 sl (.o7 r.n mH) mH [pF cb sl (.slice none 0 0) (Pt hb 0) r.rZ r.nH,Rx hb [I (if bx=yC then-3 else-2)] 3]
structure afg (T:List NR) (path:List UInt8) (z:Nat) (st:St):Prop where
 si:st.si<=path.length
 pi:st.pi<=z
 vz:st.mH.length=z
 mT:∀b,st.mT=some b->∃r∈T,r.n=b/\(r.nn=true\/r.nf≠none)
noncomputable def Kl:Nat->List Item
 |0=>B6
 |1=>GW
 |_=>DB
structure E1 (L:List Rt) (T:List NR) (E:SH) (Bd:Nat):Prop where
 cl:Cl T
 ok:∀r∈T,r.ok Bd
 bd:Bd<=1000000
 pl:∀r∈T,r.pre.length<=1000000
 pE:∀r∈T,∀m h,getM r.f r.kv m=some h->∃rt∈L,rt.h=h
 nf:∀r∈T,∀h,r.nf=some h->∃rt∈L,rt.h=h
 any:∀r∈T,r.kd=2->r.nn=true\/r.nf≠none
 up:∀r∈T,∀p,r.ng=some p->∃x∈T,x.n=p
 tE:∀e∈mI T,e∈E
 lE:∀rt∈L,∀e∈rt.mI,e∈E
section
variable {L:List Rt} {T:List NR} {E:SH} {Bd:Nat} {R:Ending->World->Prop} {w:World} {D:Nat->Prop} {B:LB} {cb h0:Nat} {bx path:List UInt8} {sl:Value}
theorem DD {r:NR} {si:Nat} (hk:r.kd=0->r.pre<+:path.drop si) (q9:si<=path.length):nE r si<=path.length:=by
 unfold nE;split
 ·rename_i h;have:=(hk h).length_le;rw[aA] at this;omega
 exact q9
theorem Mi (hE:RF w D E) (hT:E1 L T E Bd) {h:Nat} {rt:Rt} (p9:rt∈L) (hh:rt.h=h) {n:Nat} {mT:Option Nat} {fr:SF} {si pi:Nat} {s:List UInt8} {mH:List (List UInt8)}
  (hR:∀A8 X sD si pi s w',Af L T bx cb h0 sl (.nO h mH) A8 X->HF w D (B.mI path sD si pi s A8++X) w'->R (.returned (.tuple #[])) w') (hs:Sub (zd B cb bx mT (some h)) fr):
  GC Tryd.prog ⟨51,Tryd.f51,R,w,D⟩ 316 xJ fr (B.mI path (some n) si pi s mH++[pF cb sl (.slice none 0 0) (Pt h0 0) [] []]):=by
 subst hh;exact afb hE (hT.lE rt p9 _ (m2 (.head _))) hs (fun w' ia=>hR _ _ _ _ _ _ w' (.nO p9) ia)
theorem WZ (hE:RF w D E) (hT:E1 L T E Bd) {mT:Option Nat} (hb:∀b,mT=some b->∃r∈T,r.n=b/\(r.nn=true\/r.nf≠none)) {sD:Option Nat} (hc:mT=none->sD=none) {fr:SF} {si pi:Nat} {s:List UInt8} {mH:List (List UInt8)}
  (hR:∀A8 X sD si pi s w',Af L T bx cb h0 sl (L8 mT mH) A8 X->HF w D (B.mI path sD si pi s A8++X) w'->R (.returned (.tuple #[])) w') (hs:Sub (zd B cb bx mT none) fr):
  GC Tryd.prog ⟨51,Tryd.f51,R,w,D⟩ 316 xJ fr (B.mI path sD si pi s mH++[pF cb sl (.slice none 0 0) (Pt h0 0) [] []]):=by
 cases mT with
 |none=>
  rw[hc rfl]
  exact afa hs fun w' ia=>hR _ _ _ _ _ _ w' .wg ia
 |some b=>
  obtain⟨r,hr,rfl,hd⟩:=hb b rfl;have Mj:∀e∈r.mI,e∈E:=fun e he=>hT.tE e (qN hr he)
  cases pZ:r.nf with
  |some h=>
   obtain⟨rt,p9,hh⟩:=hT.nf r hr h pZ;subst hh;have hm:=hT.lE rt p9 _ (m2 (.head _))
   cases sD with
   |none=>exact afe (_n:=0) hE Mj hm pZ hs fun w' ia=>hR _ _ _ _ _ _ w' (.xK p9 hr pZ) ia
   |some n=>exact aff hE Mj hm pZ hs fun w' ia=>hR _ _ _ _ _ _ w' (.xK p9 hr pZ) ia
  |none=>
   have nn:r.nn=true:=hd.resolve_right (fun h=>h pZ)
   have fin:∀(hb:Nat) w',HF w D (Rx hb [I (if bx=yC then-3 else-2)] 3::(B.mI path (some r.n) si pi s mH++[pF cb sl (.slice none 0 0) (Pt hb 0) r.rZ r.nH])) w'->R (.returned (.tuple #[])) w':=fun hb w' ia=>
    hR _ _ _ _ _ _ w' (.o7 (hb:=hb) hr pZ nn) (ia.perm (by
     have:∀(a b:oJ) (X:SH),(a::(X++[b])).Perm (X++[b,a]):=fun a b X=>by
      rw[show X++[b,a]=(X++[b])++[a] by simp];exact(cO a (X++[b])).symm
     exact this _ _ _))
   cases sD with
   |none=>exact afc (_n:=0) hE Mj pZ nn hs fin
   |some n=>exact afd hE Mj pZ nn hs fin
theorem afh (hE:RF w D E) (hT:E1 L T E Bd) (mM:path.length<=1000000) (hz:B.z<=1000):
  ∀{q7:Nat} {st:St} {na:n6},qC T bx path q7 st na->afg T path B.z st->
   (∀A8 X sD si pi s w',Af L T bx cb h0 sl na A8 X->HF w D (B.mI path sD si pi s A8++X) w'->R (.returned (.tuple #[])) w')->
   ∀fr,Sub (tP B cb bx st.mT) fr->GC Tryd.prog ⟨51,Tryd.f51,R,w,D⟩ 316 (Kl q7) fr (pJ B path st (pF cb sl (.slice none 0 0) (Pt h0 0) [] [])):=by
 intro q7 st na vd
 induction vd with
 | @Qe r st hr hn hk hp Ag=>
  intro mO hR fr hs;have:=mO.pi
  exact WU hE (fun e he=>hT.tE e (qN hr he)) hn mM (hT.pl r hr) mO.si (by omega) rfl hs hk hp (fun _ w' ia=>hR _ _ _ _ _ _ w' .wg ia) (fun p _ h=>by rw[Ag] at h;cases h)
 | @Qf r st p x hr hn hk hp Ag h ih=>
  intro mO hR fr hs;have:=mO.pi;refine WU hE (fun e he=>hT.tE e (qN hr he)) hn mM (hT.pl r hr) mO.si (by omega) rfl hs hk hp (fun h=>by rw[Ag] at h;cases h) (fun p' bc uQ sT=>?_);rw[Ag] at uQ;cases uQ
  exact ih ⟨mO.si,mO.pi,mO.vz,mO.mT⟩ hR bc sT
 | @nO r st h hr hn hk he hh hg=>
  intro mO hR fr hs;have:=mO.pi;refine Mb hE (fun e he=>hT.tE e (qN hr he)) hn mM (hT.pl r hr) mO.si (by omega) rfl hs hk fun bc sT=>?_
  refine aeU hE hT.tE hT.cl hr (hT.ok r hr) hT.bd hn mM (hT.pl r hr) (DD hk mO.si) sT he hh hg fun sU mJ=>?_
  obtain⟨rt,p9,E2⟩:=hT.pE r hr bx h hg
  exact Mi hE hT p9 E2 hR mJ
 | @nf r st h hr hn hk he hh hg=>
  intro mO hR fr hs;have:=mO.pi;refine Mb hE (fun e he=>hT.tE e (qN hr he)) hn mM (hT.pl r hr) mO.si (by omega) rfl hs hk fun bc sT=>?_
  refine aeW hE hT.tE hT.cl hr (hT.ok r hr) hT.bd hn mM (hT.pl r hr) (DD hk mO.si) sT he hh hg fun sU mJ=>?_
  obtain⟨rt,p9,E2⟩:=hT.nf r hr h hg
  exact Mi hE hT p9 E2 hR mJ
 | @down r st c x hr hn hk he hc h ih=>
  intro mO hR fr hs;have:=mO.pi;refine Mb hE (fun e he=>hT.tE e (qN hr he)) hn mM (hT.pl r hr) mO.si (by omega) rfl hs hk fun bc sT=>?_
  refine aeX hE hT.tE hT.cl hr (hT.ok r hr) hT.bd hn mM (hT.pl r hr) (DD hk mO.si) sT he hc fun sU mJ=>?_
  exact ih ⟨DD hk mO.si,mO.pi,mO.vz,mO.mT⟩ hR sU mJ
 | @stay r st x hr hn hk he hc h ih=>
  intro mO hR fr hs;have:=mO.pi;refine Mb hE (fun e he=>hT.tE e (qN hr he)) hn mM (hT.pl r hr) mO.si (by omega) rfl hs hk fun bc sT=>?_
  refine aeZ hE hT.tE hT.cl hr (hT.ok r hr) hT.bd hn mM (hT.pl r hr) (DD hk mO.si) sT he hc fun sU mJ=>?_
  refine ih ⟨DD hk mO.si,mO.pi,mO.vz,fun b hb=>?_⟩ hR sU mJ;simp only[sB] at hb;split at hb
  ·rename_i h3;simp only[bk] at hb;exact⟨r,hr,hb,.inl h3.2.1⟩
  exact mO.mT b hb
 | @ng r c st x hr hn hp hc zY hv h ih=>
  intro mO hR fr hs;have:=mO.pi;refine ae1 hE hT.tE hr hn mM mO.si (by omega) mO.vz hs hp hc zY hv fun sU mJ=>?_
  refine ih ⟨?_,?_,?_,mO.mT⟩ hR sU mJ
  ·have h1:=GX (path.drop st.si);have h2:(path.drop st.si).length =path.length-st.si:=aA;have:=mO.si;show st.si+(if c.leaf then(path.drop st.si).length else qm (path.drop st.si))<=path.length;split<;>omega
  ·show st.pi+1<=B.z;have:=mO.vz;omega
  show(st.mH.set _ _).length =B.z
  rw[cR];exact mO.vz
 | @L9 r st x hr hn hp h ih=>
  intro mO hR fr hs;have:=mO.pi
  exact ae3 hE hT.tE hr hn mM mO.si (by omega) mO.vz hs hp fun sU mJ=>ih mO hR sU mJ
 | @Qg r c st h hr hn ha hc oH hv hg=>
  intro mO hR fr hs;have:=mO.pi;obtain⟨rt,p9,E2⟩:=hT.pE c hc bx h hg
  exact ae5 hE hT.tE hr hn mM mO.si (by omega) mO.vz hs ha hc (hT.ok c hc) oH hv hg fun sU mJ=>Mi hE hT p9 E2 hR mJ
 | @Qh r c st h hr hn ha hc oH hv hg hf=>
  intro mO hR fr hs;have:=mO.pi;obtain⟨rt,p9,E2⟩:=hT.nf c hc h hf
  exact ae6 hE hT.tE hr hn mM mO.si (by omega) mO.vz hs ha hc (hT.ok c hc) oH hv hg hf fun sU mJ=>Mi hE hT p9 E2 hR mJ
 | @Qi r c st hr hn ha hc hk oH hv hg hf=>
  intro mO hR fr hs;have:=mO.pi;refine ae7 hE hT.tE hr hn mM mO.si (by omega) mO.vz hs ha hc (hT.ok c hc) oH hv hk hg hf fun sU mJ=>?_
  refine WZ hE hT (mT:=some (st.mT.getD c.n)) (fun b hb=>?_) (fun h=>by cases h) hR mJ;simp only[bk] at hb
  cases sW:st.mT with
  |none=>rw[sW] at hb;exact⟨c,hc,hb,hT.any c hc hk⟩
  |some b'=>rw[sW] at hb;exact mO.mT b (by rw[sW];exact congrArg some hb)
 | @Ma r st hr hn ha hk zY Ag=>
  intro mO hR fr hs;have:=mO.pi
  exact WY hE hT.tE hr hn mM mO.si (by omega) mO.vz hs ha hk zY (fun _ sU mJ=>WZ hE hT mO.mT (fun _=>rfl) hR mJ) (fun p h=>by rw[Ag] at h;cases h)
 | @Qj r st p x hr hn ha hk zY Ag h ih=>
  intro mO hR fr hs;have:=mO.pi;refine WY hE hT.tE hr hn mM mO.si (by omega) mO.vz hs ha hk zY (fun h=>by rw[Ag] at h;cases h) (fun p' uQ sU mJ=>?_);rw[Ag] at uQ;cases uQ
  exact ih ⟨by have:=mO.si;show st.si-_<=_;omega,mO.pi,mO.vz,mO.mT⟩ hR sU mJ
 | @Ql r st p x v hr hn ha hk zG hv zY Ag h ih=>
  intro mO hR fr hs;have:=mO.pi;refine ae9 hE hT.tE hr hn mM mO.si (by omega) mO.vz hs ha hk zG hv zY Ag (fun sU mJ=>?_);exact ih ⟨by have:=mO.si;show st.si-_<=_;omega,by show st.pi-1<=_;omega,by show(st.mH.set _ _).length =_;rw[cR];exact mO.vz,mO.mT⟩ hR sU mJ
end
end Go.Proofs.Ec
namespace Bw
open Go Go.Proofs Go.Proofs.Ec
theorem JN:∀{L:List Rt} {m:List UInt8} {p:List Tok} {h:Nat},uF L m p=some h->∃rt∈L,rt.h=h/\rt.tk=p/\rt.rb.m=m
 |[],_,_,_,h=>by cases h
 |r::L,m,p,h,e=>by
  simp only[uF] at e;split at e
  ·rename_i hc;simp only[bk] at e;exact⟨r,.head _,e,hc.1,hc.2⟩
  obtain⟨rt,h1,h2⟩:=JN e;exact⟨rt,.tail _ h1,h2⟩
theorem afi {kv:AL} {m:List UInt8} (h:∀p∈kv,p.1≠m):uJ kv m=none:=by
 induction kv with
 |nil=>rfl
 |cons p r ih=>
  obtain⟨k,v⟩:=p;simp only[uJ];rw[if_neg (h (k,v) (.head _))];exact ih fun p hp=>h p (.tail _ hp)
theorem afj {f:Nat->Option Nat} {kv:AL} {m:List UInt8} {h:Nat} (e:getM f kv m=some h):re f kv=true:=by
 unfold getM at e
 cases hm:nY m with
 |some i=>
  rw[hm] at e;have mS:=PZ hm;have oF:i=0\/i=1\/i=2\/i=3\/i=4\/i=5\/i=6\/i=7\/i=8\/i=9\/i=10:=by omega
  simp only at e
  rcases oF with rfl|rfl|rfl|rfl|rfl|rfl|rfl|rfl|rfl|rfl|rfl<;>simp[re,e]
 |none=>
  rw[hm] at e
  cases kv with
  |nil=>cases e
  |cons p r=>simp[re]
variable {T:List NR} {q:Nat->List Tok} {R:List En} {root:Nat} {L:List Rt} {z B:Nat}
theorem oA.afk (s:oA T q R root L z B) {r:NR} (hr:r∈T):getM r.f r.kv oo=none:=by
 have h:nY oo=none:=by decide
 simp only[getM,h];exact afi fun p hp=>(s.sh.kv r hr p hp).2
theorem oA.get (s:oA T q R root L z B) {r:NR} (hr:r∈T) (m:List UInt8):getM r.f r.kv m=if m=oo then none else uF L m (q r.n):=by
 by_cases h:m=oo
 ·subst h;rw[if_pos rfl];exact s.afk hr
 rw[if_neg h,<-s.look,<-s.sh.pE r hr m,pE,if_neg h]
theorem oA.nf (s:oA T q R root L z B) {r:NR} (hr:r∈T):r.nf=uF L oo (q r.n):=by
 rw[<-s.look,<-s.sh.pE r hr oo,pE,if_pos rfl]
theorem JO {i:Nat} (h:i<11):nY (rW i)=some i:=by
 have oF:i=0\/i=1\/i=2\/i=3\/i=4\/i=5\/i=6\/i=7\/i=8\/i=9\/i=10:=by omega
 rcases oF with rfl|rfl|rfl|rfl|rfl|rfl|rfl|rfl|rfl|rfl|rfl<;>rfl
theorem afl {f:Nat->Option Nat} {kv:AL} (qJ:∀p∈kv,nY p.1=none/\p.1≠oo) (h:re f kv=true):∃m v,getM f kv m=some v:=by
 have Ah:∀i,i<11->(f i).isSome =true->∃m v,getM f kv m=some v:=fun i hi h=>by
  obtain⟨v,hv⟩:=b7.1 h;exact⟨rW i,v,by simp only[getM,JO hi];exact hv⟩
 simp only[re,Bool.or_eq_true,or_assoc] at h;rcases h with h|h|h|h|h|h|h|h|h|h|h|h
 ·exact Ah 0 (by omega) h
 ·exact Ah 1 (by omega) h
 ·exact Ah 2 (by omega) h
 ·exact Ah 3 (by omega) h
 ·exact Ah 4 (by omega) h
 ·exact Ah 5 (by omega) h
 ·exact Ah 6 (by omega) h
 ·exact Ah 7 (by omega) h
 ·exact Ah 8 (by omega) h
 ·exact Ah 9 (by omega) h
 ·exact Ah 10 (by omega) h
 cases kv with
 |nil=>simp at h
 |cons p r=>
  obtain⟨k,v⟩:=p;refine⟨k,v,?_⟩;have:=(qJ (k,v) (.head _)).1;simp only[getM,this,uJ,if_true]
variable {T:List NR} {q:Nat->List Tok} {R:List En} {root:Nat} {L:List Rt} {z B:Nat}
def Cb (L:List Rt) (p:List Tok):Prop:=∃rt∈L,rt.tk=p/\rt.rb.m≠oo
theorem Qs:∀{L:List Rt} {rt:Rt},rt∈L->∃h,uF L rt.rb.m rt.tk=some h
 |[],_,h=>by cases h
 |r::L,rt,h=>by
  simp only[uF];by_cases e:r.tk=rt.tk/\r.rb.m=rt.rb.m
  ·rw[if_pos e];exact⟨_,rfl⟩
  rw[if_neg e];rcases af.1 h with rfl|h
  ·exact absurd ⟨rfl,rfl⟩ e
  exact Qs h
theorem oA.DE (s:oA T q R root L z B) {r:NR} (hr:r∈T):r.nn=true<->Cb L (q r.n):=by
 rw[s.sh.nn r hr];constructor
 ·intro h;obtain⟨m,v,hm⟩:=afl (s.sh.kv r hr) h;rw[s.get hr m] at hm;split at hm
  ·cases hm
  rename_i mW;obtain⟨rt,h1,_,h3,h4⟩:=JN hm;exact⟨rt,h1,h3,by rw[h4];exact mW⟩
 rintro⟨rt,h1,h2,h3⟩;obtain⟨h,hh⟩:=Qs h1;refine afj (m:=rt.rb.m) (h:=h) ?_;rw[s.get hr,if_neg h3,<-h2];exact hh
theorem oA.tok (s:oA T q R root L z B) (hB:B<=1000000) {E:SH} (hT:∀e∈mI T,e∈E) (hL:∀rt∈L,∀e∈rt.mI,e∈E):E1 L T E B:={
 cl:=s.sh.cl
 ok:=s.ok
 bd:=hB
 pl:=s.sh.WB s.Rl
 pE r hr m h e:=by
  rw[s.get hr] at e;split at e
  ·cases e
  obtain⟨rt,h1,h2,_⟩:=JN e;exact⟨rt,h1,h2⟩
 nf r hr h e:=by
  rw[s.nf hr] at e;obtain⟨rt,h1,h2,_⟩:=JN e;exact⟨rt,h1,h2⟩
 any r hr hk:=by
  obtain⟨_,p,hp⟩:=s.sh.any hr hk
  have hR:R≠[]:=fun e=>by
   have h1:=(s.sh.one e r hr).1;obtain⟨rt,g1,g2,_,g4,_⟩:=s.sh.rt;rw[uC s.sh.cl.nd hr g1 (h1.trans g2.symm)] at hk;omega
  obtain⟨e,he,h1⟩:=s.sh.vC hR r hr;obtain⟨rt,p9,h2⟩:=s.ES e he;obtain⟨u,hu⟩:=h1.trans h2
  have hAu:u=[]:=GK rt.rb.p none (s.rb rt p9).uE p u (by
   show rt.tk=_
   rw[<-hu,hp];simp)
  rw[hAu,aS] at hu;by_cases hm:rt.rb.m=oo
  ·refine .inr ?_;obtain⟨h,hh⟩:=Qs p9;rw[s.nf hr,hu,<-hm,hh];simp
  exact .inl ((s.DE hr).2 ⟨rt,p9,hu.symm,hm⟩)
 up r hr p hp:=by
  rcases s.sh.up hr with h|⟨x,h⟩
  ·obtain⟨rt,g1,g2,g3,_⟩:=s.sh.rt;rw[uC s.sh.cl.nd hr g1 (h.trans g2.symm),g3] at hp;cases hp
  obtain⟨_,_,_,_,_,_,_,h2⟩:=s.sh.ch h;rw[h2] at hp;exact⟨x,h.l,bp hp⟩
 tE:=hT
 lE:=hL}
def Has (L:List Rt) (p:List Tok):Prop:=∃rt∈L,p<+:rt.tk
def to (L:List Rt) (bx:List UInt8) (p:List Tok):Option Nat:=if bx=oo then none else uF L bx p
def W0 (L:List Rt) (p:List Tok):Prop:=¬∃t,Has L (p++[t])
inductive VR where
 |nO (h:Nat) (vs:List (List UInt8))
 |o7 (p:List Tok) (vs:List (List UInt8))
inductive VO where
 |stop (r:VR)
 |back (b:Option (List Tok))
open Classical in
noncomputable def own (L:List Rt) (bx:List UInt8) (p:List Tok) (s:List UInt8) (vs:List (List UInt8)):Option VR:=
 if s=[] then(if Cb L p then(to L bx p).map (VR.nO · vs) else(uF L oo p).map (VR.nO · vs)) else none
open Classical in
noncomputable def pK (L:List Rt) (p:List Tok) (s:List UInt8) (b:Option (List Tok)):Option (List Tok):=if s=[]/\Cb L p/\b=none then some p else b
open Classical in
noncomputable def cut (L:List Rt) (p:List Tok) (s:List UInt8):Nat:=if W0 L p then s.length else qm s
def VO.then (o:VO) (k:Option (List Tok)->VO):VO:=
 match o with
 |.stop r=>.stop r
 |.back b=>k b
open Classical in
noncomputable def wN (L:List Rt) (bx:List UInt8):Nat->List Tok->List UInt8->List (List UInt8)->Option (List Tok)->VO
 |0,_,_,_,b=>.back b
 |f+1,p,s,vs,b=>
  match own L bx p s vs with
  |some r=>.stop r
  |none=>
   (match s with
    |c::s'=>if Has L (p++[Tok.b c]) then wN L bx f (p++[Tok.b c]) s' vs (pK L p s b) else .back (pK L p s b)
    |[]=>.back (pK L p s b)).then fun b1=>
   (if s≠[]/\Has L (p++[Tok.P]) then wN L bx f (p++[Tok.P]) (s.drop (cut L (p++[Tok.P]) s)) (vs++[s.take (cut L (p++[Tok.P]) s)]) b1 else .back b1).then fun b2=>
   if Has L (p++[Tok.A]) then
    match to L bx (p++[Tok.A]) with
    |some h=>.stop (.nO h (vs++[s]))
    |none=>match uF L oo (p++[Tok.A]) with
     |some h=>.stop (.nO h (vs++[s]))
     |none=>.stop (.o7 (b2.getD (p++[Tok.A])) vs)
   else .back b2
theorem Has.mono {L:List Rt} {p p':List Tok} (h:Has L p') (hp:p<+:p'):Has L p:=by
 obtain⟨rt,h1,h2⟩:=h;exact⟨rt,h1,hp.trans h2⟩
variable {T:List NR} {q:Nat->List Tok} {R:List En} {root:Nat} {L:List Rt} {z B:Nat}
theorem oA.Qt (s:oA T q R root L z B) {p:List Tok} (h:Has L p):p.length<=1000:=by
 obtain⟨rt,h1,h2⟩:=h;exact br h2.length_le (Rt.Qd (s.rb rt h1))
theorem oA.node (s:oA T q R root L z B) {rt:Rt} (h:rt∈L):∃y∈T,q y.n=rt.tk:=by
 obtain⟨e,he,h1⟩:=s.out rt h;obtain⟨y,hy,h2⟩:=s.sh.uZ e he;exact⟨y,hy,h2.trans h1⟩
theorem oA.Rne (s:oA T q R root L z B) (h:L≠[]):R≠[]:=by
 cases hL:L with
 |nil=>exact absurd hL h
 |cons r l=>
  obtain⟨e,he,_⟩:=s.out r (by rw[hL];exact .head _);intro h0;rw[h0] at he;cases he
theorem oA.Lne (s:oA T q R root L z B) (h:R≠[]):L≠[]:=by
 cases hR:R with
 |nil=>exact absurd hR h
 |cons e l=>
  obtain⟨rt,hr,_⟩:=s.ES e (by rw[hR];exact .head _);intro h0;rw[h0] at hr;cases hr
theorem oA.JQ (s:oA T q R root L z B) (h:L≠[]) {r:NR} (hr:r∈T):Has L (q r.n):=by
 obtain⟨e,he,h1⟩:=s.sh.vC (s.Rne h) r hr;obtain⟨rt,p9,h2⟩:=s.ES e he;exact⟨rt,p9,h1.trans h2⟩
theorem oA.Mk (s:oA T q R root L z B) {x:NR} (hx:x∈T) {t:Tok} (h:Has L (q x.n++[t])):∃d,Ch T x d/\q x.n++[t]<+:q d.n:=by
 obtain⟨rt,h1,h2⟩:=h;obtain⟨y,hy,h3⟩:=s.node h1;obtain⟨d,h4,h5,_⟩:=s.sh.next hx hy (t:=t) (by rw[h3];exact h2);exact⟨d,h4,h5⟩
theorem oA.Ml (s:oA T q R root L z B) (hL:L≠[]) {x d:NR} (h:Ch T x d) {t:Tok} (hp:q x.n++[t]<+:q d.n):Has L (q x.n++[t]):=(s.JQ hL h.r).mono hp
theorem oA.W1 (s:oA T q R root L z B) (hL:L≠[]) {x:NR} (hx:x∈T):Has L (q x.n++[Tok.P])<->∃d∈T,x.mV=some d.n:=by
 constructor
 ·intro h;obtain⟨d,h1,h2⟩:=s.Mk hx h
  cases h1 with
  |st a b c=>
   exfalso;obtain⟨_,_,h3,h4,h5⟩:=s.sh.q8 x d a b c;rw[h5] at h2;have:=(bu _).1 h2
   cases hp:d.pre with
   |nil=>exact h3 hp
   |cons a l=>rw[hp] at this;simp[bs] at this
  |pa a b c=>exact⟨d,b,c⟩
  |an a b c=>
   exfalso;rw[(s.sh.mP x d a b c).2.2.2.1] at h2;have:=(bu _).1 h2;simp at this
 rintro⟨d,hd,h⟩;refine s.Ml hL (.pa hx hd h) ?_;rw[(s.sh.mV x d hx hd h).2.2.2];exact cU
theorem oA.W2 (s:oA T q R root L z B) (hL:L≠[]) {x:NR} (hx:x∈T):Has L (q x.n++[Tok.A])<->∃d∈T,x.mP=some d.n:=by
 constructor
 ·intro h;obtain⟨d,h1,h2⟩:=s.Mk hx h
  cases h1 with
  |st a b c=>
   exfalso;obtain⟨_,_,h3,h4,h5⟩:=s.sh.q8 x d a b c;rw[h5] at h2;have:=(bu _).1 h2
   cases hp:d.pre with
   |nil=>exact h3 hp
   |cons a l=>rw[hp] at this;simp[bs] at this
  |pa a b c=>
   exfalso;rw[(s.sh.mV x d a b c).2.2.2] at h2;have:=(bu _).1 h2
   simp at this
  |an a b c=>exact⟨d,b,c⟩
 rintro⟨d,hd,h⟩;refine s.Ml hL (.an hx hd h) ?_;rw[(s.sh.mP x d hx hd h).2.2.2.1];exact cU
theorem oA.afp (s:oA T q R root L z B) {x:NR} (hx:x∈T) {c:UInt8} (h:Has L (q x.n++[Tok.b c])):∃d∈T,d.n∈x.kids/\xd T x c=some d.n/\d.pre.head? =some c:=by
 obtain⟨d,h1,h2⟩:=s.Mk hx h
 cases h1 with
 |st a b k=>
  obtain⟨_,_,h3,h4,h5⟩:=s.sh.q8 x d a b k;rw[h5] at h2;have h6:=(bu _).1 h2
  cases hp:d.pre with
  |nil=>exact absurd hp h3
  |cons a0 l=>
   rw[hp] at h6;simp only[bs,aX,ct,Tok.b.injEq] at h6;have hc:a0=c:=h6.1.symm;subst hc;have AY:d.nP=a0:=by rw[s.sh.nP d b h3,hp];rfl
   refine⟨d,b,k,?_,by rw[hp];rfl⟩;unfold xd
   cases hf:x.kids.find? (fun a=>q7 T a==a0) with
   |none=>
    have:=List.find?_eq_none.1 hf d.n k;rw[EH s.sh.cl.nd b,AY] at this
    simp at this
   |some y=>
    have h7:=List.find?_some hf;have h8:=eD hf;obtain⟨d2,uD,rfl⟩:=s.sh.cl.kids x hx y h8;rw[EH s.sh.cl.nd uD] at h7
    rw[s.sh.dl x d2 d hx uD b h8 k (by rw[AY];simpa using h7)]
 |pa a b k=>
  exfalso;rw[(s.sh.mV x d a b k).2.2.2] at h2;have:=(bu _).1 h2
  simp at this
 |an a b k=>
  exfalso;rw[(s.sh.mP x d a b k).2.2.2.1] at h2;have:=(bu _).1 h2;simp at this
theorem oA.afq (s:oA T q R root L z B) (hL:L≠[]) {x:NR} (hx:x∈T) {c:UInt8} (h:¬Has L (q x.n++[Tok.b c])):xd T x c=none:=by
 unfold xd
 cases hf:x.kids.find? (fun a=>q7 T a==c) with
 |none=>rfl
 |some y=>
  exfalso;have h7:=List.find?_some hf;have h8:=eD hf;obtain⟨d2,uD,rfl⟩:=s.sh.cl.kids x hx y h8;rw[EH s.sh.cl.nd uD] at h7;obtain⟨_,_,h3,h4,h5⟩:=s.sh.q8 x d2 hx uD h8;refine h (s.Ml hL (.st hx uD h8) ?_);rw[h5];have AY:=s.sh.nP d2 uD h3
  cases hp:d2.pre with
  |nil=>exact absurd hp h3
  |cons a0 l=>
   rw[hp] at AY
   have:a0=c:=by
    have h9:d2.nP=c:=by simpa using h7
    rw[<-h9,AY];rfl
   subst this;exact⟨bs l,by simp[bs]⟩
theorem oA.W3 (s:oA T q R root L z B) (hL:L≠[]) {d:NR} (hd:d∈T) (hk:d.kd=1):d.leaf=true<->W0 L (q d.n):=by
 rw[s.sh.leaf d hd hk];constructor
 ·intro h ⟨t,ht⟩;simp only[cG,List.isEmpty_iff,Option.isNone_iff_eq_none] at h;obtain⟨e,h1,_⟩:=s.Mk hd ht
  cases h1 with
  |st _ _ c=>rw[h.1.1] at c;cases c
  |pa _ _ c=>rw[h.1.2] at c;cases c
  |an _ _ c=>rw[h.2] at c;cases c
 intro h
 have none:∀e,Ch T d e->False:=fun e he=>by
  obtain⟨t,l,h1,_⟩:=s.sh.ch he;exact h ⟨t,s.Ml hL he (by rw[h1];exact⟨l,by simp⟩)⟩
 have h1:d.kids=[]:=by
  cases s7:d.kids with
  |nil=>rfl
  |cons a l=>
   obtain⟨e,he,h2⟩:=s.sh.cl.kids d hd a (by rw[s7];exact .head _);exact(none e (.st hd he (by rw[s7,h2];exact .head _))).elim
 have h2:d.mV=Option.none:=by
  cases hp:d.mV with
  |none=>rfl
  |some a=>obtain⟨e,he,h2⟩:=s.sh.cl.mV d hd a hp;exact(none e (.pa hd he (by rw[hp,h2]))).elim
 have h3:d.mP=Option.none:=by
  cases hp:d.mP with
  |none=>rfl
  |some a=>obtain⟨e,he,h2⟩:=s.sh.cl.mP d hd a hp;exact(none e (.an hd he (by rw[hp,h2]))).elim
 rw[h1,h2,h3];rfl
open Classical in
theorem Qu (L:List Rt) (bx:List UInt8) (f:Nat) (p:List Tok) (s:List UInt8) (vs:List (List UInt8)) (b:Option (List Tok)):wN L bx (f+1) p s vs b=
  match own L bx p s vs with
  |some r=>.stop r
  |none=>
   (match s with
    |c::s'=>if Has L (p++[Tok.b c]) then wN L bx f (p++[Tok.b c]) s' vs (pK L p s b) else .back (pK L p s b)
    |[]=>.back (pK L p s b)).then fun b1=>
   (if s≠[]/\Has L (p++[Tok.P]) then wN L bx f (p++[Tok.P]) (s.drop (cut L (p++[Tok.P]) s)) (vs++[s.take (cut L (p++[Tok.P]) s)]) b1 else .back b1).then fun b2=>
   if Has L (p++[Tok.A]) then
    match to L bx (p++[Tok.A]) with
    |some h=>.stop (.nO h (vs++[s]))
    |none=>match uF L oo (p++[Tok.A]) with
     |some h=>.stop (.nO h (vs++[s]))
     |none=>.stop (.o7 (b2.getD (p++[Tok.A])) vs)
   else .back b2:=rfl
theorem Qv {L:List Rt} {bx:List UInt8} {vs:List (List UInt8)} {b:Option (List Tok)}:∀(l:List UInt8) (f:Nat) (p:List Tok) (s:List UInt8),(∀rt∈L,p<+:rt.tk->p++bs l<+:rt.tk)->Has L (p++bs l)->l.length<=f->
  wN L bx f p s vs b=if l<+:s then wN L bx (f-l.length) (p++bs l) (s.drop l.length) vs b else .back b
 |[],f,p,s,_,_,_=>by simp[bs]
 |a::l,0,p,s,_,_,hf=>by simp at hf
 |a::l,f+1,p,s,pN,hh,hf=>by
  have next:∀t,Has L (p++[t])->t=Tok.b a:=by
   rintro t ⟨rt,h1,h2⟩;have h3:=pN rt h1 ((fQ _ _).trans h2);obtain⟨u1,e1⟩:=h2;obtain⟨u2,e2⟩:=h3;rw[<-e2] at e1;simp only[aw,bs,aX] at e1;have:=aR e1;simp only[aW,aM] at this;exact this.1
  have at':∀rt∈L,rt.tk≠p:=fun rt h1 h2=>by
   have h3:=pN rt h1 (by rw[h2];exact cU);have h4:=h3.length_le;rw[h2] at h4;simp[bs] at h4;omega
  have hH:¬Cb L p:=fun⟨rt,h1,h2,_⟩=>at' rt h1 h2
  have hN:uF L oo p=none:=by
   cases h:uF L oo p with
   |none=>rfl
   |some v=>obtain⟨rt,h1,_,h2,_⟩:=JN h;exact absurd h2 (at' rt h1)
  have nx:own L bx p s vs=none:=by
   unfold own;by_cases hs:s=[]
   ·rw[if_pos hs,if_neg hH,hN];rfl
   rw[if_neg hs]
  have tq:pK L p s b=b:=by unfold pK;rw[if_neg (fun h=>hH h.2.1)]
  have hP:¬Has L (p++[Tok.P]):=fun h=>by cases next _ h
  have hA:¬Has L (p++[Tok.A]):=fun h=>by cases next _ h
  simp only[wN,nx,tq,hP,hA,and_false,if_false]
  cases s with
  |nil=>simp[VO.then]
  |cons c s'=>
   simp only;by_cases hc:Has L (p++[Tok.b c])
   ·rw[if_pos hc];have qS:=next _ hc;simp only[Tok.b.injEq] at qS;subst qS
    have ih:=Qv (bx:=bx) (vs:=vs) (b:=b) l f (p++[Tok.b c]) s' (fun rt h1 h2=>by
     have:=pN rt h1 ((fQ _ _).trans h2)
     simpa[bs] using this) (by simpa[bs] using hh) (by simpa using hf)
    rw[ih];simp only[ct,true_and,aI,List.drop_succ_cons,Nat.add_sub_add_right];split
    ·rw[show p++bs (c::l)=p++[Tok.b c]++bs l by simp[bs]];cases wN L bx (f-l.length) (p++[Tok.b c]++bs l) (s'.drop l.length) vs b<;>rfl
    rfl
   rw[if_neg hc]
   have:¬(a::l<+:c::s'):=fun h=>by
    rw[ct] at h;rw[<-h.1] at hc;refine hc (hh.mono ⟨bs l,by simp[bs]⟩)
   rw[if_neg this];rfl
variable {T:List NR} {q:Nat->List Tok} {R:List En} {root:Nat} {L:List Rt} {z B:Nat}
def BR (T:List NR) (q:Nat->List Tok) (L:List Rt) (mT:Option Nat) (b:Option (List Tok)):Prop:=(mT=none/\b=none)\/∃x∈T,mT=some x.n/\b=some (q x.n)/\Cb L (q x.n)
def pad (z:Nat) (vs:List (List UInt8)):List (List UInt8):=vs++List.replicate (z-vs.length) []
theorem W4 {z:Nat} {vs:List (List UInt8)} (h:vs.length<=z):(pad z vs).length =z:=by simp[pad];omega
theorem GY {z:Nat} {vs:List (List UInt8)} (h:vs.length<z) (v:List UInt8):(pad z vs).set vs.length v=pad z (vs++[v]):=by
 obtain⟨n,rfl⟩:∃n,z=vs.length+(n+1):=⟨z-vs.length-1,by omega⟩;simp only[pad,ax,cX];rw[show vs.length+(n+1)-vs.length=n+1 by omega,show vs.length+(n+1)-(vs.length+1)=n by omega,List.replicate_succ];simp
theorem afr {z:Nat} {vs:List (List UInt8)} (h:vs.length<z) (v:List UInt8):(pad z (vs++[v])).set vs.length []=pad z vs:=by
 rw[<-GY h,List.set_set,GY h];obtain⟨n,rfl⟩:∃n,z=vs.length+(n+1):=⟨z-vs.length-1,by omega⟩;simp only[pad,ax,cX];rw[show vs.length+(n+1)-vs.length=n+1 by omega,show vs.length+(n+1)-(vs.length+1)=n by omega,List.replicate_succ];simp
theorem afs {z:Nat} {vs:List (List UInt8)} (v:List UInt8):(pad z (vs++[v]))[vs.length]? =some v:=by simp[pad]
theorem afu {z:Nat} {vs:List (List UInt8)} (h:vs.length<z):(pad z vs).set vs.length []=pad z vs:=by
 rw[GY h];obtain⟨n,rfl⟩:∃n,z=vs.length+(n+1):=⟨z-vs.length-1,by omega⟩;simp only[pad,ax,cX];rw[show vs.length+(n+1)-vs.length=n+1 by omega,show vs.length+(n+1)-(vs.length+1)=n by omega,List.replicate_succ];simp
inductive RR (T:List NR) (q:Nat->List Tok) (L:List Rt) (z:Nat):n6->VR->Prop
 |nO {h vs}:RR T q L z (.nO h (pad z vs)) (.nO h vs)
 |o7 {x:NR} {vs} (hx:x∈T):RR T q L z (.o7 x.n (pad z vs)) (.o7 (q x.n) vs)
theorem oA.W5 (s:oA T q R root L z B) {p:List Tok} (h:Has L p):ny p<=z:=by
 obtain⟨rt,h1,u,h2⟩:=h;have h3:=s.zl rt h1;have h4:=B0 rt.rb.p none;have h5:ny (nh rt.rb.p none).1=ny rt.tk:=rfl;rw[h5,<-h2,BW] at h4;have h6:rt.pS.length=(nh rt.rb.p none).2.length :=rfl;simp at h4;omega
variable {T:List NR} {q:Nat->List Tok} {R:List En} {root:Nat} {L:List Rt} {z B:Nat}
def xh (T:List NR) (q:Nat->List Tok) (L:List Rt) (z:Nat) (Q:n6->Prop) (k:Option Nat->n6->Prop):VO->Prop
 |.stop vr=>∃na,Q na/\RR T q L z na vr
 |.back b=>∃mT,BR T q L mT b/\∀na,k mT na->Q na
theorem xh.mono {Q Q':n6->Prop} {k:Option Nat->n6->Prop} {o:VO} (h:xh T q L z Q k o) (hq:∀na,Q na->Q' na):xh T q L z Q' k o:=by
 cases o with
 |stop vr=>obtain⟨na,h1,h2⟩:=h;exact⟨na,hq _ h1,h2⟩
 |back b=>obtain⟨mT,h1,h2⟩:=h;exact⟨mT,h1,fun na hr=>hq _ (h2 na hr)⟩
theorem xh.W6 {Q:n6->Prop} {k k':Option Nat->n6->Prop} {o:VO} (h:xh T q L z Q k o) (hk:∀mT na,k' mT na->k mT na):xh T q L z Q k' o:=by
 cases o with
 |stop vr=>exact h
 |back b=>obtain⟨mT,h1,h2⟩:=h;exact⟨mT,h1,fun na hr=>h2 na (hk _ _ hr)⟩
theorem xh.then {Q:n6->Prop} {k1 k2:Option Nat->n6->Prop} {o:VO} {f:Option (List Tok)->VO} (h:xh T q L z Q k1 o) (hf:∀mT b,BR T q L mT b->xh T q L z (k1 mT) k2 (f b)):xh T q L z Q k2 (o.then f):=by
 cases o with
 |stop vr=>exact h
 |back b=>obtain⟨mT,h1,h2⟩:=h;exact(hf mT b h1).mono h2
theorem oA.afv (s:oA T q R root L z B) {x d:NR} {t:Tok} (h:Ch T x d) (hd:q x.n++[t]<+:q d.n) {rt:Rt} (p9:rt∈L) (hp:q x.n++[t]<+:rt.tk):q d.n<+:rt.tk:=by
 obtain⟨y,hy,h3⟩:=s.node p9;obtain⟨d',h4,h5,h6⟩:=s.sh.next h.l hy (t:=t) (by rw[h3];exact hp);have:=s.sh.LZ h h4 hd h5;rw[this,<-h3];exact h6
theorem GX (s:List UInt8):qm s<=s.length:=by
 unfold qm;exact(dJ _).length_le
theorem afw (L:List Rt) (p:List Tok) (s:List UInt8):cut L p s<=s.length:=by
 unfold cut;split
 ·exact bI _
 exact GX s
theorem W7 (l:List UInt8):ny (bs l)=0:=by
 induction l with
 |nil=>rfl
 |cons a l ih=>exact ih
section
variable {bx path:List UInt8}
theorem oA.afx (s:oA T q R root L z B) (hL:L≠[]) {r:NR} (hr:r∈T) {si:Nat} {vs:List (List UInt8)} (yz:vs.length=ny (q r.n)) (mT:Option Nat) (b:Option (List Tok)) (hb:BR T q L mT b):
  xh T q L z (qC T bx path 2 ⟨r.n,si,vs.length,pad z vs,mT⟩) (fun Cc na=>r.mP=none->qC T bx path 2 ⟨r.n,si,vs.length,pad z vs,Cc⟩ na)
   (open Classical in if Has L (q r.n++[Tok.A]) then
    match to L bx (q r.n++[Tok.A]) with
    |some h=>.stop (.nO h (vs++[path.drop si]))
    |none=>match uF L oo (q r.n++[Tok.A]) with
     |some h=>.stop (.nO h (vs++[path.drop si]))
     |none=>.stop (.o7 (b.getD (q r.n++[Tok.A])) vs)
   else .back b):=by
 by_cases hA:Has L (q r.n++[Tok.A])
 ·rw[if_pos hA];obtain⟨d,hd,Mm⟩:=(s.W2 hL hr).1 hA;obtain⟨hk,qA,nG,hq,_,_,_,oH⟩:=s.sh.mP r d hr hd Mm;have oV:ny (q d.n)=vs.length+1:=by rw[hq,BW,yz];rfl
  have hz:vs.length<z:=by
   have:=s.W5 hA;rw[<-hq,oV] at this;omega
  have hv:vs.length<(pad z vs).length :=by rw[W4 (gu hz)];exact hz
  have Gc:=s.get hd bx;have pZ:=s.nf hd;rw[hq] at Gc pZ
  cases h1:to L bx (q r.n++[Tok.A]) with
  |some h=>
   simp only;refine⟨_,.Qg (st:=⟨r.n,si,vs.length,pad z vs,mT⟩) hr rfl Mm hd (by rw[oH,oV]) hv (h:=h) (by rw[Gc];exact h1),?_⟩
   rw[GY hz];exact .nO
  |none=>
   simp only
   cases h2:uF L oo (q r.n++[Tok.A]) with
   |some h=>
    simp only;refine⟨_,.Qh (st:=⟨r.n,si,vs.length,pad z vs,mT⟩) hr rfl Mm hd (by rw[oH,oV]) hv (h:=h) (by rw[Gc];exact h1) (by rw[pZ];exact h2),?_⟩
    rw[GY hz];exact .nO
   |none=>
    simp only;refine⟨_,.Qi (st:=⟨r.n,si,vs.length,pad z vs,mT⟩) hr rfl Mm hd hk (by rw[oH,oV]) hv (by rw[Gc];exact h1) (by rw[pZ];exact h2),?_⟩;rw[afu hz];rcases hb with⟨rfl,rfl⟩|⟨x,hx,rfl,rfl,_⟩
    ·have:=RR.o7 (q:=q) (L:=L) (z:=z) (vs:=vs) hd;rw[hq] at this;exact this
    exact .o7 hx
 rw[if_neg hA]
 have hn:r.mP=none:=by
  cases h:r.mP with
  |none=>rfl
  |some a=>
   obtain⟨d,hd,h2⟩:=s.sh.cl.mP r hr a h;exact absurd ((s.W2 hL hr).2 ⟨d,hd,by rw[h,h2]⟩) hA
 exact⟨mT,hb,fun na h=>h hn⟩
def Mn (T:List NR) (q:Nat->List Tok) (L:List Rt) (z:Nat) (bx path:List UInt8) (f:Nat) (r:NR):Prop:=
 ∀si vs mT b,si<=path.length->(r.kd=0->r.pre<+:path.drop si)->vs.length=ny (q r.n)->BR T q L mT b->
  xh T q L z (qC T bx path 0 ⟨r.n,si,vs.length,pad z vs,mT⟩) (fun Cc na=>r.mP=none->qC T bx path 2 ⟨r.n,nE r si,vs.length,pad z vs,Cc⟩ na) (wN L bx f (q r.n) (path.drop (nE r si)) vs b)
theorem oA.afy (s:oA T q R root L z B) (hL:L≠[]) {f:Nat} {r:NR} (hr:r∈T) (ih:∀d∈T,d.kd=0\/d.kd=1->(q r.n).length <(q d.n).length ->∀g,g<=f->1002<=g+(q d.n).length ->Mn T q L z bx path g d) (hf:1002<=f+1+(q r.n).length)
  {si:Nat} {vs:List (List UInt8)} (q9:si<=path.length) (yz:vs.length=ny (q r.n)) (mT:Option Nat) (b:Option (List Tok)) (hb:BR T q L mT b):
  xh T q L z (qC T bx path 1 ⟨r.n,si,vs.length,pad z vs,mT⟩) (fun Cc na=>qC T bx path 2 ⟨r.n,si,vs.length,pad z vs,Cc⟩ na)
   (open Classical in if path.drop si≠[]/\Has L (q r.n++[Tok.P]) then wN L bx f (q r.n++[Tok.P]) ((path.drop si).drop (cut L (q r.n++[Tok.P]) (path.drop si))) (vs++[(path.drop si).take (cut L (q r.n++[Tok.P]) (path.drop si))]) b else .back b):=by
 by_cases hP:path.drop si≠[]/\Has L (q r.n++[Tok.P])
 ·rw[if_pos hP];obtain⟨d,hd,Bv⟩:=(s.W1 hL hr).1 hP.2;obtain⟨hk,qA,nG,hq⟩:=s.sh.mV r d hr hd Bv;have oV:ny (q d.n)=vs.length+1:=by rw[hq,BW,yz];rfl
  have hz:vs.length<z:=by
   have:=s.W5 hP.2;rw[<-hq,oV] at this;omega
  have hv:vs.length<(pad z vs).length :=by rw[W4 (gu hz)];exact hz
  have yP:cut L (q r.n++[Tok.P]) (path.drop si)=(if d.leaf then(path.drop si).length else qm (path.drop si)):=by
   unfold cut;rw[<-hq];by_cases hl:d.leaf=true
   ·rw[if_pos ((s.W3 hL hd hk).1 hl),if_pos hl]
   rw[if_neg (fun h=>hl ((s.W3 hL hd hk).2 h)),if_neg hl]
  have hle:=afw L (q r.n++[Tok.P]) (path.drop si);generalize Bt:cut L (q r.n++[Tok.P]) (path.drop si)=c at*;have Qw:si+c<=path.length:=by rw[aA] at hle;omega
  have Cd:nE d (si+c)=si+c:=by unfold nE;rw[if_neg (by omega)]
  have h:=ih d hd (.inr hk) (by rw[hq];simp) f (bI _) (by rw[hq];simp;omega) (si+c) (vs++[(path.drop si).take c]) mT b Qw (fun h=>by omega) (by rw[oV];simp) hb;rw[Cd,hq,show path.drop (si+c)=(path.drop si).drop c by rw[bZ]] at h;refine(h.mono fun na ol=>?_).W6 fun Cc na ol E3=>?_
  ·refine .ng (st:=⟨r.n,si,vs.length,pad z vs,mT⟩) hr rfl Bv hd hP.1 hv ?_;simp only;rw[<-yP,GY hz];simpa using ol
  refine .Ql (v:=(path.drop si).take c) (p:=r.n) hd rfl E3 hk (by simp) ?_ ?_ qA ?_
  ·simp only[ax,cX,dh];exact afs _
  ·simp only[eH];omega
  simp only[ax,cX,dh];rw[afr hz,eH,dG hle,dh];exact ol
 rw[if_neg hP];refine⟨mT,hb,fun na ol=>.L9 (st:=⟨r.n,si,vs.length,pad z vs,mT⟩) hr rfl ?_ ol⟩;by_cases hs:path.drop si=[]
 ·exact .inr hs
 left
 cases h:r.mV with
 |none=>rfl
 |some a=>
  obtain⟨d,hd,h2⟩:=s.sh.cl.mV r hr a h;exact absurd ⟨hs,(s.W1 hL hr).2 ⟨d,hd,by rw[h,h2]⟩⟩ hP
theorem oA.runText (s:oA T q R root L z B) (hL:L≠[]) {f:Nat} {r:NR} (hr:r∈T) (ih:∀d∈T,d.kd=0\/d.kd=1->(q r.n).length <(q d.n).length ->∀g,g<=f->1002<=g+(q d.n).length ->Mn T q L z bx path g d) (hf:1002<=f+1+(q r.n).length)
  {si:Nat} {vs:List (List UInt8)} (q9:si<=path.length) (hk:r.kd=0->r.pre<+:path.drop si) (yz:vs.length=ny (q r.n)) (mT:Option Nat) (b:Option (List Tok)) (hb:BR T q L mT b)
  (nx:Bw.own L bx (q r.n) (path.drop (nE r si)) vs=none):
  xh T q L z (qC T bx path 0 ⟨r.n,si,vs.length,pad z vs,mT⟩) (fun Cc na=>qC T bx path 1 ⟨r.n,nE r si,vs.length,pad z vs,Cc⟩ na)
   (open Classical in match path.drop (nE r si) with
    |c::s'=>if Has L (q r.n++[Tok.b c]) then wN L bx f (q r.n++[Tok.b c]) s' vs (pK L (q r.n) (path.drop (nE r si)) b) else .back (pK L (q r.n) (path.drop (nE r si)) b)
    |[]=>.back (pK L (q r.n) (path.drop (nE r si)) b)):=by
 have sd:BR T q L (sB r path (nE r si) mT) (pK L (q r.n) (path.drop (nE r si)) b):=by
  unfold sB pK;rcases hb with⟨rfl,rfl⟩|⟨x,hx,rfl,rfl,hH⟩
  ·by_cases h:path.drop (nE r si)=[]/\r.nn=true
   ·have hH:=(s.DE hr).1 h.2;rw[if_pos ⟨h.1,h.2,rfl⟩,if_pos ⟨h.1,hH,rfl⟩];exact .inr ⟨r,hr,rfl,rfl,hH⟩
   rw[if_neg (fun h'=>h ⟨h'.1,h'.2.1⟩),if_neg (fun h'=>h ⟨h'.1,(s.DE hr).2 h'.2.1⟩)];exact .inl ⟨rfl,rfl⟩
  rw[if_neg (fun h=>by cases h.2.2),if_neg (fun h=>by cases h.2.2)];exact .inr ⟨x,hx,rfl,rfl,hH⟩
 have Cd:nE r si<=path.length:=DD hk q9
 have he:path.drop (nE r si)=[]->(r.nn=true->getM r.f r.kv bx=none)/\(r.nn=false->r.nf=none):=fun h=>by
  unfold Bw.own at nx;rw[if_pos h] at nx;constructor
  ·intro hh;rw[if_pos ((s.DE hr).1 hh)] at nx;rw[s.get hr];exact eW.1 nx
  intro hh;rw[if_neg (fun h=>by rw[(s.DE hr).2 h] at hh;cases hh)] at nx;rw[s.nf hr];exact eW.1 nx
 cases hs:path.drop (nE r si) with
 |nil=>
  simp only;rw[hs] at sd
  exact⟨_,sd,fun na ol=>.stay (st:=⟨r.n,si,vs.length,pad z vs,mT⟩) hr rfl hk he (fun h=>absurd hs h) ol⟩
 |cons c s'=>
  simp only;by_cases hH:Has L (q r.n++[Tok.b c])
  ·rw[if_pos hH];have tq:pK L (q r.n) (c::s') b=b:=by unfold pK;rw[if_neg (fun h=>by cases h.1)]
   rw[tq];obtain⟨d,hd,W8,qL,Qx⟩:=s.afp hr hH;obtain⟨od,qA,nG,afz,hq⟩:=s.sh.q8 r d hr hd W8
   obtain⟨l,hl⟩:∃l,d.pre=c::l:=by
    cases hp:d.pre with
    |nil=>exact absurd hp nG
    |cons a l=>rw[hp] at Qx;simp only[cw,bk] at Qx;exact⟨l,by rw[Qx]⟩
   have Ce:q r.n++[Tok.b c]++bs l=q d.n:=by rw[hq,hl];simp[bs]
   have hlen:(q d.n).length =(q r.n).length +1+l.length:=by rw[<-Ce];simp[bs];omega
   have ajP:=s.Qt (s.JQ hL hd);have rI:Ch T r d:=.st hr hd W8;have wA:q r.n++[Tok.b c]<+:q d.n:=⟨bs l,Ce⟩;rw[Qv l f _ s' (fun rt h1 h2=>by rw[Ce];exact s.afv rI wA h1 h2) (by rw[Ce];exact s.JQ hL hd) (by omega)];have mW:path.drop (nE r si)≠[]:=by rw[hs];simp
   have Gy:∀{x},qC T bx path 0 ⟨d.n,nE r si,vs.length,pad z vs,mT⟩ x->qC T bx path 0 ⟨r.n,si,vs.length,pad z vs,mT⟩ x:=fun h=>
    .down (st:=⟨r.n,si,vs.length,pad z vs,mT⟩) hr rfl hk mW (by rw[hs];exact qL) h
   by_cases hm:l<+:s'
   ·rw[if_pos hm,Ce];have Gd:d.pre<+:path.drop (nE r si):=by rw[hl,hs,ct];exact⟨rfl,hm⟩
    have afA:nE d (nE r si)=nE r si+d.pre.length:=by unfold nE;rw[if_pos od]
    have h:=ih d hd (.inl od) (by omega) (f-l.length) (by omega) (by omega) (nE r si) vs mT b Cd (fun _=>Gd) (by rw[yz,hq,BW,W7];omega) hb;rw[afA,show path.drop (nE r si+d.pre.length)=s'.drop l.length by rw[<-bZ,hs,hl];rfl] at h;refine(h.mono fun na ol=>Gy ol).W6 fun Cc na ol E3=>?_
    refine .Qj (p:=r.n) hd rfl E3 od (by simp) qA ?_;simp only[dh];exact ol
   rw[if_neg hm];refine⟨mT,hb,fun na ol=>Gy ?_⟩;refine .Qf (p:=r.n) hd rfl od ?_ qA ol;show¬d.pre<+:path.drop (nE r si);rw[hl,hs,ct];exact fun h=>hm h.2
  rw[if_neg hH];rw[hs] at sd;refine⟨_,sd,fun na ol=>.stay (st:=⟨r.n,si,vs.length,pad z vs,mT⟩) hr rfl hk he (fun _=>?_) ol⟩;show xd T r ((path.drop (nE r si)).headD 0)=none;rw[hs];exact s.afq hL hr hH
theorem oA.afB (s:oA T q R root L z B) (hL:L≠[]):∀f r,r∈T->r.kd=0\/r.kd=1->1002<=f+(q r.n).length ->Mn T q L z bx path f r:=by
 intro f
 induction f using Nat.strongRecOn with
 |_ f IH=>
 intro r hr L0 hf si vs mT b q9 hk yz hb;have afC:=s.Qt (s.JQ hL hr);obtain⟨f,rfl⟩:∃g,f=g+1:=⟨f-1,by omega⟩;have ih:∀d∈T,d.kd=0\/d.kd=1->(q r.n).length <(q d.n).length ->∀g,g<=f->1002<=g+(q d.n).length ->Mn T q L z bx path g d:=fun d hd p6 _ g hg h=>IH g (by omega) d hd p6 h
 have Cd:nE r si<=path.length:=DD hk q9;rw[Qu]
 cases nx:Bw.own L bx (q r.n) (path.drop (nE r si)) vs with
 |some vr=>
  simp only;unfold Bw.own at nx;split at nx
  ·rename_i he;split at nx
   ·rename_i hH;obtain⟨h,h1,rfl⟩:=aN.1 nx;exact⟨_,.nO (st:=⟨r.n,si,vs.length,pad z vs,mT⟩) hr rfl hk he ((s.DE hr).2 hH) (by rw[s.get hr];exact h1),.nO⟩
   rename_i hH;obtain⟨h,h1,rfl⟩:=aN.1 nx;refine⟨_,.nf (st:=⟨r.n,si,vs.length,pad z vs,mT⟩) hr rfl hk he ?_ (by rw[s.nf hr];exact h1),.nO⟩
   cases hh:r.nn with
   |false=>rfl
   |true=>exact absurd ((s.DE hr).1 hh) hH
  cases nx
 |none=>
  simp only;refine(s.runText hL hr ih hf q9 hk yz mT b hb nx).then fun sB b1 sd=>?_
  refine(s.afy hL hr ih hf Cd yz sB b1 sd).then fun afD b2 sf=>?_
  exact s.afx hL hr yz afD b2 sf
end
variable {T:List NR} {q:Nat->List Tok} {R:List En} {root:Nat} {L:List Rt} {z B:Nat}
inductive VF (T:List NR) (q:Nat->List Tok) (L:List Rt) (z:Nat):n6->VO->Prop
 |nO {h vs}:VF T q L z (.nO h (pad z vs)) (.stop (.nO h vs))
 |o7 {x:NR} {vs} (hx:x∈T):VF T q L z (.o7 x.n (pad z vs)) (.stop (.o7 (q x.n) vs))
 |back {x:NR} (hx:x∈T) (hH:Cb L (q x.n)):VF T q L z (.o7 x.n (pad z [])) (.back (some (q x.n)))
 |none:VF T q L z (.wg (pad z [])) (.back none)
theorem VF.of {na:n6} {vr:VR} (h:RR T q L z na vr):VF T q L z na (.stop vr):=by
 cases h with
 |nO=>exact .nO
 |o7 hx=>exact .o7 hx
theorem VF.afE {Q:n6->Prop} {k:Option Nat->n6->Prop} {o:VO} (h:xh T q L z Q k o) (hk:∀mT,k mT (L8 mT (pad z []))):∃na,Q na/\VF T q L z na o:=by
 cases o with
 |stop vr=>obtain⟨na,h1,h2⟩:=h;exact⟨na,h1,.of h2⟩
 |back b=>
  obtain⟨mT,h1,h2⟩:=h;refine⟨_,h2 _ (hk mT),?_⟩;rcases h1 with⟨rfl,rfl⟩|⟨x,hx,rfl,rfl,hH⟩
  ·exact .none
  exact .back hx hH
theorem oA.afF (s:oA T q R root L z B) (bx path:List UInt8):∃na,qC T bx path 0 ⟨root,0,0,List.replicate z [],none⟩ na/\VF T q L z na (wN L bx 1002 [] path [] none):=by
 obtain⟨r,hr,vB,qA,hk,afz,hq,nG⟩:=s.sh.rt;have W9:List.replicate z []=pad z ([]:List (List UInt8)):=by simp[pad]
 by_cases hL:L=[]
 ·have hR:R=[]:=by
   cases h:R with
   |nil=>rfl
   |cons e l=>exact absurd hL (s.Lne (by rw[h];simp))
  obtain⟨_,oT,afG,afH,E3⟩:=s.sh.one hR r hr;have hH:∀p,¬Cb L p:=fun p ⟨rt,h,_⟩=>by rw[hL] at h;cases h
  have afI:∀p,¬Has L p:=fun p ⟨rt,h,_⟩=>by rw[hL] at h;cases h
  have EL:¬r.nn=true:=fun h=>hH _ ((s.DE hr).1 h)
  have Qy:wN L bx 1002 [] path [] none=.back none:=by
   have nx:Bw.own L bx [] path []=none:=by
    unfold Bw.own;by_cases hs:path=[]
    ·rw[if_pos hs,if_neg (hH _),hL];rfl
    rw[if_neg hs]
   have tq:pK L [] path none=none:=by unfold pK;rw[if_neg (fun h=>hH _ h.2.1)]
   rw[show(1002:Nat)=1001+1 from rfl,Qu,nx,tq];simp only[afI,if_false,and_false];cases path<;>rfl
  rw[Qy];refine⟨_,?_,.none⟩;have Cd:nE r 0=0:=by unfold nE;rw[oT];simp
  have sd:sB r path 0 none=none:=by unfold sB;rw[if_neg (fun h=>EL h.2.1)]
  refine .stay (st:=⟨root,0,0,List.replicate z [],none⟩) hr vB (fun _=>by rw[oT];exact List.nil_prefix) (fun _=>⟨fun h=>absurd h EL,fun _=>?_⟩) (fun _=>?_) ?_
  ·rw[s.nf hr,hL];rfl
  ·unfold xd;rw[afG];rfl
  rw[Cd,sd,W9];refine .L9 (st:=⟨root,0,0,pad z [],none⟩) hr vB (.inl afH) ?_;exact .Ma (st:=⟨root,0,0,pad z [],none⟩) hr vB E3 hk (by rw[oT];exact bI _) qA
 have pN:∀rt∈L,bs r.pre<+:rt.tk:=fun rt p9=>by
  obtain⟨y,hy,h⟩:=s.node p9;rw[<-h,<-hq,<-vB,vB];exact s.sh.Ds (s.sh.reach y hy)
 have zf:q r.n=bs r.pre:=by rw[vB,hq]
 have Xa:=s.JQ hL hr;have afC:=s.Qt Xa;have hlen:(q r.n).length =r.pre.length:=by rw[zf];simp[bs]
 have afJ:=Qv (L:=L) (bx:=bx) (vs:=[]) (b:=none) r.pre 1002 [] path (fun rt h _=>by rw[cv];exact pN rt h) (by rw[cv,<-zf];exact Xa) (by omega);rw[afJ,cv,<-zf,W9,<-vB];by_cases hm:r.pre<+:path
 ·rw[if_pos hm];have Cd:nE r 0=r.pre.length:=by unfold nE;rw[if_pos hk];omega
  have h:=s.afB (bx:=bx) (path:=path) hL (1002-r.pre.length) r hr (.inl hk) (by omega) 0 [] none none (bM _) (fun _=>by simpa using hm) (by rw[zf,W7];rfl) (.inl ⟨rfl,rfl⟩);rw[Cd] at h;refine VF.afE h fun mT E3=>?_
  exact .Ma (st:=⟨r.n,r.pre.length,0,pad z [],mT⟩) hr rfl E3 hk (bI _) qA
 rw[if_neg hm];exact⟨_,.Qe (st:=⟨r.n,0,0,pad z [],none⟩) hr rfl hk (by simpa using hm) qA,.none⟩
end Bw
