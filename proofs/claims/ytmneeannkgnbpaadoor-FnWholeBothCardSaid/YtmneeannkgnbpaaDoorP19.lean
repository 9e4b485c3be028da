/- Lemmas of the walk and plain facts (JeF .. JeE2). -/
import Derived.Test.YtmneeannkgnbpaaDoorL1
import Derived.Test.YtmneeannkgnbpaaDoorL2
import Derived.Test.YtmneeannkgnbpaaDoorP03
import Derived.Test.YtmneeannkgnbpaaDoorP00
import Derived.Test.YtmneeannkgnbpaaDoorProg
import Derived.KernelRfl
import Derived.Test.YtmneeannkgnbpaaDoorP01
import Derived.Test.YtmneeannkgnbpaaDoorP06
set_option maxRecDepth 20000
namespace Go.Proofs.Ec
open Go Bw
theorem mixed:Tryd.prog.follows .mixedOrders =true:=by kernel_rfl
theorem Lt:FF Tryd.prog 46 0 0:=.mk fY rfl bh
theorem Ph:FF Tryd.prog 46 1 1:=.mk fY rfl ah
theorem Jh:FF Tryd.prog 46 2 2:=.mk fY rfl cB
theorem EA:FF Tryd.prog 46 3 3:=.mk fY rfl cB
theorem ac7:FF Tryd.prog 39 0 0:=.mk Tryd.underlying39 rfl ah
theorem ac8:FF Tryd.prog 39 1 1:=.mk Tryd.underlying39 rfl ah
theorem ac9:FF Tryd.prog 39 2 2:=.mk Tryd.underlying39 rfl ah
theorem Pj:FF Tryd.prog 102 0 0:=.mk Tryd.underlying102 rfl Tryd.sizeOf100
theorem VI:FF Tryd.prog 102 1 1:=.mk Tryd.underlying102 rfl bh
theorem VJ:FF Tryd.prog 107 0 0:=.mk eS rfl cB
theorem Gj:FF Tryd.prog 107 1 1:=.mk eS rfl cB
theorem yY:FF Tryd.prog 107 2 2:=.mk eS rfl cN
theorem Gk:FF Tryd.prog 107 3 3:=.mk eS rfl ah
theorem Pk:FF Tryd.prog 107 4 4:=.mk eS rfl ah
theorem VK:FF Tryd.prog 129 0 0:=.mk Tryd.underlying129 rfl Tryd.sizeOf103
theorem VL:FF Tryd.prog 134 0 0:=.mk Tryd.underlying134 rfl bm
theorem ade:FF Tryd.prog 134 1 1:=.mk Tryd.underlying134 rfl Tryd.sizeOf132
theorem VM:FF Tryd.prog 134 2 2:=.mk Tryd.underlying134 rfl Tryd.sizeOf127
theorem q6:FF Tryd.prog 141 0 0:=.mk cC rfl Tryd.sizeOf137
theorem EB:FF Tryd.prog 141 1 1:=.mk cC rfl bm
theorem zU:FF Tryd.prog 141 2 2:=.mk cC rfl bm
theorem xF:FF Tryd.prog 141 3 3:=.mk cC rfl bm
theorem uW:FF Tryd.prog 141 4 4:=.mk cC rfl bB
theorem yZ:FF Tryd.prog 141 5 5:=.mk cC rfl ah
theorem AR:FF Tryd.prog 141 6 6:=.mk cC rfl ah
theorem BL:FF Tryd.prog 141 7 7:=.mk cC rfl fW
theorem AS:FF Tryd.prog 141 8 8:=.mk cC rfl bh
theorem Pl:FF Tryd.prog 141 9 9:=.mk cC rfl bV
theorem wG:FF Tryd.prog 141 10 10:=.mk cC rfl fj
theorem zV:FF Tryd.prog 141 11 11:=.mk cC rfl aP
theorem ED:FF Tryd.prog 141 12 12:=.mk cC rfl aP
theorem AT:FF Tryd.prog 147 0 0:=.mk Tryd.underlying147 rfl cN
theorem Dg:FF Tryd.prog 147 1 1:=.mk Tryd.underlying147 rfl ah
theorem BM:FF Tryd.prog 147 2 2:=.mk Tryd.underlying147 rfl cB
theorem Lu:FF Tryd.prog 150 0 0:=.mk cD rfl bB
theorem Lv:FF Tryd.prog 150 1 1:=.mk cD rfl bB
theorem Lw:FF Tryd.prog 150 2 2:=.mk cD rfl bB
theorem Lx:FF Tryd.prog 150 3 3:=.mk cD rfl bB
theorem Pm:FF Tryd.prog 150 4 4:=.mk cD rfl bB
theorem Ly:FF Tryd.prog 150 5 5:=.mk cD rfl bB
theorem Lz:FF Tryd.prog 150 6 6:=.mk cD rfl bB
theorem LA:FF Tryd.prog 150 7 7:=.mk cD rfl bB
theorem LC:FF Tryd.prog 150 8 8:=.mk cD rfl bB
theorem LD:FF Tryd.prog 150 9 9:=.mk cD rfl bB
theorem LF:FF Tryd.prog 150 10 10:=.mk cD rfl bB
theorem EE:FF Tryd.prog 150 11 11:=.mk cD rfl Tryd.sizeOf148
theorem Pn:FF Tryd.prog 150 12 12:=.mk cD rfl ah
theorem Ji (w:World) (n m:Nat) (f:Nat->Option Nat) (mp:Option Nat) (kv:AL) (bx:List UInt8) (hn:w.cell? ⟨n,0,none⟩=some (Pt m 0)) (hm:∀i,i<11->w.cell? ⟨m,i,none⟩=some (PO (f i)))
  (EF:w.cell? ⟨m,11,none⟩=some (.map mp)) (qJ:uK w mp kv):
  Calls Tryd.prog 66 #[Pt n 0,S bx] w fun e w'=>e=.returned (PO (getM f kv bx))/\HF w (fun _=>False) [] w':=by
 refine enter (fun _=>False) [] Tryd.func66 rfl Tryd.ntmps66 rfl rfl (HF.start w _) fun c hc=>?_
 subst hc;refine gz<|gD<|gF<|gC<|gz<|gD<|gB<|gC<|gW<|gz<|gD<|gA (iE rfl rfl)<|gF<|gC<|gS rfl (fun qY=>?_) (fun qY=>?_)
 ·refine gz<|gD<|gB<|gJ rfl<|gH q6 rfl<|gA (hZ bq rfl hn id)<|gJ rfl<|gH Lu rfl<|gA (hZ aO rfl (hm 0 (by omega)) id)<|gF<|gC<|ic rfl rfl fun w' ia=>⟨?_,ia⟩
  have e:nY bx=some 0:=by rw[nY,if_pos qY]
  simp only[getM,e]
 refine gz<|gD<|gA (iE rfl rfl)<|gF<|gC<|gS rfl (fun qu=>?_) (fun qu=>?_)
 ·refine gz<|gD<|gB<|gJ rfl<|gH q6 rfl<|gA (hZ bq rfl hn id)<|gJ rfl<|gH Lv rfl<|gA (hZ aO rfl (hm 1 (by omega)) id)<|gF<|gC<|ic rfl rfl fun w' ia=>⟨?_,ia⟩
  have e:nY bx=some 1:=by rw[nY,if_neg qY,if_pos qu]
  simp only[getM,e]
 refine gz<|gD<|gA (iE rfl rfl)<|gF<|gC<|gS rfl (fun vK=>?_) (fun vK=>?_)
 ·refine gz<|gD<|gB<|gJ rfl<|gH q6 rfl<|gA (hZ bq rfl hn id)<|gJ rfl<|gH Lw rfl<|gA (hZ aO rfl (hm 2 (by omega)) id)<|gF<|gC<|ic rfl rfl fun w' ia=>⟨?_,ia⟩
  have e:nY bx=some 2:=by rw[nY,if_neg qY,if_neg qu,if_pos vK]
  simp only[getM,e]
 refine gz<|gD<|gA (iE rfl rfl)<|gF<|gC<|gS rfl (fun s9=>?_) (fun s9=>?_)
 ·refine gz<|gD<|gB<|gJ rfl<|gH q6 rfl<|gA (hZ bq rfl hn id)<|gJ rfl<|gH Lx rfl<|gA (hZ aO rfl (hm 3 (by omega)) id)<|gF<|gC<|ic rfl rfl fun w' ia=>⟨?_,ia⟩
  have e:nY bx=some 3:=by rw[nY,if_neg qY,if_neg qu,if_neg vK,if_pos s9]
  simp only[getM,e]
 refine gz<|gD<|gA (iE rfl rfl)<|gF<|gC<|gS rfl (fun wW=>?_) (fun wW=>?_)
 ·refine gz<|gD<|gB<|gJ rfl<|gH q6 rfl<|gA (hZ bq rfl hn id)<|gJ rfl<|gH Pm rfl<|gA (hZ aO rfl (hm 4 (by omega)) id)<|gF<|gC<|ic rfl rfl fun w' ia=>⟨?_,ia⟩
  have e:nY bx=some 4:=by rw[nY,if_neg qY,if_neg qu,if_neg vK,if_neg s9,if_pos wW]
  simp only[getM,e]
 refine gz<|gD<|gA (iE rfl rfl)<|gF<|gC<|gS rfl (fun y0=>?_) (fun y0=>?_)
 ·refine gz<|gD<|gB<|gJ rfl<|gH q6 rfl<|gA (hZ bq rfl hn id)<|gJ rfl<|gH Ly rfl<|gA (hZ aO rfl (hm 5 (by omega)) id)<|gF<|gC<|ic rfl rfl fun w' ia=>⟨?_,ia⟩
  have e:nY bx=some 5:=by rw[nY,if_neg qY,if_neg qu,if_neg vK,if_neg s9,if_neg wW,if_pos y0]
  simp only[getM,e]
 refine gz<|gD<|gA (iE rfl rfl)<|gF<|gC<|gS rfl (fun EG=>?_) (fun EG=>?_)
 ·refine gz<|gD<|gB<|gJ rfl<|gH q6 rfl<|gA (hZ bq rfl hn id)<|gJ rfl<|gH Lz rfl<|gA (hZ aO rfl (hm 6 (by omega)) id)<|gF<|gC<|ic rfl rfl fun w' ia=>⟨?_,ia⟩
  have e:nY bx=some 6:=by rw[nY,if_neg qY,if_neg qu,if_neg vK,if_neg s9,if_neg wW,if_neg y0,if_pos EG]
  simp only[getM,e]
 refine gz<|gD<|gA (iE rfl rfl)<|gF<|gC<|gS rfl (fun Dh=>?_) (fun Dh=>?_)
 ·refine gz<|gD<|gB<|gJ rfl<|gH q6 rfl<|gA (hZ bq rfl hn id)<|gJ rfl<|gH LA rfl<|gA (hZ aO rfl (hm 7 (by omega)) id)<|gF<|gC<|ic rfl rfl fun w' ia=>⟨?_,ia⟩
  have e:nY bx=some 7:=by rw[nY,if_neg qY,if_neg qu,if_neg vK,if_neg s9,if_neg wW,if_neg y0,if_neg EG,if_pos Dh]
  simp only[getM,e]
 refine gz<|gD<|gA (iE rfl rfl)<|gF<|gC<|gS rfl (fun Di=>?_) (fun Di=>?_)
 ·refine gz<|gD<|gB<|gJ rfl<|gH q6 rfl<|gA (hZ bq rfl hn id)<|gJ rfl<|gH LC rfl<|gA (hZ aO rfl (hm 8 (by omega)) id)<|gF<|gC<|ic rfl rfl fun w' ia=>⟨?_,ia⟩
  have e:nY bx=some 8:=by rw[nY,if_neg qY,if_neg qu,if_neg vK,if_neg s9,if_neg wW,if_neg y0,if_neg EG,if_neg Dh,if_pos Di]
  simp only[getM,e]
 refine gz<|gD<|gA (iE rfl rfl)<|gF<|gC<|gS rfl (fun LG=>?_) (fun LG=>?_)
 ·refine gz<|gD<|gB<|gJ rfl<|gH q6 rfl<|gA (hZ bq rfl hn id)<|gJ rfl<|gH LD rfl<|gA (hZ aO rfl (hm 9 (by omega)) id)<|gF<|gC<|ic rfl rfl fun w' ia=>⟨?_,ia⟩
  have e:nY bx=some 9:=by rw[nY,if_neg qY,if_neg qu,if_neg vK,if_neg s9,if_neg wW,if_neg y0,if_neg EG,if_neg Dh,if_neg Di,if_pos LG]
  simp only[getM,e]
 refine gz<|gD<|gA (iE rfl rfl)<|gF<|gC<|gS rfl (fun Po=>?_) (fun Po=>?_)
 ·refine gz<|gD<|gB<|gJ rfl<|gH q6 rfl<|gA (hZ bq rfl hn id)<|gJ rfl<|gH LF rfl<|gA (hZ aO rfl (hm 10 (by omega)) id)<|gF<|gC<|ic rfl rfl fun w' ia=>⟨?_,ia⟩
  have e:nY bx=some 10:=by rw[nY,if_neg qY,if_neg qu,if_neg vK,if_neg s9,if_neg wW,if_neg y0,if_neg EG,if_neg Dh,if_neg Di,if_neg LG,if_pos Po]
  simp only[getM,e]
 refine gz<|gD<|gB<|gJ rfl<|gH q6 rfl<|gA (hZ bq rfl hn id)<|gJ rfl<|gH EE rfl<|gA (hZ fF rfl EF id)<|gB<|iZ (v:=PO (uJ kv bx)) (show nB _ _ _ _ _ _ _ _ from ?_) rfl ?_
 ·rcases mp with _|mb
  ·simp only[uK] at qJ;subst qJ;exact lY dx aa Tryd.zeroValue135 rfl rfl
  rw[<-ZH];exact lX dx aa Tryd.zeroValue135 rfl rfl qJ id
 refine gF<|gC<|ic rfl rfl fun w' ia=>⟨?_,ia⟩
 have e:nY bx=none:=by rw[nY,if_neg qY,if_neg qu,if_neg vK,if_neg s9,if_neg wW,if_neg y0,if_neg EG,if_neg Dh,if_neg Di,if_neg LG,if_neg Po]
 simp only[getM,e]
theorem Pp (w:World) (m:Nat) (f:Nat->Option Nat) (mp:Option Nat) (kv:AL) (hm:∀i,i<11->w.cell? ⟨m,i,none⟩=some (PO (f i)))
  (EF:w.cell? ⟨m,11,none⟩=some (.map mp)) (qJ:uK w mp kv):
  Calls Tryd.prog 90 #[Pt m 0] w fun e w'=>e=.returned (.bool (re f kv))/\HF w (fun _=>False) [] w':=by
 refine enter (fun _=>False) [] Tryd.func90 rfl Tryd.ntmps90 rfl rfl (HF.start w _) fun c hc=>?_
 subst hc;refine gz<|gD<|gF<|gC<|gz<|gD<|gB<|gJ rfl<|gH Lu rfl<|gA (hZ aO rfl (hm 0 (by omega)) id)<|gA (iA aJ rfl)<|gB<|gZ 8 rfl (fun h8=>?_) (fun h8=>?_)
 ·refine gE ?_;refine gE ?_;refine gE ?_;refine gE ?_;refine gE ?_;refine gT ?_;refine gB ?_;refine gE ?_;refine gE ?_;refine gE ?_;refine gE ?_;refine gE ?_;refine gT ?_;refine gB ?_;refine gE ?_;refine gE ?_;refine gE ?_;refine gE ?_;refine gE ?_;refine gT ?_;refine gB ?_;refine gE ?_;refine gE ?_;refine gE ?_;refine gE ?_;refine gE ?_;refine gT ?_;refine gB ?_;refine gE ?_;refine gE ?_;refine gE ?_;refine gE ?_;refine gE ?_;refine gT ?_;refine gB ?_;refine gE ?_;refine gE ?_;refine gE ?_;refine gE ?_;refine gE ?_;refine gT ?_;refine gB ?_;refine gE ?_;refine gE ?_;refine gE ?_;refine gE ?_;refine gE ?_;refine gT ?_;refine gB ?_;refine gE ?_;refine gE ?_;refine gE ?_;refine gE ?_;refine gE ?_;refine gT ?_;refine gB ?_;refine gE ?_;refine gE ?_;refine gE ?_;refine gE ?_;refine gE ?_;refine gT ?_;refine gB ?_;refine gE ?_;refine gE ?_;refine gE ?_;refine gE ?_;refine gE ?_;refine gT ?_;refine gB ?_;refine gE ?_;refine gE ?_;refine gE ?_;refine gE ?_;refine gE ?_;refine gE ?_;refine gT ?_;refine gF ?_;refine gC ?_;refine ic rfl rfl fun w' ia=>⟨?_,ia⟩
  have hL:(!decide ((kv.length:Int)=0))= !kv.isEmpty:=by cases kv<;>simp<;>omega
  simp only[re];first|(simp[*];done)|(simp_all;done)
 refine gU<|gI (gX rfl)<|gI (gQ Lv rfl)<|gI (hZ aO rfl (hm 1 (by omega)) id)<|gI (iA aJ rfl)<|hG<|gB<|gZ 15 rfl (fun qY=>?_) (fun qY=>?_)
 ·refine gE ?_;refine gE ?_;refine gE ?_;refine gE ?_;refine gE ?_;refine gT ?_;refine gB ?_;refine gE ?_;refine gE ?_;refine gE ?_;refine gE ?_;refine gE ?_;refine gT ?_;refine gB ?_;refine gE ?_;refine gE ?_;refine gE ?_;refine gE ?_;refine gE ?_;refine gT ?_;refine gB ?_;refine gE ?_;refine gE ?_;refine gE ?_;refine gE ?_;refine gE ?_;refine gT ?_;refine gB ?_;refine gE ?_;refine gE ?_;refine gE ?_;refine gE ?_;refine gE ?_;refine gT ?_;refine gB ?_;refine gE ?_;refine gE ?_;refine gE ?_;refine gE ?_;refine gE ?_;refine gT ?_;refine gB ?_;refine gE ?_;refine gE ?_;refine gE ?_;refine gE ?_;refine gE ?_;refine gT ?_;refine gB ?_;refine gE ?_;refine gE ?_;refine gE ?_;refine gE ?_;refine gE ?_;refine gT ?_;refine gB ?_;refine gE ?_;refine gE ?_;refine gE ?_;refine gE ?_;refine gE ?_;refine gT ?_;refine gB ?_;refine gE ?_;refine gE ?_;refine gE ?_;refine gE ?_;refine gE ?_;refine gE ?_;refine gT ?_;refine gF ?_;refine gC ?_;refine ic rfl rfl fun w' ia=>⟨?_,ia⟩
  have hL:(!decide ((kv.length:Int)=0))= !kv.isEmpty:=by cases kv<;>simp<;>omega
  simp only[re];first|(simp[*];done)|(simp_all;done)
 refine gU<|gI (gX rfl)<|gI (gQ Lw rfl)<|gI (hZ aO rfl (hm 2 (by omega)) id)<|gI (iA aJ rfl)<|hG<|gB<|gZ 22 rfl (fun rR=>?_) (fun rR=>?_)
 ·refine gE ?_;refine gE ?_;refine gE ?_;refine gE ?_;refine gE ?_;refine gT ?_;refine gB ?_;refine gE ?_;refine gE ?_;refine gE ?_;refine gE ?_;refine gE ?_;refine gT ?_;refine gB ?_;refine gE ?_;refine gE ?_;refine gE ?_;refine gE ?_;refine gE ?_;refine gT ?_;refine gB ?_;refine gE ?_;refine gE ?_;refine gE ?_;refine gE ?_;refine gE ?_;refine gT ?_;refine gB ?_;refine gE ?_;refine gE ?_;refine gE ?_;refine gE ?_;refine gE ?_;refine gT ?_;refine gB ?_;refine gE ?_;refine gE ?_;refine gE ?_;refine gE ?_;refine gE ?_;refine gT ?_;refine gB ?_;refine gE ?_;refine gE ?_;refine gE ?_;refine gE ?_;refine gE ?_;refine gT ?_;refine gB ?_;refine gE ?_;refine gE ?_;refine gE ?_;refine gE ?_;refine gE ?_;refine gT ?_;refine gB ?_;refine gE ?_;refine gE ?_;refine gE ?_;refine gE ?_;refine gE ?_;refine gE ?_;refine gT ?_;refine gF ?_;refine gC ?_;refine ic rfl rfl fun w' ia=>⟨?_,ia⟩
  have hL:(!decide ((kv.length:Int)=0))= !kv.isEmpty:=by cases kv<;>simp<;>omega
  simp only[re];first|(simp[*];done)|(simp_all;done)
 refine gU<|gI (gX rfl)<|gI (gQ Lx rfl)<|gI (hZ aO rfl (hm 3 (by omega)) id)<|gI (iA aJ rfl)<|hG<|gB<|gZ 29 rfl (fun xZ=>?_) (fun xZ=>?_)
 ·refine gE ?_;refine gE ?_;refine gE ?_;refine gE ?_;refine gE ?_;refine gT ?_;refine gB ?_;refine gE ?_;refine gE ?_;refine gE ?_;refine gE ?_;refine gE ?_;refine gT ?_;refine gB ?_;refine gE ?_;refine gE ?_;refine gE ?_;refine gE ?_;refine gE ?_;refine gT ?_;refine gB ?_;refine gE ?_;refine gE ?_;refine gE ?_;refine gE ?_;refine gE ?_;refine gT ?_;refine gB ?_;refine gE ?_;refine gE ?_;refine gE ?_;refine gE ?_;refine gE ?_;refine gT ?_;refine gB ?_;refine gE ?_;refine gE ?_;refine gE ?_;refine gE ?_;refine gE ?_;refine gT ?_;refine gB ?_;refine gE ?_;refine gE ?_;refine gE ?_;refine gE ?_;refine gE ?_;refine gT ?_;refine gB ?_;refine gE ?_;refine gE ?_;refine gE ?_;refine gE ?_;refine gE ?_;refine gE ?_;refine gT ?_;refine gF ?_;refine gC ?_;refine ic rfl rfl fun w' ia=>⟨?_,ia⟩
  have hL:(!decide ((kv.length:Int)=0))= !kv.isEmpty:=by cases kv<;>simp<;>omega
  simp only[re];first|(simp[*];done)|(simp_all;done)
 refine gU<|gI (gX rfl)<|gI (gQ Pm rfl)<|gI (hZ aO rfl (hm 4 (by omega)) id)<|gI (iA aJ rfl)<|hG<|gB<|gZ 36 rfl (fun yX=>?_) (fun yX=>?_)
 ·refine gE ?_;refine gE ?_;refine gE ?_;refine gE ?_;refine gE ?_;refine gT ?_;refine gB ?_;refine gE ?_;refine gE ?_;refine gE ?_;refine gE ?_;refine gE ?_;refine gT ?_;refine gB ?_;refine gE ?_;refine gE ?_;refine gE ?_;refine gE ?_;refine gE ?_;refine gT ?_;refine gB ?_;refine gE ?_;refine gE ?_;refine gE ?_;refine gE ?_;refine gE ?_;refine gT ?_;refine gB ?_;refine gE ?_;refine gE ?_;refine gE ?_;refine gE ?_;refine gE ?_;refine gT ?_;refine gB ?_;refine gE ?_;refine gE ?_;refine gE ?_;refine gE ?_;refine gE ?_;refine gT ?_;refine gB ?_;refine gE ?_;refine gE ?_;refine gE ?_;refine gE ?_;refine gE ?_;refine gE ?_;refine gT ?_;refine gF ?_;refine gC ?_;refine ic rfl rfl fun w' ia=>⟨?_,ia⟩
  have hL:(!decide ((kv.length:Int)=0))= !kv.isEmpty:=by cases kv<;>simp<;>omega
  simp only[re];first|(simp[*];done)|(simp_all;done)
 refine gU<|gI (gX rfl)<|gI (gQ Ly rfl)<|gI (hZ aO rfl (hm 5 (by omega)) id)<|gI (iA aJ rfl)<|hG<|gB<|gZ 43 rfl (fun Bq=>?_) (fun Bq=>?_)
 ·refine gE ?_;refine gE ?_;refine gE ?_;refine gE ?_;refine gE ?_;refine gT ?_;refine gB ?_;refine gE ?_;refine gE ?_;refine gE ?_;refine gE ?_;refine gE ?_;refine gT ?_;refine gB ?_;refine gE ?_;refine gE ?_;refine gE ?_;refine gE ?_;refine gE ?_;refine gT ?_;refine gB ?_;refine gE ?_;refine gE ?_;refine gE ?_;refine gE ?_;refine gE ?_;refine gT ?_;refine gB ?_;refine gE ?_;refine gE ?_;refine gE ?_;refine gE ?_;refine gE ?_;refine gT ?_;refine gB ?_;refine gE ?_;refine gE ?_;refine gE ?_;refine gE ?_;refine gE ?_;refine gE ?_;refine gT ?_;refine gF ?_;refine gC ?_;refine ic rfl rfl fun w' ia=>⟨?_,ia⟩
  have hL:(!decide ((kv.length:Int)=0))= !kv.isEmpty:=by cases kv<;>simp<;>omega
  simp only[re];first|(simp[*];done)|(simp_all;done)
 refine gU<|gI (gX rfl)<|gI (gQ Lz rfl)<|gI (hZ aO rfl (hm 6 (by omega)) id)<|gI (iA aJ rfl)<|hG<|gB<|gZ 50 rfl (fun xC=>?_) (fun xC=>?_)
 ·refine gE ?_;refine gE ?_;refine gE ?_;refine gE ?_;refine gE ?_;refine gT ?_;refine gB ?_;refine gE ?_;refine gE ?_;refine gE ?_;refine gE ?_;refine gE ?_;refine gT ?_;refine gB ?_;refine gE ?_;refine gE ?_;refine gE ?_;refine gE ?_;refine gE ?_;refine gT ?_;refine gB ?_;refine gE ?_;refine gE ?_;refine gE ?_;refine gE ?_;refine gE ?_;refine gT ?_;refine gB ?_;refine gE ?_;refine gE ?_;refine gE ?_;refine gE ?_;refine gE ?_;refine gE ?_;refine gT ?_;refine gF ?_;refine gC ?_;refine ic rfl rfl fun w' ia=>⟨?_,ia⟩
  have hL:(!decide ((kv.length:Int)=0))= !kv.isEmpty:=by cases kv<;>simp<;>omega
  simp only[re];first|(simp[*];done)|(simp_all;done)
 refine gU<|gI (gX rfl)<|gI (gQ LA rfl)<|gI (hZ aO rfl (hm 7 (by omega)) id)<|gI (iA aJ rfl)<|hG<|gB<|gZ 57 rfl (fun Jj=>?_) (fun Jj=>?_)
 ·refine gE ?_;refine gE ?_;refine gE ?_;refine gE ?_;refine gE ?_;refine gT ?_;refine gB ?_;refine gE ?_;refine gE ?_;refine gE ?_;refine gE ?_;refine gE ?_;refine gT ?_;refine gB ?_;refine gE ?_;refine gE ?_;refine gE ?_;refine gE ?_;refine gE ?_;refine gT ?_;refine gB ?_;refine gE ?_;refine gE ?_;refine gE ?_;refine gE ?_;refine gE ?_;refine gE ?_;refine gT ?_;refine gF ?_;refine gC ?_;refine ic rfl rfl fun w' ia=>⟨?_,ia⟩
  have hL:(!decide ((kv.length:Int)=0))= !kv.isEmpty:=by cases kv<;>simp<;>omega
  simp only[re];first|(simp[*];done)|(simp_all;done)
 refine gU<|gI (gX rfl)<|gI (gQ LC rfl)<|gI (hZ aO rfl (hm 8 (by omega)) id)<|gI (iA aJ rfl)<|hG<|gB<|gZ 64 rfl (fun wy=>?_) (fun wy=>?_)
 ·refine gE ?_;refine gE ?_;refine gE ?_;refine gE ?_;refine gE ?_;refine gT ?_;refine gB ?_;refine gE ?_;refine gE ?_;refine gE ?_;refine gE ?_;refine gE ?_;refine gT ?_;refine gB ?_;refine gE ?_;refine gE ?_;refine gE ?_;refine gE ?_;refine gE ?_;refine gE ?_;refine gT ?_;refine gF ?_;refine gC ?_;refine ic rfl rfl fun w' ia=>⟨?_,ia⟩
  have hL:(!decide ((kv.length:Int)=0))= !kv.isEmpty:=by cases kv<;>simp<;>omega
  simp only[re];first|(simp[*];done)|(simp_all;done)
 refine gU<|gI (gX rfl)<|gI (gQ LD rfl)<|gI (hZ aO rfl (hm 9 (by omega)) id)<|gI (iA aJ rfl)<|hG<|gB<|gZ 71 rfl (fun v8=>?_) (fun v8=>?_)
 ·refine gE ?_;refine gE ?_;refine gE ?_;refine gE ?_;refine gE ?_;refine gT ?_;refine gB ?_;refine gE ?_;refine gE ?_;refine gE ?_;refine gE ?_;refine gE ?_;refine gE ?_;refine gT ?_;refine gF ?_;refine gC ?_;refine ic rfl rfl fun w' ia=>⟨?_,ia⟩
  have hL:(!decide ((kv.length:Int)=0))= !kv.isEmpty:=by cases kv<;>simp<;>omega
  simp only[re];first|(simp[*];done)|(simp_all;done)
 refine gU<|gI (gX rfl)<|gI (gQ LF rfl)<|gI (hZ aO rfl (hm 10 (by omega)) id)<|gI (iA aJ rfl)<|hG<|gB<|gZ 78 rfl (fun Dh=>?_) (fun Dh=>?_)
 ·refine gE ?_;refine gE ?_;refine gE ?_;refine gE ?_;refine gE ?_;refine gE ?_;refine gT ?_;refine gF ?_;refine gC ?_;refine ic rfl rfl fun w' ia=>⟨?_,ia⟩
  have hL:(!decide ((kv.length:Int)=0))= !kv.isEmpty:=by cases kv<;>simp<;>omega
  simp only[re];first|(simp[*];done)|(simp_all;done)
 refine gU<|gI (gX rfl)<|gI (gQ EE rfl)<|gI (hZ fF rfl EF id)<|gI (l8 dx rfl qJ (fun _ _ h=>h))<|gI (iF rfl rfl)<|hG<|gF<|gC<|ic rfl rfl fun w' ia=>⟨?_,ia⟩
 have hL:(!decide ((kv.length:Int)=0))= !kv.isEmpty:=by cases kv<;>simp<;>omega
 simp only[re];first|(simp[*];done)|(simp_all;done)
set_option maxHeartbeats 2000000 in
theorem Pq (m:Nat) (ng mV mP nf:Option Nat) (pre rZ:List UInt8) (ad:Option Addr) (ln cp:Nat) (pc:Int) (nP kd:Int) (leaf nn:Bool) (w:World):
   (Instr.build 141 #[(10,.int .u8 kd),(9,.int .u8 nP),(5,S pre),(1,PO ng),(7,.slice ad ln cp),(6,S rZ),(0,Pt m 0),(8,I pc),(2,PO mV),(3,PO mP),(11,.bool leaf),(12,.bool nn),(4,PO nf)]).run Tryd.prog w=
     .ok (.agg #[Pt m 0,PO ng,PO mV,PO mP,PO nf,S pre,S rZ,.slice ad ln cp,I pc,.int .u8 nP,.int .u8 kd,.bool leaf,.bool nn]) w:=by
  simp[Instr.build,Tryd.zeroValue141,Tryd.runUnderlying141,Tryd.sizeOf137,bm,bB,ah,fW,bh,bV,fj,aP,qp,Instr.fill,ZI,Bk,HZ,tR,Cv,DX]
theorem Pr (w:World) (kd:Int) (nP:UInt8) (pre rZ:List UInt8) (ng mV mP nf:Option Nat) (ad:Option Addr) (ln cp:Nat) (m:Nat) (pc:Int) (f:Nat->Option Nat) (mp:Option Nat) (kv:AL)
  (hm:∀i,i<11->w.cell? ⟨m,i,none⟩=some (PO (f i))) (EF:w.cell? ⟨m,11,none⟩=some (.map mp)) (qJ:uK w mp kv):
  Calls Tryd.prog 86 #[.int .u8 kd,S (nP::pre),PO ng,.slice ad ln cp,S rZ,Pt m 0,I pc,PO mV,PO mP,PO nf] w fun e w'=>∃b,e=.returned (Pt b 0)/\
   HF w (fun _=>False) [Rx b [Pt m 0,PO ng,PO mV,PO mP,PO nf,S (nP::pre),S rZ,.slice ad ln cp,I pc,.int .u8 (nP.toNat:Int),.int .u8 kd,.bool (ad.isNone&&mV.isNone&&mP.isNone),.bool (re f kv)] 141] w':=by
 refine enter (fun _=>False) [] Tryd.func86 rfl Tryd.ntmps86 rfl rfl (HF.start w _) fun c hc=>?_
 subst hc;refine gz<|gD<|gF<|gC<|gz<|lH 25 mixed (by kernel_rfl) rfl rfl<|iW (gM rfl) rfl<|iW (gM rfl) rfl<|iW (iG (i:=0) aa rfl rfl rfl) rfl<|iW (gM rfl) rfl<|iW (gM rfl) rfl<|iW (gM rfl) rfl<|iW (gM rfl) rfl<|iW (gM rfl) rfl<|iW (gM rfl) rfl<|iW (gM rfl) rfl<|iW (gM rfl) rfl<|iW (gM rfl) rfl<|iW (jL c7 rfl) rfl<|iW (gM rfl) rfl<|kW 34 rfl (fun qF=>?_) (fun qF=>?_)
 ·refine ki rfl rfl (gM rfl) rfl<|ki rfl rfl (jg aK rfl) rfl<|iW (iL rfl rfl) rfl<|iW (gM rfl) rfl<|kW 38 rfl (fun yq=>?_) (fun yq=>?_)
  ·refine ki rfl rfl (gM rfl) rfl<|ki rfl rfl (jg aK rfl) rfl<|iW (iL rfl rfl) rfl<|iW (gM rfl) rfl<|kJ Tryd.call90 rfl rfl (fun w1 fa=>Pp w1 m f mp kv (fun i hi=>fa.pT (hm i hi) id) (fa.pT EF id) (qJ.old fa))<|iW (gM rfl) rfl<|iW (iN rfl (Pq m ng mV mP nf (nP::pre) rZ ad ln cp pc nP.toNat kd _ (re f kv))) rfl<|kI<|jc rfl rfl rfl (fun b hb=>?_);refine gF<|gC<|ic rfl rfl fun w' ia=>⟨b,rfl,?_⟩
   first|(rw[qF,yq];exact ia)|(rw[qF];exact ia)
  refine jX rfl rfl rfl rfl rfl rfl<|jX rfl rfl rfl rfl rfl rfl<|iW (iD rfl rfl) rfl<|iW (gM rfl) rfl<|kJ Tryd.call90 rfl rfl (fun w1 fa=>Pp w1 m f mp kv (fun i hi=>fa.pT (hm i hi) id) (fa.pT EF id) (qJ.old fa))<|iW (gM rfl) rfl<|iW (iN rfl (Pq m ng mV mP nf (nP::pre) rZ ad ln cp pc nP.toNat kd _ (re f kv))) rfl<|kI<|jc rfl rfl rfl (fun b hb=>?_);refine gF<|gC<|ic rfl rfl fun w' ia=>⟨b,rfl,?_⟩
  first|(rw[qF,yq];exact ia)|(rw[qF];exact ia)
 refine jX rfl rfl rfl rfl rfl rfl<|jX rfl rfl rfl rfl rfl rfl<|iW (iD rfl rfl) rfl<|iW (gM rfl) rfl<|jX rfl rfl rfl rfl rfl rfl<|jX rfl rfl rfl rfl rfl rfl<|iW (iD rfl rfl) rfl<|iW (gM rfl) rfl<|kJ Tryd.call90 rfl rfl (fun w1 fa=>Pp w1 m f mp kv (fun i hi=>fa.pT (hm i hi) id) (fa.pT EF id) (qJ.old fa))<|iW (gM rfl) rfl<|iW (iN rfl (Pq m ng mV mP nf (nP::pre) rZ ad ln cp pc nP.toNat kd _ (re f kv))) rfl<|kI<|jc rfl rfl rfl (fun b hb=>?_);refine gF<|gC<|ic rfl rfl fun w' ia=>⟨b,rfl,?_⟩
 first|(rw[qF,yq];exact ia)|(rw[qF];exact ia)
set_option maxRecDepth 10000 in
theorem Ps (w:World) (n:Nat) (l:UInt8) (ad:Option Addr) (cap:Nat) (kids:List (Nat×UInt8)) (hs:w.cell? ⟨n,7,none⟩=some (.slice ad kids.length cap)) (hz:kids.length<9223372036854775807)
  (hk:∀i p,kids[i]? =some p->∃a,ad=some ⟨a,0,none⟩/\w.cell? ⟨a,i,none⟩=some (Pt p.1 0)/\w.cell? ⟨p.1,9,none⟩=some (.int .u8 (p.2.toNat:Int))):
  Calls Tryd.prog 67 #[Pt n 0,.int .u8 (l.toNat:Int)] w fun e w'=>e=.returned (PO ((kids.find? fun p=>p.2==l).map (·.1)))/\HF w (fun _=>False) [] w':=by
 refine enter (fun _=>False) [] Tryd.func67 rfl Tryd.ntmps67 rfl rfl (HF.start w _) fun c hc=>?_
 subst hc
 refine gz ?_
 refine gD ?_
 refine gF ?_
 refine gC ?_
 refine gz ?_
 refine gz ?_
 refine gD ?_
 refine gB ?_
 refine gJ rfl ?_
 refine gH BL rfl ?_
 refine gA (hZ eP rfl hs id) ?_
 refine gA (iu c7 rfl) ?_
 refine gB ?_
 refine gC ?_
 refine gW ?_
 refine jw ?_
 refine gN (bc:=[(0,Pt n 0),(1,.int .u8 (l.toNat:Int)),(10,.slice ad kids.length cap),(11,I (kids.length:Nat)),(12,I ((0:Nat):Int))]) (.of rfl) ?_
 suffices loop:∀m j:Nat,j+m=kids.length->((kids.find? fun p=>p.2==l)=((kids.drop j).find? fun p=>p.2==l))->
   GC Tryd.prog ⟨67,Tryd.f67,_,w,fun _=>False⟩ 24 _ [(0,Pt n 0),(1,.int .u8 (l.toNat:Int)),(10,.slice ad kids.length cap),(11,I (kids.length:Nat)),(12,I (j:Int))] [] from
  loop _ 0 (aH _) rfl
 intro m
 induction m with
 |zero=>
  intro j hj Fq
  refine gz ?_
  refine gD ?_
  refine gA (ik rfl rfl) ?_
  refine gC ?_
  refine gz ?_
  refine gS rfl (fun h=>by omega) (fun h=>?_)
  refine ir rfl ?_
  refine gz ?_
  refine gD ?_
  refine gF ?_
  refine gC ?_
  refine ic rfl rfl fun w' ia=>⟨?_,ia⟩
  rw[Fq,gh (by omega)];rfl
 |succ m ih=>
  intro j hj Fq
  refine gz ?_
  refine gD ?_
  refine gA (ik rfl rfl) ?_
  refine gC ?_
  refine gz ?_
  refine gS rfl (fun h=>?_) (fun h=>by omega)
  have mS:j<kids.length:=by omega
  obtain⟨a,rfl,oV,oc⟩:=hk j kids[j] (ao mS)
  refine gL ?_
  refine gz ?_
  refine gW ?_
  refine gz ?_
  refine gD ?_
  refine gA (ij c7 bm rfl rfl mS) ?_
  refine gA (hZ aq rfl (by simpa using oV) id) ?_
  refine gF ?_
  refine gC ?_
  refine gz ?_
  refine gD ?_
  refine gB ?_
  refine gJ rfl ?_
  refine gH Pl rfl ?_
  refine gA (hZ bt rfl oc id) ?_
  refine gB ?_
  refine gA (ie rfl rfl) ?_
  refine gC ?_
  have nH:kids.drop j=kids[j]::kids.drop (j+1):=bl mS
  refine gS rfl (fun h=>?_) (fun h=>?_)
  ·refine gz ?_
   refine gD ?_
   refine gB ?_
   refine gF ?_
   refine gC ?_
   refine ic rfl rfl fun w' ia=>⟨?_,ia⟩
   have he:kids[j].2=l:=bU.1 (by omega)
   rw[Fq,nH,List.find?_cons_of_pos (by simpa using he)];rfl
  have he:¬kids[j].2=l:=fun e=>h (by rw[e])
  refine gL ?_
  refine il ?_
  refine gD ?_
  refine gA (iB rfl rfl rfl (by omega) (by omega)) ?_
  refine gB ?_
  refine gC ?_
  refine jx ?_
  refine gN ?_ (ih (j+1) (by omega) (by rw[Fq,nH,List.find?_cons_of_neg (by simpa using he)]))
  exact .of rfl
def wX (kids:List (Nat×UInt8)) (mV mP:Option Nat) (l:UInt8):Option Nat:=
 match kids.find? fun p=>p.2==l with
 |some p=>some p.1
 |none=>if l=58 then mV else if l=42 then mP else none
theorem adf (w:World) (n:Nat) (l:UInt8) (ad:Option Addr) (cap:Nat) (kids:List (Nat×UInt8)) (mV mP:Option Nat) (hs:w.cell? ⟨n,7,none⟩=some (.slice ad kids.length cap)) (hz:kids.length<9223372036854775807)
  (hk:∀i p,kids[i]? =some p->∃a,ad=some ⟨a,0,none⟩/\w.cell? ⟨a,i,none⟩=some (Pt p.1 0)/\w.cell? ⟨p.1,9,none⟩=some (.int .u8 (p.2.toNat:Int))) (h2:w.cell? ⟨n,2,none⟩=some (PO mV)) (h3:w.cell? ⟨n,3,none⟩=some (PO mP)):
  Calls Tryd.prog 88 #[Pt n 0,.int .u8 (l.toNat:Int)] w fun e w'=>e=.returned (PO (wX kids mV mP l))/\HF w (fun _=>False) [] w':=by
 refine enter (fun _=>False) [] Tryd.func88 rfl Tryd.ntmps88 rfl rfl (HF.start w _) fun c hc=>?_
 subst hc;refine gz<|gD<|gF<|gC<|gz<|gz<|gD<|gB<|gB<|iw Tryd.call67 rfl rfl (fun w1 fa=>Ps w1 n l ad cap kids (fa.pT hs id) hz (fun i p hp=>by obtain⟨a,h1,h2,h3⟩:=hk i p hp;exact⟨a,h1,fa.pT h2 id,fa.pT h3 id⟩))<|gF<|gC<|gz<|gD<|gB<|gA (iA aK rfl)<|gC<|gV rfl (fun oF=>?_) (fun oF=>?_)
 ·refine gz<|gD<|gB<|gF<|gC<|ic rfl rfl fun w' ia=>⟨?_,ia⟩
  rw[wX]
  cases hf:kids.find? fun p=>p.2==l with
  |none=>rw[hf] at oF;simp at oF
  |some p=>rfl
 refine gL<|gz<|gz<|gD<|gB<|gA (ie rfl rfl)<|gC<|gS rfl (fun wB=>?_) (fun wB=>?_)
 ·refine gz<|gD<|gB<|gJ rfl<|gH zU rfl<|gA (hZ aq rfl h2 id)<|gF<|gC<|ic rfl rfl fun w' ia=>⟨?_,ia⟩
  rw[wX]
  cases hf:kids.find? fun p=>p.2==l with
  |some p=>rw[hf] at oF;simp at oF
  |none=>
   have:l=58:=bU.1 (show l.toNat=58 by omega)
   simp[this]
 refine gL<|gz<|gz<|gD<|gB<|gA (ie rfl rfl)<|gC<|gS rfl (fun Dd=>?_) (fun Dd=>?_)
 ·refine gz<|gD<|gB<|gJ rfl<|gH xF rfl<|gA (hZ aq rfl h3 id)<|gF<|gC<|ic rfl rfl fun w' ia=>⟨?_,ia⟩
  rw[wX]
  cases hf:kids.find? fun p=>p.2==l with
  |some p=>rw[hf] at oF;simp at oF
  |none=>
   have:¬l=58:=fun e=>wB (by rw[e];rfl)
   have h4:l=42:=bU.1 (show l.toNat=42 by omega);simp[h4]
 refine gL<|gz<|gD<|gF<|gC<|ic rfl rfl fun w' ia=>⟨?_,ia⟩
 rw[wX]
 cases hf:kids.find? fun p=>p.2==l with
 |some p=>rw[hf] at oF;simp at oF
 |none=>
  have:¬l=58:=fun e=>wB (by rw[e];rfl)
  have h4:¬l=42:=fun e=>Dd (by rw[e];rfl)
  simp[this,h4];rfl
theorem adg (w:World) (D:Nat->Prop) (n ch:Nat) (l:List Value) (sv:Value) (q:Nat) (xs:List Value) (Hs:SH) (hH:HF w D (Rx n l 141::Hs) w) (h7:nth l 7=some sv) (nx:Own 131 1 sv q xs Hs) (hq:q<1000000):
  Calls Tryd.prog 87 #[Pt n 0,Pt ch 0] w fun e w'=>e=.returned (.tuple #[])/\∃sC nX,Own 131 1 sC (q+1) (xs++[Pt ch 0]) nX/\HF w D (Rx n (rC l 7 sC) 141::nX) w':=by
 refine enter D (Rx n l 141::Hs) Tryd.func87 rfl Tryd.ntmps87 rfl rfl hH fun c hc=>?_
 subst hc;refine gD<|gB<|gB<|gJ rfl<|gH BL rfl<|gA (gG eP rfl (.head _) h7)<|gB<|je (jn c7 bm Tryd.zeroValue131 (v:=Pt ch 0) rfl) rfl rfl (fun tb NP=>?_);refine jA (i:=Tryd.t131) (sz:=1) (qg:=8) c7 rfl rfl rfl rfl rfl rfl rfl nx (H':=[Rx tb [Pt ch 0] 131,Rx n l 141]) ?_ (vf (vs:=[Pt ch 0]) (r:=[]) (.head _)) rfl (by simp[Value.oneCell']) (by omega) (by omega) (by omega) rfl (fun sC nX y1=>?_)
 ·exact(aF (l₁:=[Rx tb [Pt ch 0] 131,Rx n l 141]) (l₂:=Hs))
 obtain⟨mX,Dj,rfl⟩:=y1.slice;refine gJ rfl<|gH BL rfl<|gO fW rfl rfl rfl (.s .z) (by rw[h7];rfl) rfl<|gC<|jq rfl fun w' ia=>⟨rfl,_,nX,y1,ia.sub ?_⟩
 exact ai _ _
end Go.Proofs.Ec
