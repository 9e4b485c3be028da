/- Lemmas of the walk and plain facts (HuC1 .. HuC5). -/
import Derived.Test.YtdjnbehdiohggaaDoorP12
import Derived.Test.YtdjnbehdiohggaaDoorP14
import Derived.Test.YtdjnbehdiohggaaDoorShelf
import Derived.Test.YtdjnbehdiohggaaDoorP11
import Derived.Test.YtdjnbehdiohggaaDoorP16
import Derived.Test.YtdjnbehdiohggaaDoorP01
/- The small functions of the search whatever the letters are. Printed by wip/mk_hv1.py. -/
set_option maxRecDepth 20000
namespace Go.Proofs
open Go Bw
open Gt
/-- an array of four bytes, the first one told -/
def rbR (a : UInt8) : List Value := [.int .u8 (a.toNat : Int), .int .u8 0, .int .u8 0, .int .u8 0]
theorem rbR_one (a : UInt8) : ∀ v ∈ rbR a, v.oneCell' = true := by
 intro v hv
 simp only [rbR, List.mem_cons, List.not_mem_nil, or_false] at hv
 rcases hv with rfl | rfl | rfl | rfl <;> rfl
theorem bd98 (w : World) : (Instr.build 98 #[]).run Tryd.prog w = .ok (.agg (rbR 0).toArray) w := by
 simp [Instr.build, Tryd.zeroValue98, Tryd.runUnderlying98, Tryd.sizeOf5, cells_agg, Instr.fill, rbR]
theorem bd98_1 (x : Value) (h : x.cells = #[x]) (w : World) : (Instr.build 98 #[(0, x)]).run Tryd.prog w = .ok (.agg #[x, .int .u8 0, .int .u8 0, .int .u8 0]) w := by
 simp [Instr.build, Tryd.zeroValue98, Tryd.runUnderlying98, Tryd.sizeOf5, cells_agg, Instr.fill, h]
theorem bd98_2 (x y : Value) (h : x.cells = #[x]) (h2 : y.cells = #[y]) (w : World) : (Instr.build 98 #[(0, x), (1, y)]).run Tryd.prog w = .ok (.agg #[x, y, .int .u8 0, .int .u8 0]) w := by
 simp [Instr.build, Tryd.zeroValue98, Tryd.runUnderlying98, Tryd.sizeOf5, cells_agg, Instr.fill, h, h2]
theorem bd98_4 (x y z u : Value) (h : x.cells = #[x]) (h2 : y.cells = #[y]) (h3 : z.cells = #[z]) (h4 : u.cells = #[u]) (w : World) : (Instr.build 98 #[(0, x), (1, y), (2, z), (3, u)]).run Tryd.prog w = .ok (.agg #[x, y, z, u]) w := by
 simp [Instr.build, Tryd.zeroValue98, Tryd.runUnderlying98, Tryd.sizeOf5, cells_agg, Instr.fill, h, h2, h3, h4]
theorem c71_any (w : World) (a : UInt8) (m : Nat) : Calls Tryd.prog 71 #[.agg (rbR a).toArray, I (m : Nat)] w fun e w' => e = .returned (.agg (rbR (if m = 0 then a else 0)).toArray) ∧ HF w (fun _ => False) [] w' := by
 refine enter (fun _ => False) [] Tryd.func71 rfl Tryd.ntmps71 rfl rfl (HF.start w _) fun c hc => ?_
 subst hc
 refine GC.seq ?_
 refine GC.reg ?_
 refine G.bx (l := rbR a) rfl (by simp [cells_agg, rbR]) rfl (fun qb hqb => ?_)
 refine G.al (l := rbR 0) Tryd.zeroValue98 (by simp [cells_agg, rbR]) rfl (fun zb hzb => ?_)
 refine G.nil ?_
 refine GC.seq ?_
 refine GC.reg ?_
 refine G.m1 ?_
 refine G.nil ?_
 refine GC.block ?_
 refine GC.seq ?_
 refine GC.reg ?_
 refine G.v (V.eqI rfl rfl) rfl ?_
 refine G.m2 ?_
 refine G.nil ?_
 refine GC.condD rfl (fun h7 => ?_) (fun h7 => ?_)
 ·refine GC.seq ?_
  refine GC.reg ?_
  refine G.v (V.ldA (b := qb) (off := 0) (s := 4) (wf := true) (l := rbR a) (T := 98) (fz := (0, 0)) (cs := rbR a) Tryd.isAgg98 Tryd.sizeOf98 rfl (.tail _ (.head _)) rfl rfl) rfl ?_
  refine G.stA (cs := rbR a) Tryd.sizeOf98 rfl rfl (rbR_one _) .z rfl ?_
  refine G.nil ?_
  refine GC.retC (cs := rbR a) rfl Tryd.isAgg98 Tryd.sizeOf98 rfl (.head _) rfl fun w' hw' => ⟨?_, hw'.sub (List.nil_sublist _)⟩
  rw [if_pos (by omega)]
 refine GC.seq ?_
 refine GC.reg ?_
 refine G.v (V.eqI rfl rfl) rfl ?_
 refine G.m2 ?_
 refine G.nil ?_
 refine GC.condD rfl (fun h10 => ?_) (fun h10 => ?_)
 ·refine GC.seq ?_
  refine GC.reg ?_
  refine G.v (V.iaA (i := 1) Tryd.underlying98 Tryd.sizeOf5 rfl rfl (by decide)) rfl ?_
  refine G.v (V.ld (b := qb) (off := 0 + 1 * 1) (wf := true) (l := rbR a) (T := 98) (fz := (0, 0)) (v := .int .u8 0) Tryd.isAgg5 rfl (.tail _ (.head _)) rfl) rfl ?_
  refine G.v (V.iaA (i := 2) Tryd.underlying98 Tryd.sizeOf5 rfl rfl (by decide)) rfl ?_
  refine G.v (V.ld (b := qb) (off := 0 + 2 * 1) (wf := true) (l := rbR a) (T := 98) (fz := (0, 0)) (v := .int .u8 0) Tryd.isAgg5 rfl (.tail _ (.head _)) rfl) rfl ?_
  refine G.v (V.iaA (i := 3) Tryd.underlying98 Tryd.sizeOf5 rfl rfl (by decide)) rfl ?_
  refine G.v (V.ld (b := qb) (off := 0 + 3 * 1) (wf := true) (l := rbR a) (T := 98) (fz := (0, 0)) (v := .int .u8 0) Tryd.isAgg5 rfl (.tail _ (.head _)) rfl) rfl ?_
  refine G.v (V.bd (vs := [(0, .int .u8 0), (1, .int .u8 0), (2, .int .u8 0), (3, .int .u8 0)]) rfl (fun w1 => bd98_4 _ _ _ _ rfl rfl rfl rfl w1)) rfl ?_
  refine G.stA (cs := rbR 0) Tryd.sizeOf98 rfl rfl (rbR_one _) .z rfl ?_
  refine G.nil ?_
  refine GC.retC (cs := rbR 0) rfl Tryd.isAgg98 Tryd.sizeOf98 rfl (.head _) rfl fun w' hw' => ⟨?_, hw'.sub (List.nil_sublist _)⟩
  rw [if_neg (by omega)]
 refine GC.seq ?_
 refine GC.reg ?_
 refine G.v (V.eqI rfl rfl) rfl ?_
 refine G.m2 ?_
 refine G.nil ?_
 refine GC.condD rfl (fun h19 => ?_) (fun h19 => ?_)
 ·refine GC.seq ?_
  refine GC.reg ?_
  refine G.v (V.iaA (i := 2) Tryd.underlying98 Tryd.sizeOf5 rfl rfl (by decide)) rfl ?_
  refine G.v (V.ld (b := qb) (off := 0 + 2 * 1) (wf := true) (l := rbR a) (T := 98) (fz := (0, 0)) (v := .int .u8 0) Tryd.isAgg5 rfl (.tail _ (.head _)) rfl) rfl ?_
  refine G.v (V.iaA (i := 3) Tryd.underlying98 Tryd.sizeOf5 rfl rfl (by decide)) rfl ?_
  refine G.v (V.ld (b := qb) (off := 0 + 3 * 1) (wf := true) (l := rbR a) (T := 98) (fz := (0, 0)) (v := .int .u8 0) Tryd.isAgg5 rfl (.tail _ (.head _)) rfl) rfl ?_
  refine G.v (V.bd (vs := [(0, .int .u8 0), (1, .int .u8 0)]) rfl (fun w1 => bd98_2 _ _ rfl rfl w1)) rfl ?_
  refine G.stA (cs := rbR 0) Tryd.sizeOf98 rfl rfl (rbR_one _) .z rfl ?_
  refine G.nil ?_
  refine GC.retC (cs := rbR 0) rfl Tryd.isAgg98 Tryd.sizeOf98 rfl (.head _) rfl fun w' hw' => ⟨?_, hw'.sub (List.nil_sublist _)⟩
  rw [if_neg (by omega)]
 refine GC.seq ?_
 refine GC.reg ?_
 refine G.v (V.eqI rfl rfl) rfl ?_
 refine G.m2 ?_
 refine G.nil ?_
 refine GC.condD rfl (fun h26 => ?_) (fun h26 => ?_)
 ·refine GC.seq ?_
  refine GC.reg ?_
  refine G.v (V.iaA (i := 3) Tryd.underlying98 Tryd.sizeOf5 rfl rfl (by decide)) rfl ?_
  refine G.v (V.ld (b := qb) (off := 0 + 3 * 1) (wf := true) (l := rbR a) (T := 98) (fz := (0, 0)) (v := .int .u8 0) Tryd.isAgg5 rfl (.tail _ (.head _)) rfl) rfl ?_
  refine G.v (V.bd (vs := [(0, .int .u8 0)]) rfl (fun w1 => bd98_1 _ rfl w1)) rfl ?_
  refine G.stA (cs := rbR 0) Tryd.sizeOf98 rfl rfl (rbR_one _) .z rfl ?_
  refine G.nil ?_
  refine GC.retC (cs := rbR 0) rfl Tryd.isAgg98 Tryd.sizeOf98 rfl (.head _) rfl fun w' hw' => ⟨?_, hw'.sub (List.nil_sublist _)⟩
  rw [if_neg (by omega)]
 refine GC.seq ?_
 refine GC.reg ?_
 refine G.v (V.bd (vs := []) rfl (fun w1 => bd98 w1)) rfl ?_
 refine G.stA (cs := rbR 0) Tryd.sizeOf98 rfl rfl (rbR_one _) .z rfl ?_
 refine G.nil ?_
 refine GC.retC (cs := rbR 0) rfl Tryd.isAgg98 Tryd.sizeOf98 rfl (.head _) rfl fun w' hw' => ⟨?_, hw'.sub (List.nil_sublist _)⟩
 rw [if_neg (by omega)]
theorem low_wrap (r : Nat) (h : r < 128) : IntKind.u32.wrap (r : Int) = (r : Int) ∧ IntKind.u8.wrap (r : Int) = (r : Int) := by
 constructor <;> simp [IntKind.wrap, IntKind.bits, IntKind.signed] <;> omega
theorem c75_any (w : World) (D : Nat → Prop) {qb : Nat} {a x : UInt8} {H : SH} (hx : x.toNat < 128) (hH : HF w D (⟨qb, true, .row (rbR a) 98 (0, 0)⟩ :: H) w) : Calls Tryd.prog 75 #[.slice (some ⟨qb, 0, none⟩) 4 4, .int .i32 (x.toNat : Int)] w fun e w' => e = .returned (I 1) ∧ HF w D (⟨qb, true, .row (rbR x) 98 (0, 0)⟩ :: H) w' := by
 refine enter D (⟨qb, true, .row (rbR a) 98 (0, 0)⟩ :: H) Tryd.func75 rfl Tryd.ntmps75 rfl rfl hH fun c hc => ?_
 subst hc
 refine GC.seq ?_
 refine GC.reg ?_
 refine G.m2 ?_
 refine G.nil ?_
 refine GC.seq ?_
 refine GC.seq ?_
 refine GC.reg ?_
 refine G.m1 ?_
 refine G.v (V.cvW (i := (x.toNat : Int)) Tryd.underlying21 Tryd.underlying89 rfl (low_wrap _ hx).1) rfl ?_
 refine G.v (V.le rfl rfl) rfl ?_
 refine G.nil ?_
 refine GC.condD rfl (fun h7 => ?_) (fun h7 => absurd h7 (by omega))
 refine GC.seq ?_
 refine GC.reg ?_
 refine G.m1 ?_
 refine G.m1 ?_
 refine G.v (V.cvW (i := (x.toNat : Int)) Tryd.underlying21 Tryd.underlying5 rfl (low_wrap _ hx).2) rfl ?_
 refine G.v (V.ia (i := 0) Tryd.underlying44 Tryd.sizeOf5 rfl rfl (by decide)) rfl ?_
 refine G.st (b := qb) (off := 0 + 0 * 1) (l := rbR a) (T := 98) (fz := (0, 0)) (v := .int .u8 (x.toNat : Int)) Tryd.sizeOf5 rfl rfl rfl .z rfl rfl ?_
 refine G.nil ?_
 refine GC.seq ?_
 refine GC.reg ?_
 refine G.m2 ?_
 refine G.nil ?_
 exact GC.ret1 rfl rfl fun w' hw' => ⟨rfl, hw'⟩
theorem f72_low (w : World) (x : UInt8) (hx : x.toNat < 128) : Calls Tryd.prog 72 #[.int .u8 (x.toNat : Int)] w fun e w' => e = .returned (.bool true) ∧ HF w (fun _ => False) [] w' := by
 refine (Tryd.utf8_RuneStart (x.toNat : Int) w (by omega) (by omega)).mono fun e w' ⟨h1, h2⟩ => ?_
 subst h2
 refine ⟨?_, HF.start _ _⟩
 rw [h1]
 have : Lib.runeStart (x.toNat : Int) = true := by simp [Lib.runeStart]; omega
 rw [this]
theorem f73_low (w : World) (q : List UInt8) (x : UInt8) (h0 : q[0]? = some x) (hx : x.toNat < 128) : Calls Tryd.prog 73 #[S q] w fun e w' => e = .returned (.tuple #[.int .i32 (x.toNat : Int), I 1]) ∧ HF w (fun _ => False) [] w' := by
 refine (Tryd.utf8_DecodeRuneInString_ascii ⟨q.toArray⟩ x w h0 hx).mono fun e w' ⟨h1, h2⟩ => ?_
 subst h2
 exact ⟨h1, HF.start _ _⟩
theorem f74_low (w : World) (x : UInt8) (hx : x.toNat < 128) : Calls Tryd.prog 74 #[.int .i32 (x.toNat : Int)] w fun e w' => e = .returned (.int .i32 ((lo x).toNat : Int)) ∧ HF w (fun _ => False) [] w' := by
 refine (Tryd.unicode_ToLower (x.toNat : Int) w (by omega)).mono fun e w' ⟨h1, h2⟩ => ?_
 subst h2
 refine ⟨?_, HF.start _ _⟩
 rw [h1, lo_nat]
 have : Lib.toLowerR (x.toNat : Int) = ((if 65 ≤ x.toNat ∧ x.toNat ≤ 90 then x.toNat + 32 else x.toNat : Nat) : Int) := by
  unfold Lib.toLowerR
  split <;> split <;> omega
 rw [this]
theorem f76_low (w : World) (x : UInt8) (hx : x.toNat < 128) : Calls Tryd.prog 76 #[.int .i32 (x.toNat : Int)] w fun e w' => e = .returned (.int .i32 ((up x).toNat : Int)) ∧ HF w (fun _ => False) [] w' := by
 refine (Tryd.unicode_ToUpper (x.toNat : Int) w (by omega)).mono fun e w' ⟨h1, h2⟩ => ?_
 subst h2
 refine ⟨?_, HF.start _ _⟩
 rw [h1, up_nat]
 have : Lib.toUpperR (x.toNat : Int) = ((if 97 ≤ x.toNat ∧ x.toNat ≤ 122 then x.toNat - 32 else x.toNat : Nat) : Int) := by
  unfold Lib.toUpperR
  split <;> split <;> omega
 rw [this]
theorem lo_low {x : UInt8} (hx : x.toNat < 128) : (lo x).toNat < 128 := by
 rw [lo_nat]; split <;> omega
theorem up_low {x : UInt8} (hx : x.toNat < 128) : (up x).toNat < 128 := by
 rw [up_nat]; split <;> omega
end Go.Proofs

/- findCaseInsensitivePathRec: what its memory holds, the head of its loop. Printed by wip/mk_hv2.py. -/
set_option maxRecDepth 20000
namespace Go.Proofs
open Go Bw
open Gt
/-- handlers as a value; their row lies in Ht -/
def HVX (Ht : SH) (h : Option Nat) (hv : Value) : Prop := (h = none ∧ hv = .slice none 0 0) ∨ ∃ k hb, h = some k ∧ hv = .slice (some ⟨hb, 0, none⟩) 1 1 ∧ (⟨hb, true, .row [I (k : Int)] 3 (0, 0)⟩ : Ent) ∈ Ht
/-- a tree that can be read; copies of nodes lie in Cs -/
inductive Rd (Ht : SH) : T0 → Nat → Prop
 | mk {path idx : List UInt8} {wild : Bool} {nt pr : Nat} {h : Option Nat} {full : List UInt8} {kids : List T0} {nb : Nat} {bs : List Nat} {kv hv : Value} {Hs : SH}
   (hm : (⟨nb, true, .row (nodeR path idx wild nt pr kv hv full) 94 (0, 0)⟩ : Ent) ∈ Ht) (hs : Own 83 1 kv kids.length (bs.map (Pt · 0)) Hs) (hsm : ∀ e ∈ Hs, e ∈ Ht) (hbl : bs.length = kids.length) (hh : HVX Ht h hv)
   (hk : ∀ (j : Nat) k b, kids[j]? = some k → bs[j]? = some b → Rd Ht k b) : Rd Ht (.node () path idx wild nt pr h full kids) nb
theorem HV.x {Ht h v H} (x : HV h v H) (hs : ∀ e ∈ H, e ∈ Ht) : HVX Ht h v := by
 cases x with
 | nil => exact .inl ⟨rfl, rfl⟩
 | row => exact .inr ⟨_, _, rfl, rfl, hs _ (.head _)⟩
theorem HT.rd {t b H} (x : HT t b H) : ∀ {Ht : SH}, (∀ e ∈ H, e ∈ Ht) → Rd Ht t b := by
 refine HT.rec (motive_1 := fun t b H _ => ∀ {Ht : SH}, (∀ e ∈ H, e ∈ Ht) → Rd Ht t b) (motive_2 := fun ts bs H _ => ∀ {Ht : SH}, (∀ e ∈ H, e ∈ Ht) → ∀ (j : Nat) k b, ts[j]? = some k → bs[j]? = some b → Rd Ht k b) ?_ ?_ ?_ x
 ·intro path idx wild nt pr h full kids nb bs kv hv Hs Hh Hk hs hh hk ih Ht hsub
  exact .mk (hsub _ (.head _)) hs (fun e he => hsub e (.tail _ (List.mem_append_left _ he))) hk.len (hh.x fun e he => hsub e (.tail _ (List.mem_append_right _ (List.mem_append_left _ he))))
   (ih fun e he => hsub e (.tail _ (List.mem_append_right _ (List.mem_append_right _ he))))
 ·intro Ht _ j k b hj
  simp at hj
 ·intro t b H ts bs Hs h hs ih1 ih2 Ht hsub j k b2 hj hb
  cases j with
  | zero => simp at hj hb; subst hj hb; exact ih1 fun e he => hsub e (List.mem_append_left _ he)
  | succ j => exact ih2 (fun e he => hsub e (List.mem_append_right _ he)) j k b2 (by simpa using hj) (by simpa using hb)
theorem HVX.slice {Ht h v} (x : HVX Ht h v) : ∃ ad l c, v = .slice ad l c ∧ ad.isNone = h.isNone := by
 rcases x with ⟨rfl, rfl⟩ | ⟨k, hb, rfl, rfl, _⟩
 ·exact ⟨_, _, _, rfl, rfl⟩
 ·exact ⟨_, _, _, rfl, rfl⟩
theorem foldEq_lo (x y : UInt8) : Lib.foldEq x y = decide (lo x = lo y) := by
 unfold Lib.foldEq
 refine decide_eq_decide.2 ?_
 rw [← UInt8.toNat_inj, lo_nat, lo_nat]
 (repeat' split) <;> omega
theorem equalFold_Ef : ∀ a b : List UInt8, Lib.equalFold a b = Ef a b
 | [], [] => by simp [Lib.equalFold, Ef]
 | [], _ :: _ => by simp [Lib.equalFold, Ef]
 | _ :: _, [] => by simp [Lib.equalFold, Ef]
 | x :: a, y :: b => by
  have h := equalFold_Ef a b
  simp only [Lib.equalFold, foldEq_lo, h, Ef, List.map_cons, List.cons.injEq, Bool.decide_and]
/-- how EqualFold answers: for texts whose second one's bytes are of Q -/
def EqC (E : List UInt8 → List UInt8 → Bool) (Q : UInt8 → Prop) : Prop := ∀ (a b : List UInt8) (w : World), (∀ x ∈ a, x.toNat < 128) → (∀ x ∈ b, Q x) → a.length ≤ 100000 → Calls Tryd.prog 70 #[S a, S b] w fun e w' => e = .returned (.bool (E a b)) ∧ HF w (fun _ => False) [] w'
theorem eqC_low : EqC Ef fun x => x.toNat < 128 := fun a b w ha hb hl => by
 refine (Tryd.strings_EqualFold ⟨a.toArray⟩ ⟨b.toArray⟩ w (by show a.toArray.size < _; rw [List.size_toArray]; omega) (fun j x hj => ha x (List.mem_of_getElem? hj)) (fun j x hj => hb x (List.mem_of_getElem? hj))).mono fun e w' ⟨h1, h2⟩ => ?_
 subst h2
 refine ⟨?_, HF.start _ _⟩
 rw [h1]
 exact congrArg (fun b => Ending.returned (.bool b)) (equalFold_Ef a b)
/-- what is told, as a slice of the room -/
def outV (bb cp : Nat) : Option (List UInt8) → Value
 | some o => .slice (some ⟨bb, 0, none⟩) o.length cp
 | none => .slice none 0 0
/-- what the room holds then -/
def tkO (cur : List UInt8) (r : Option (List UInt8)) (bl : List UInt8) : Prop := bl.take (r.getD cur).length = r.getD cur
/-- the loop of findCaseInsensitivePathRec -/
noncomputable def K59 : List Item := (splitLoop ((Tryd.f59.body).getD .skip) []).getD []
/-- the loop at a place, told -/
def LpC (R : Ending → World → Prop) (w : World) (D : Nat → Prop) (qb bb cp : Nat) (Ht : SH) (n : T0) (p : List UInt8) (rb : UInt8) (cur : List UInt8) : Prop :=
 ∀ (nb : Nat) (bl : List UInt8) (fr : SF), Rd Ht n nb → bl.length = cp → bl.take cur.length = cur →
  Sub [(0, Pt nb 0), (1, S p), (2, .slice (some ⟨bb, 0, none⟩) cur.length cp), (4, .bool false), (8, Pt qb 0), (11, I (n.path.length : Nat))] fr →
  GC Tryd.prog ⟨59, Tryd.f59, R, w, D⟩ 606 K59 fr (⟨qb, true, .row (rbR rb) 98 (0, 0)⟩ :: ⟨bb, true, .row (bC bl) 5 (0, 0)⟩ :: Ht)
/-- what is told of an end -/
def Fin59 (R : Ending → World → Prop) (w : World) (D : Nat → Prop) (bb cp : Nat) (Ht : SH) (c0 : List UInt8) (r : Option (List UInt8)) : Prop :=
 ∀ (bl : List UInt8) (w' : World), bl.length = cp → tkO c0 r bl → HF w D (⟨bb, true, .row (bC bl) 5 (0, 0)⟩ :: Ht) w' → R (.returned (outV bb cp r)) w'
/-- a call of findCaseInsensitivePathRec, told -/
def Rec59 (bb cp : Nat) (Ht : SH) (n : T0) (p : List UInt8) (x : UInt8) (cur : List UInt8) (r : Option (List UInt8)) : Prop :=
 ∀ (w : World) (D : Nat → Prop) (nb : Nat) (bl : List UInt8), Rd Ht n nb → bl.length = cp → bl.take cur.length = cur → HF w D (⟨bb, true, .row (bC bl) 5 (0, 0)⟩ :: Ht) w →
  Calls Tryd.prog 59 #[Pt nb 0, S p, .slice (some ⟨bb, 0, none⟩) cur.length cp, .agg (rbR x).toArray, .bool false] w fun e w' => ∃ bl', e = .returned (outV bb cp r) ∧ bl'.length = cp ∧ tkO cur r bl' ∧ HF w D (⟨bb, true, .row (bC bl') 5 (0, 0)⟩ :: Ht) w'
theorem Rd.has {Ht t b} (x : Rd Ht t b) : ∃ l, (⟨b, true, .row l 94 (0, 0)⟩ : Ent) ∈ Ht ∧ nth l (0 + 0) = some (S t.path) := by
 cases x with
 | mk hm => exact ⟨_, hm, rfl⟩
theorem neL_out {P : Program} {c : Cx} {n : Nat} {fr : SF} {H : SH} {ty t u e : TypeId} {x : Operand} {bb cp : Nat} {r : Option (List UInt8)} (hU : P.underlying t = some (.slice e)) (hx : ev fr x = some (outV bb cp r)) : Val P c n (.binOp .neq t x (.const (.slice none 0 0)) u) ty fr H (.bool r.isSome) := by
 cases r with
 | none => exact V.neL hU hx
 | some o => exact V.neL hU hx
def cA59 : List Item → List Item
 | .code (.seq _ (.block id (.seq _ (.seq _ (.seq _ x))))) :: k => .code x :: .inBlock id :: k
 | k => k
/-- behind the node's text -/
noncomputable def K59a : List Item := cA59 K59
def cB59 : List Item → List Item
 | .code (.seq _ x) :: k => .code x :: k
 | k => k
/-- the path goes on -/
noncomputable def K59b : List Item := cB59 K59a
theorem tk_pre {bl c0 cur : List UInt8} (h : bl.take cur.length = cur) (hp : c0 <+: cur) : bl.take c0.length = c0 := by
 obtain ⟨x, rfl⟩ := hp
 have h2 := congrArg (List.take c0.length) h
 rw [List.take_left, List.take_take, Nat.min_eq_left (by simp)] at h2
 exact h2
theorem tk_app {bl cur s : List UInt8} (h : bl.take cur.length = cur) (hl : cur.length + s.length ≤ bl.length) : (bl.take cur.length ++ s ++ bl.drop (cur.length + s.length)).length = bl.length ∧ (bl.take cur.length ++ s ++ bl.drop (cur.length + s.length)).take (cur ++ s).length = cur ++ s := by
 constructor
 ·simp; omega
 ·rw [h, List.take_left]
theorem g59_head {E : List UInt8 → List UInt8 → Bool} {Q : UInt8 → Prop} (hE : EqC E Q) {R : Ending → World → Prop} {w : World} {D : Nat → Prop} {qb bb cp : Nat} {Ht : SH} {c0 : List UInt8} {n : T0} {p cur bl : List UInt8} {rb : UInt8} {nb : Nat} {fr : SF}
  (hn : Rd Ht n nb) (hbl : bl.length = cp) (hbt : bl.take cur.length = cur) (_hp0 : p ≠ []) (hpa : ∀ x ∈ p, x.toNat < 128) (hpl : p.length ≤ 100000) (hroom : cur.length + p.length + 1 ≤ cp) (_hcp : cp ≤ 1000000) (hsub : Sub [(0, Pt nb 0), (1, S p), (2, .slice (some ⟨bb, 0, none⟩) cur.length cp), (4, .bool false), (8, Pt qb 0), (11, I (n.path.length : Nat))] fr) (hq : ∀ x ∈ n.path, Q x) (hnl : n.path.length ≤ 100000)
  (ga : n.path.length ≤ p.length → (n.path.length = 0 ∨ E ((p.take n.path.length).drop 1) (n.path.drop 1) = true) → ∀ bl' fr', bl'.length = cp → bl'.take (cur ++ n.path).length = cur ++ n.path → Sub [(0, Pt nb 0), (1, S (p.drop n.path.length)), (2, .slice (some ⟨bb, 0, none⟩) (cur ++ n.path).length cp), (4, .bool false), (8, Pt qb 0), (11, I (n.path.length : Nat)), (12, S p)] fr' → GC Tryd.prog ⟨59, Tryd.f59, R, w, D⟩ 606 K59a fr' (⟨qb, true, .row (rbR rb) 98 (0, 0)⟩ :: ⟨bb, true, .row (bC bl') 5 (0, 0)⟩ :: Ht))
  (gm : ¬ (n.path.length ≤ p.length ∧ (n.path.length = 0 ∨ E ((p.take n.path.length).drop 1) (n.path.drop 1) = true)) → c0 <+: cur → Fin59 R w D bb cp Ht c0 none) (hc0 : c0 <+: cur) :
  GC Tryd.prog ⟨59, Tryd.f59, R, w, D⟩ 606 K59 fr (⟨qb, true, .row (rbR rb) 98 (0, 0)⟩ :: ⟨bb, true, .row (bC bl) 5 (0, 0)⟩ :: Ht) := by
 refine GC.weak hsub ?_
 clear hsub
 cases hn with
 | @mk path idx wild nt pr h full kids _ bs kv hv Hs hm hs hsm hbl2 hh hk =>
 simp only [n_path] at *
 refine GC.seq ?_
 refine GC.seq ?_
 refine GC.join (fun fr' H' => Sub [(0, Pt nb 0), (1, S p), (2, .slice (some ⟨bb, 0, none⟩) cur.length cp), (4, .bool false), (8, Pt qb 0), (11, I (path.length : Nat)), (73, .bool (decide (path.length ≤ p.length ∧ (path.length = 0 ∨ E ((p.take path.length).drop 1) (path.drop 1) = true))))] fr' ∧ H' = (⟨qb, true, .row (rbR rb) 98 (0, 0)⟩ :: ⟨bb, true, .row (bC bl) 5 (0, 0)⟩ :: Ht)) (fun J2 => ?_) ?_
 ·refine GC.regQ mixed (by kernel_rfl) ?_
  refine GQ.v (V.mv rfl) rfl ?_
  refine GQ.v (V.lenS Tryd.underlying9 rfl) rfl ?_
  refine GQ.v (V.mv rfl) rfl ?_
  refine GQ.v (V.ge rfl rfl) rfl ?_
  refine GQ.v (V.mv rfl) rfl ?_
  refine GQ.bc 59 rfl (fun h59 => ?_) (fun h59 => ?_)
  ·refine GQ.vg rfl rfl (V.mv rfl) rfl ?_
   refine GQ.vg rfl rfl (V.eqI rfl rfl) rfl ?_
   refine GQ.vg rfl rfl (V.mv rfl) rfl ?_
   refine GQ.bc 62 rfl (fun h62 => ?_) (fun h62 => ?_)
   ·refine GQ.sg rfl rfl rfl rfl rfl rfl ?_
    refine GQ.sg rfl rfl rfl rfl rfl rfl ?_
    refine GQ.sg rfl rfl rfl rfl rfl rfl ?_
    refine GQ.sg rfl rfl rfl rfl rfl rfl ?_
    refine GQ.sg rfl rfl rfl rfl rfl rfl ?_
    refine GQ.sg rfl rfl rfl rfl rfl rfl ?_
    refine GQ.sg rfl rfl rfl rfl rfl rfl ?_
    refine GQ.sg rfl rfl rfl rfl rfl rfl ?_
    refine GQ.sg rfl rfl rfl rfl rfl rfl ?_
    refine GQ.vg rfl rfl (V.pickT rfl rfl) rfl ?_
    refine GQ.v (V.pickT rfl rfl) rfl ?_
    refine GQ.nil ?_
    refine J2 _ _ ⟨.cons rfl (.cons rfl (.cons rfl (.cons rfl (.cons rfl (.cons rfl (.cons (rfl.trans (congrArg (fun b => some (Value.bool b)) ?_)) .nil)))))), rfl⟩
    have h1 := of_decide_eq_true h59
    have h2 := of_decide_eq_true h62
    exact (decide_eq_true ⟨by omega, .inl (by omega)⟩).symm
   ·refine GQ.vg rfl rfl (V.mv rfl) rfl ?_
    refine GQ.vg rfl rfl (V.mv rfl) rfl ?_
    refine GQ.vg rfl rfl (V.slLH (i := 1) (j := path.length) Tryd.underlying9 rfl rfl rfl (by have := of_decide_eq_false h62; omega) (by have := of_decide_eq_true h59; omega)) rfl ?_
    refine GQ.vg rfl rfl (V.mv rfl) rfl ?_
    refine GQ.vg rfl rfl (V.nc rfl) rfl ?_
    refine GQ.vg rfl rfl (V.fa F94_0 rfl) rfl ?_
    refine GQ.vg rfl rfl (V.ld (b := nb) (off := 0 + 0) (wf := true) (l := nodeR path idx wild nt pr kv hv full) (T := 94) (fz := (0, 0)) (v := S path) Tryd.isAgg9 rfl (m2 hm) rfl) rfl ?_
    refine GQ.vg rfl rfl (V.slL (i := 1) Tryd.underlying9 rfl rfl (by have := of_decide_eq_false h62; omega)) rfl ?_
    refine GQ.callPg (v := .bool (E ((p.take path.length).drop 1) (path.drop 1))) Tryd.call70 rfl rfl rfl rfl (fun w1 _ => hE _ _ w1 (fun x hx => hpa x (List.mem_of_mem_take (List.mem_of_mem_drop hx))) (fun x hx => hq x (List.mem_of_mem_drop hx)) (by simp; omega)) ?_
    refine GQ.vg rfl rfl (V.pickF rfl rfl) rfl ?_
    refine GQ.v (V.pickT rfl rfl) rfl ?_
    refine GQ.nil ?_
    refine J2 _ _ ⟨.cons rfl (.cons rfl (.cons rfl (.cons rfl (.cons rfl (.cons rfl (.cons (rfl.trans (congrArg (fun b => some (Value.bool b)) ?_)) .nil)))))), rfl⟩
    have h1 := of_decide_eq_true h59
    have h2 := of_decide_eq_false h62
    exact Bool.eq_iff_iff.2 ⟨fun h => decide_eq_true ⟨by omega, .inr h⟩, fun h => (of_decide_eq_true h).2.resolve_left (by omega)⟩
  ·refine GQ.sg rfl rfl rfl rfl rfl rfl ?_
   refine GQ.sg rfl rfl rfl rfl rfl rfl ?_
   refine GQ.sg rfl rfl rfl rfl rfl rfl ?_
   refine GQ.sgU rfl rfl rfl rfl rfl ?_
   refine GQ.sgU rfl rfl rfl rfl rfl ?_
   refine GQ.sgU rfl rfl rfl rfl rfl ?_
   refine GQ.sgU rfl rfl rfl rfl rfl ?_
   refine GQ.sgU rfl rfl rfl rfl rfl ?_
   refine GQ.sgU rfl rfl rfl rfl rfl ?_
   refine GQ.sgU rfl rfl rfl rfl rfl ?_
   refine GQ.sgU rfl rfl rfl rfl rfl ?_
   refine GQ.sgU rfl rfl rfl rfl rfl ?_
   refine GQ.sg rfl rfl rfl rfl rfl rfl ?_
   refine GQ.v (V.pickF rfl rfl) rfl ?_
   refine GQ.nil ?_
   refine J2 _ _ ⟨.cons rfl (.cons rfl (.cons rfl (.cons rfl (.cons rfl (.cons rfl (.cons (rfl.trans (congrArg (fun b => some (Value.bool b)) ?_)) .nil)))))), rfl⟩
   have h1 := of_decide_eq_false h59
   exact (decide_eq_false fun h => h1 (by have := h.1; omega)).symm
 rintro fr' H' ⟨hs2, rfl⟩
 refine GC.weak hs2 ?_
 clear hs2
 refine GC.cond rfl (fun h73 => ?_) (fun h73 => ?_)
 ·refine GC.skip ?_
  refine GC.block ?_
  refine GC.seq ?_
  have h73 := of_decide_eq_true h73
  refine GC.reg ?_
  refine G.m1 ?_
  refine G.m2 ?_
  refine G.nil ?_
  refine GC.seq ?_
  refine GC.reg ?_
  refine G.m1 ?_
  refine G.m1 ?_
  refine G.v (V.slL (i := path.length) Tryd.underlying9 rfl rfl h73.1) rfl ?_
  refine G.m2 ?_
  refine G.nil ?_
  refine GC.seq ?_
  refine GC.reg ?_
  refine G.m1 ?_
  refine G.m1 ?_
  refine G.v (V.nc rfl) rfl ?_
  refine G.v (V.fa F94_0 rfl) rfl ?_
  refine G.v (V.ld (b := nb) (off := 0 + 0) (wf := true) (l := nodeR path idx wild nt pr kv hv full) (T := 94) (fz := (0, 0)) (v := S path) Tryd.isAgg9 rfl (m2 hm) rfl) rfl ?_
  refine G.appS (i := 1) (l := bl) (ie := Tryd.t5) Tryd.underlying44 Tryd.underlying9 rfl rfl rfl rfl (.s .z) (by have := h73.1; omega) (by have := h73.1; omega) rfl ?_
  refine G.m2 ?_
  refine G.nil ?_
  have hta := tk_app (s := path) hbt (by have := h73.1; omega)
  exact ga h73.1 h73.2 _ _ (hta.1.trans hbl) hta.2 (by rw [List.length_append]; exact .of rfl)
 refine GC.exit rfl ?_
 refine GC.seq ?_
 refine GC.seq ?_
 refine GC.reg ?_
 refine G.m1 ?_
 refine G.nil ?_
 refine GC.condF rfl ?_
 refine GC.skip ?_
 refine GC.seq ?_
 have h73 := of_decide_eq_false h73
 refine GC.reg ?_
 refine G.m2 ?_
 refine G.nil ?_
 exact GC.ret1 rfl rfl fun w' hw' => gm h73 hc0 bl w' hbl (tk_pre hbt hc0) (hw'.sub (List.sublist_cons_self _ _))
end Go.Proofs

/- The trees' strings are not long. -/
set_option maxRecDepth 20000
namespace Go.Proofs
open Go Bw Gt Gs Tr
/-- the tree's strings are not long -/
inductive Ln : T0 → Prop
 | mk {path idx : List UInt8} {wild : Bool} {nt pr : Nat} {h : Option Nat} {full : List UInt8} {kids : List T0} (hp : path.length ≤ 100000) (hi : idx.length ≤ 100000) (hf : full.length ≤ 100000) (hn : kids.length ≤ 100000) (hk : ∀ k ∈ kids, Ln k) : Ln (.node () path idx wild nt pr h full kids)
theorem nodup_257 {idx : List UInt8} {wild : Bool} (h : idx.Nodup) : idx.length + wild.toNat ≤ 100000 ∧ idx.length ≤ 100000 := by
 have := nodup_256 h
 cases wild <;> simp <;> omega
theorem Rep.ln {t : T0} (hn : NB t) : ∀ (b : Bool) (f : F), Rep b t f → Ln t := by
 induction hn with
 | @mk path idx wild nt pr h full kids hp hi hf hk ih =>
  intro b f hr
  have l1 := hp.1
  have l2 := hf.1
  cases hr with
  | st wn wk hp2 hnt hpre hh hnd hpl hlen hk2 hkn hne hno hw hwr hnw hA hmin =>
   refine .mk (by omega) (nodup_257 (wild := true) hnd).2 (by omega) (by rw [hlen]; exact (nodup_257 hnd).1) fun k hkm => ?_
   obtain ⟨j, hj⟩ := List.getElem?_of_mem hkm
   have hjl := (List.getElem?_eq_some_iff.1 hj).1
   rcases Nat.lt_or_ge j idx.length with h | h
   ·exact ih k hkm _ _ (hk2 j _ k (List.getElem?_eq_getElem h) hj)
   ·cases wild with
    | false => simp at hlen; omega
    | true =>
     simp at hlen
     have e : j = idx.length := by omega
     subst e
     rw [(hw rfl).1] at hj
     cases hj
     exact ih _ hkm _ _ (hwr rfl)
  | pa => exact .mk (by omega) (by simp) (by omega) (by simp) (by simp)
  | pk hh hidx hk2 =>
   refine .mk (by omega) (by rcases hidx with rfl | rfl <;> simp) (by omega) (by simp) fun k hkm => ?_
   rw [List.mem_singleton.1 hkm]
   exact ih _ (.head _) _ _ hk2
  | ca =>
   refine .mk (by simp) (by simp) (by omega) (by simp) fun k hkm => ?_
   rw [List.mem_singleton.1 hkm]
   cases hk _ (.head _) with
   | mk c1 c2 c3 c4 =>
    have l3 := c1.1
    have l4 := c3.1
    exact .mk (by omega) (by simp) (by omega) (by simp) (by simp)
end Go.Proofs

/- findCaseInsensitivePathRec: the path's end, the rune that is read. Printed by wip/mk_hv3.py. -/
set_option maxRecDepth 20000
namespace Go.Proofs
open Go Bw
open Gt
/-- what a node's lists are no longer than -/
def Lk (n : T0) : Prop := n.idx.length ≤ 100000 ∧ n.kids.length ≤ 100000 ∧ ∀ k ∈ n.kids, Ln k
theorem Ln.lk {n : T0} (h : Ln n) : Lk n := by
 cases h with
 | mk hp hi hf hn hk => exact ⟨hi, hn, hk⟩
def toT : List Item → List Item
 | .code (.seq (.seq _ (.cond _ t _)) z) :: k => .code t :: .code z :: k
 | k => k
/-- (no wildcard) behind the shift: a byte is kept -/
noncomputable def K59k : List Item := match toT K59b with
 | .code (.seq _ (.seq (.seq _ (.cond _ t _)) z)) :: k => .code t :: .code z :: k
 | k => k
/-- (no wildcard) ahead of the small letter's search -/
noncomputable def K59c : List Item := match toT K59b with
 | .code (.seq _ (.seq (.seq _ (.cond _ _ (.seq _ (.seq _ (.seq _ (.seq _ (.seq _ (.seq _ (.seq _ x))))))))) z)) :: k => .code x :: .code z :: k
 | k => k
def dropC : List Item → List Item
 | .code (.seq _ x) :: k => .code x :: k
 | k => k
/-- (no wildcard) behind the small letter's search -/
noncomputable def K59d : List Item := dropC K59c
/-- with a wildcard -/
noncomputable def K59w : List Item := dropC K59b
/-- (a wildcard) the kids by index are through -/
noncomputable def K59v : List Item := dropC K59w
/-- (a wildcard) behind the shift: a byte is kept -/
noncomputable def K59l : List Item := match K59w with
 | .code (.seq (.seq _ (.cond _ (.seq _ (.seq _ (.cond _ t _))) _)) z) :: k => .code t :: .code z :: k
 | k => k
/-- (a wildcard) ahead of the small letter's search -/
noncomputable def K59e : List Item := match K59w with
 | .code (.seq (.seq _ (.cond _ (.seq _ (.seq _ (.cond _ _ (.seq _ (.seq _ (.seq _ (.seq _ (.seq _ (.seq _ (.seq _ x)))))))))) _)) z) :: k => .code x :: .code z :: k
 | k => k
/-- (a wildcard) behind the small letter's search -/
noncomputable def K59f : List Item := dropC K59e
theorem runeK_low {P q : List UInt8} (h : ∀ x ∈ q, x.toNat < 128) : (runeK P q).toNat < 128 := by
 unfold runeK
 split
 ·decide
 ·cases q with
  | nil => decide
  | cons a q => exact h a (.head _)
theorem g59_a {R : Ending → World → Prop} {w : World} {D : Nat → Prop} {qb bb cp : Nat} {Ht : SH} {c0 : List UInt8} {n : T0} {p cu bl : List UInt8} {rb : UInt8} {nb : Nat} {fr : SF}
  (hn : Rd Ht n nb) (hbl : bl.length = cp) (hbt : bl.take cu.length = cu) (_hpa : ∀ x ∈ p, x.toNat < 128) (_hpl : p.length ≤ 100000) (hLp : n.path.length ≤ p.length) (hnL : Lk n) (hc0 : c0 <+: cu) (_hHw : ∀ e ∈ Ht, e.w = true) (hsub : Sub [(0, Pt nb 0), (1, S (p.drop n.path.length)), (2, .slice (some ⟨bb, 0, none⟩) cu.length cp), (4, .bool false), (8, Pt qb 0), (11, I (n.path.length : Nat)), (12, S p)] fr) 
  (ge1 : (p.drop n.path.length) = [] → n.h.isSome = true → Fin59 R w D bb cp Ht c0 (some cu)) (ge0 : (p.drop n.path.length) = [] → n.h.isSome = false → Fin59 R w D bb cp Ht c0 none) (gb : (p.drop n.path.length) ≠ [] → ∀ fr', Sub [(0, Pt nb 0), (1, S (p.drop n.path.length)), (2, .slice (some ⟨bb, 0, none⟩) cu.length cp), (4, .bool false), (8, Pt qb 0), (11, I (n.path.length : Nat)), (12, S p)] fr' → GC Tryd.prog ⟨59, Tryd.f59, R, w, D⟩ 606 K59b fr' (⟨qb, true, .row (rbR rb) 98 (0, 0)⟩ :: ⟨bb, true, .row (bC bl) 5 (0, 0)⟩ :: Ht)) :
  GC Tryd.prog ⟨59, Tryd.f59, R, w, D⟩ 606 K59a fr (⟨qb, true, .row (rbR rb) 98 (0, 0)⟩ :: ⟨bb, true, .row (bC bl) 5 (0, 0)⟩ :: Ht) := by
 refine GC.weak hsub ?_
 clear hsub
 have hn0 := hn
 cases hn with
 | @mk path idx wild nt pr h full kids _ bs kv hv Hs hm hs hsm hbl2 hh hk =>
 try simp only [n_path] at *
 try simp only [n_idx] at *
 try simp only [n_kids] at *
 try simp only [n_wild] at *
 try simp only [n_h] at *
 have hil : idx.length ≤ 100000 := hnL.1
 have hkil : kids.length ≤ 100000 := hnL.2.1
 obtain ⟨ad, cap, rfl⟩ := hs.slice
 obtain ⟨ad2, l2, c2, rfl, hnn⟩ := hh.slice
 refine GC.seq ?_
 refine GC.seq ?_
 refine GC.reg ?_
 refine G.m1 ?_
 refine G.v (V.lenS Tryd.underlying9 rfl) rfl ?_
 refine G.v (V.eqI rfl rfl) rfl ?_
 refine G.nil ?_
 refine GC.condD rfl (fun h86 => ?_) (fun h86 => ?_)
 ·refine GC.seq ?_
  refine GC.seq ?_
  have hq0 : (p.drop path.length) = [] := List.length_eq_zero_iff.1 (by omega)
  refine GC.reg ?_
  refine G.m1 ?_
  refine G.v (V.nc rfl) rfl ?_
  refine G.v (V.fa F94_6 rfl) rfl ?_
  refine G.v (V.ld (b := nb) (off := 0 + 6) (wf := true) (l := nodeR path idx wild nt pr (.slice ad kids.length cap) (.slice ad2 l2 c2) full) (T := 94) (fz := (0, 0)) (v := (.slice ad2 l2 c2)) Tryd.isAgg92 rfl (m2 hm) rfl) rfl ?_
  refine G.v (V.neL Tryd.underlying92 rfl) rfl ?_
  refine G.nil ?_
  refine GC.cond rfl (fun h91 => ?_) (fun h91 => ?_)
  ·refine GC.seq ?_
   refine GC.reg ?_
   refine G.m1 ?_
   refine G.m2 ?_
   refine G.nil ?_
   have hhs : h.isSome = true := by
    cases h with
    | none => rw [hnn] at h91; exact absurd h91 (by decide)
    | some k => rfl
   exact GC.ret1 rfl rfl fun w' hw' => ge1 hq0 hhs bl w' hbl hbt (hw'.sub (List.sublist_cons_self _ _))
  refine GC.skip ?_
  refine GC.seq ?_
  refine GC.seq ?_
  refine GC.reg ?_
  refine G.m1 ?_
  refine G.nil ?_
  refine GC.condF rfl ?_
  refine GC.skip ?_
  refine GC.seq ?_
  refine GC.reg ?_
  refine G.m2 ?_
  refine G.nil ?_
  have hhs : h.isSome = false := by
   cases h with
   | none => rfl
   | some k => rw [hnn] at h91; exact absurd h91 (by simp)
  exact GC.ret1 rfl rfl fun w' hw' => ge0 hq0 hhs bl w' hbl (tk_pre hbt hc0) (hw'.sub (List.sublist_cons_self _ _))
 refine GC.skip ?_
 exact gb (fun e => h86 (by rw [e]; rfl)) _ (.of rfl)
theorem g59_nw {R : Ending → World → Prop} {w : World} {D : Nat → Prop} {qb bb cp : Nat} {Ht : SH} {c0 : List UInt8} {n : T0} {p cu bl : List UInt8} {rb : UInt8} {nb : Nat} {fr : SF}
  (hn : Rd Ht n nb) (_hbl : bl.length = cp) (_hbt : bl.take cu.length = cu) (hpa : ∀ x ∈ p, x.toNat < 128) (hpl : p.length ≤ 100000) (hLp : n.path.length ≤ p.length) (hnL : Lk n) (_hc0 : c0 <+: cu) (_hHw : ∀ e ∈ Ht, e.w = true) (hsub : Sub [(0, Pt nb 0), (1, S (p.drop n.path.length)), (2, .slice (some ⟨bb, 0, none⟩) cu.length cp), (4, .bool false), (8, Pt qb 0), (11, I (n.path.length : Nat)), (12, S p)] fr) (hw : n.wild = false) (hq0 : (p.drop n.path.length) ≠ [])
  (gk : rbK n.path rb ≠ 0 → ∀ fr', Sub [(0, Pt nb 0), (1, S (p.drop n.path.length)), (2, .slice (some ⟨bb, 0, none⟩) cu.length cp), (4, .bool false), (8, Pt qb 0), (11, I (n.path.length : Nat)), (12, S p)] fr' → GC Tryd.prog ⟨59, Tryd.f59, R, w, D⟩ 606 K59k fr' (⟨qb, true, .row (rbR (rbK n.path rb)) 98 (0, 0)⟩ :: ⟨bb, true, .row (bC bl) 5 (0, 0)⟩ :: Ht))
  (gr : rbK n.path rb = 0 → ∀ fr', Sub [(0, Pt nb 0), (1, S (p.drop n.path.length)), (2, .slice (some ⟨bb, 0, none⟩) cu.length cp), (4, .bool false), (8, Pt qb 0), (11, I (n.path.length : Nat)), (12, S p), (18, .int .i32 ((runeK n.path (p.drop n.path.length)).toNat : Int)), (19, I (0 : Nat)), (22, .int .i32 ((lo (runeK n.path (p.drop n.path.length))).toNat : Int)), (23, .int .u8 ((lo (runeK n.path (p.drop n.path.length))).toNat : Int))] fr' → GC Tryd.prog ⟨59, Tryd.f59, R, w, D⟩ 606 K59c fr' (⟨qb, true, .row (rbR (lo (runeK n.path (p.drop n.path.length)))) 98 (0, 0)⟩ :: ⟨bb, true, .row (bC bl) 5 (0, 0)⟩ :: Ht)) :
  GC Tryd.prog ⟨59, Tryd.f59, R, w, D⟩ 606 K59b fr (⟨qb, true, .row (rbR rb) 98 (0, 0)⟩ :: ⟨bb, true, .row (bC bl) 5 (0, 0)⟩ :: Ht) := by
 refine GC.weak hsub ?_
 clear hsub
 have hn0 := hn
 cases hn with
 | @mk path idx wild nt pr h full kids _ bs kv hv Hs hm hs hsm hbl2 hh hk =>
 try simp only [n_path] at *
 try simp only [n_idx] at *
 try simp only [n_kids] at *
 try simp only [n_wild] at *
 try simp only [n_h] at *
 have hil : idx.length ≤ 100000 := hnL.1
 have hkil : kids.length ≤ 100000 := hnL.2.1
 obtain ⟨ad, cap, rfl⟩ := hs.slice
 obtain ⟨ad2, l2, c2, rfl, hnn⟩ := hh.slice
 refine GC.seq ?_
 refine GC.seq ?_
 refine GC.reg ?_
 refine G.m1 ?_
 refine G.v (V.nc rfl) rfl ?_
 refine G.v (V.fa F94_2 rfl) rfl ?_
 refine G.v (V.ld (b := nb) (off := 0 + 2) (wf := true) (l := nodeR path idx wild nt pr (.slice ad kids.length cap) (.slice ad2 l2 c2) full) (T := 94) (fz := (0, 0)) (v := .bool wild) Tryd.isAgg4 rfl (m2 hm) rfl) rfl ?_
 refine G.v (V.not rfl) rfl ?_
 refine G.nil ?_
 refine GC.cond rfl (fun h154 => ?_) (fun h154 => absurd hw (by simpa using h154))
 refine GC.seq ?_
 refine GC.reg ?_
 refine G.v (V.ldA (b := qb) (off := 0) (s := 4) (wf := true) (l := rbR rb) (T := 98) (fz := (0, 0)) (cs := rbR rb) Tryd.isAgg98 Tryd.sizeOf98 rfl (.head _) rfl rfl) rfl ?_
 refine G.m1 ?_
 refine G.callP (v := .agg (rbR (rbK path rb)).toArray) Tryd.call71 rfl rfl (fun w1 _ => c71_any w1 rb path.length) ?_
 refine G.stA (cs := rbR (rbK path rb)) Tryd.sizeOf98 rfl rfl (rbR_one _) .z rfl ?_
 refine G.nil ?_
 refine GC.turn (H' := (⟨qb, true, .row (rbR (rbK path rb)) 98 (0, 0)⟩ :: ⟨bb, true, .row (bC bl) 5 (0, 0)⟩ :: Ht)) (fun w1 h1 => h1) ?_
 refine GC.seq ?_
 refine GC.seq ?_
 refine GC.reg ?_
 refine G.v (V.iaA (i := 0) Tryd.underlying98 Tryd.sizeOf5 rfl rfl (by decide)) rfl ?_
 refine G.v (V.ld (b := qb) (off := 0 + 0 * 1) (wf := true) (l := rbR (rbK path rb)) (T := 98) (fz := (0, 0)) (v := .int .u8 ((rbK path rb).toNat : Int)) Tryd.isAgg5 rfl (.head _) rfl) rfl ?_
 refine G.v (V.neI rfl rfl) rfl ?_
 refine G.nil ?_
 refine GC.cond rfl (fun h160 => ?_) (fun h160 => ?_)
 ·exact gk (fun e => by rw [e] at h160; exact absurd h160 (by decide)) _ (.of rfl)
 refine GC.seq ?_
 have hrk0 : (rbK path rb) = 0 := UInt8.toNat_inj.1 (by have h := h160; simp at h; have e : (0 : UInt8).toNat = 0 := rfl; omega)
 refine GC.reg ?_
 refine G.m2 ?_
 refine G.nil ?_
 refine GC.seq ?_
 refine GC.reg ?_
 refine G.m2 ?_
 refine G.nil ?_
 refine GC.seq ?_
 refine GC.seq ?_
 refine GC.reg ?_
 refine G.m1 ?_
 refine G.v (V.minI (j := 3) rfl rfl) rfl ?_
 refine G.m2 ?_
 refine G.nil ?_
 refine GC.join (fun fr' H' => Sub [(0, Pt nb 0), (1, S (p.drop path.length)), (2, .slice (some ⟨bb, 0, none⟩) cu.length cp), (4, .bool false), (8, Pt qb 0), (11, I (path.length : Nat)), (12, S p), (18, .int .i32 ((runeK path (p.drop path.length)).toNat : Int)), (19, I (0 : Nat))] fr' ∧ H' = (⟨qb, true, .row (rbR (rbK path rb)) 98 (0, 0)⟩ :: ⟨bb, true, .row (bC bl) 5 (0, 0)⟩ :: Ht)) (fun JB => ?_) ?_
 ·refine GC.block ?_
  refine GC.loop ?_
  refine GC.seq ?_
  refine GC.seq ?_
  refine GC.reg ?_
  refine G.m1 ?_
  refine G.m1 ?_
  refine G.v (V.lt rfl rfl) rfl ?_
  refine G.nil ?_
  refine GC.condD rfl (fun h194 => ?_) (fun h194 => ?_)
  ·refine GC.skip ?_
   refine GC.seq ?_
   refine GC.block ?_
   refine GC.seq ?_
   have hL0 : path.length ≠ 0 := by omega
   obtain ⟨d, q1, hdq⟩ := List.exists_cons_of_ne_nil hq0
   have hd : p[path.length]? = some d := by have := congrArg (·[0]?) hdq; simpa [List.getElem?_drop] using this
   have hdl : d.toNat < 128 := hpa d (List.mem_of_getElem? hd)
   refine GC.reg ?_
   refine G.m1 ?_
   refine G.m1 ?_
   refine G.v (V.subI (r := ((path.length : Nat) : Int)) rfl rfl (by omega) (by omega) (by omega)) rfl ?_
   refine G.m2 ?_
   refine G.nil ?_
   refine GC.seq ?_
   refine GC.reg ?_
   refine G.m1 ?_
   refine G.m1 ?_
   refine G.v (V.idx (i := path.length) (b := d) Tryd.underlying9 rfl rfl hd) rfl ?_
   refine G.callP (v := .bool true) Tryd.call72 rfl rfl (fun w1 _ => f72_low w1 d hdl) ?_
   refine G.nil ?_
   refine GC.condT rfl ?_
   refine GC.seq ?_
   refine GC.reg ?_
   refine G.m1 ?_
   refine G.m1 ?_
   refine G.v (V.slL (i := path.length) Tryd.underlying9 rfl rfl hLp) rfl ?_
   refine G.callP (v := .tuple #[.int .i32 (d.toNat : Int), I 1]) Tryd.call73 rfl rfl (fun w1 _ => f73_low w1 _ d (by rw [hdq]; rfl) hdl) ?_
   refine G.m1 ?_
   refine G.v (V.ex rfl rfl) rfl ?_
   refine G.v (V.ex rfl rfl) rfl ?_
   refine G.m2 ?_
   refine G.nil ?_
   refine GC.exit rfl ?_
   have hru : d = (runeK path (p.drop path.length)) := by
    unfold runeK
    rw [if_neg hL0, hdq]; rfl
   exact JB _ _ ⟨by rw [← hru]; exact .of rfl, rfl⟩
  refine GC.exit rfl ?_
  have hru : (runeK path (p.drop path.length)) = 0 := if_pos (by omega)
  exact JB _ _ ⟨by rw [hru]; exact .of rfl, rfl⟩
 rintro fr' H' ⟨hsb, rfl⟩
 refine GC.weak hsb ?_
 clear hsb
 have hrl : (runeK path (p.drop path.length)).toNat < 128 := runeK_low fun x hx => hpa x (List.mem_of_mem_drop hx)
 refine GC.seq ?_
 refine GC.reg ?_
 refine G.m1 ?_
 refine G.callP (v := .int .i32 ((lo (runeK path (p.drop path.length))).toNat : Int)) Tryd.call74 rfl rfl (fun w1 _ => f74_low w1 _ hrl) ?_
 refine G.m2 ?_
 refine G.nil ?_
 refine GC.seq ?_
 refine GC.reg ?_
 refine G.v (V.slAr Tryd.underlying98 Tryd.sizeOf5 rfl) rfl ?_
 refine G.m1 ?_
 refine G.callL (H1 := [⟨qb, true, .row (rbR (rbK path rb)) 98 (0, 0)⟩]) (Hk := ⟨bb, true, .row (bC bl) 5 (0, 0)⟩ :: Ht) (fun v H1' => v = I 1 ∧ H1' = [⟨qb, true, .row (rbR (lo (runeK path (p.drop path.length)))) 98 (0, 0)⟩]) (.of_eq rfl) (fun e0 he0 => by rw [List.mem_singleton.1 he0]) Tryd.call75 rfl rfl (fun w1 hw1 _ => ?_) ?_
 ·exact (c75_any w1 _ (lo_low hrl) hw1).mono fun e w' ⟨h1, h2⟩ => ⟨_, _, h1, fun e0 he0 => by rw [List.mem_singleton.1 he0], h2, rfl, rfl⟩
 rintro v H1' ⟨rfl, rfl⟩
 refine G.nil ?_
 refine GC.turn (H' := (⟨qb, true, .row (rbR (lo (runeK path (p.drop path.length)))) 98 (0, 0)⟩ :: ⟨bb, true, .row (bC bl) 5 (0, 0)⟩ :: Ht)) (fun w1 h1 => h1) ?_
 refine GC.seq ?_
 refine GC.reg ?_
 refine G.v (V.ldA (b := qb) (off := 0) (s := 4) (wf := true) (l := rbR (lo (runeK path (p.drop path.length)))) (T := 98) (fz := (0, 0)) (cs := rbR (lo (runeK path (p.drop path.length)))) Tryd.isAgg98 Tryd.sizeOf98 rfl (.head _) rfl rfl) rfl ?_
 refine G.m1 ?_
 refine G.callP (v := .agg (rbR (lo (runeK path (p.drop path.length)))).toArray) Tryd.call71 rfl rfl (fun w1 _ => c71_any w1 (lo (runeK path (p.drop path.length))) 0) ?_
 refine G.stA (cs := rbR (lo (runeK path (p.drop path.length)))) Tryd.sizeOf98 rfl rfl (rbR_one _) .z rfl ?_
 refine G.nil ?_
 refine GC.turn (H' := (⟨qb, true, .row (rbR (lo (runeK path (p.drop path.length)))) 98 (0, 0)⟩ :: ⟨bb, true, .row (bC bl) 5 (0, 0)⟩ :: Ht)) (fun w1 h1 => h1) ?_
 refine GC.seq ?_
 refine GC.reg ?_
 refine G.v (V.iaA (i := 0) Tryd.underlying98 Tryd.sizeOf5 rfl rfl (by decide)) rfl ?_
 refine G.v (V.ld (b := qb) (off := 0 + 0 * 1) (wf := true) (l := rbR (lo (runeK path (p.drop path.length)))) (T := 98) (fz := (0, 0)) (v := .int .u8 ((lo (runeK path (p.drop path.length))).toNat : Int)) Tryd.isAgg5 rfl (.head _) rfl) rfl ?_
 refine G.m2 ?_
 refine G.nil ?_
 exact gr hrk0 _ (.of rfl)
end Go.Proofs

/- findCaseInsensitivePathRec: the kids by index, where there is no wildcard. Printed by wip/mk_hv4.py. -/
set_option maxRecDepth 20000
namespace Go.Proofs
open Go Bw
open Gt
theorem g59_keepY {R : Ending → World → Prop} {w : World} {D : Nat → Prop} {qb bb cp : Nat} {Ht : SH} {c0 : List UInt8} {n : T0} {p cu bl : List UInt8} {rb : UInt8} {nb : Nat} {fr : SF}
  (hn : Rd Ht n nb) (hbl : bl.length = cp) (hbt : bl.take cu.length = cu) (_hpa : ∀ x ∈ p, x.toNat < 128) (_hpl : p.length ≤ 100000) (hLp : n.path.length ≤ p.length) (hnL : Lk n) (_hc0 : c0 <+: cu) (_hHw : ∀ e ∈ Ht, e.w = true) (hsub : Sub [(0, Pt nb 0), (1, S (p.drop n.path.length)), (2, .slice (some ⟨bb, 0, none⟩) cu.length cp), (4, .bool false), (8, Pt qb 0), (11, I (n.path.length : Nat)), (12, S p)] fr) {i : Nat} {k : T0} (hj : idxOf (rbK n.path rb) n.idx = some i) (hkid : n.kids[i]? = some k)
  (go : LpC R w D qb bb cp Ht k (p.drop n.path.length) (rbK n.path rb) cu) :
  GC Tryd.prog ⟨59, Tryd.f59, R, w, D⟩ 606 K59k fr (⟨qb, true, .row (rbR (rbK n.path rb)) 98 (0, 0)⟩ :: ⟨bb, true, .row (bC bl) 5 (0, 0)⟩ :: Ht) := by
 refine GC.weak hsub ?_
 clear hsub
 have hn0 := hn
 cases hn with
 | @mk path idx wild nt pr h full kids _ bs kv hv Hs hm hs hsm hbl2 hh hk =>
 try simp only [n_path] at *
 try simp only [n_idx] at *
 try simp only [n_kids] at *
 try simp only [n_wild] at *
 try simp only [n_h] at *
 have hil : idx.length ≤ 100000 := hnL.1
 have hkil : kids.length ≤ 100000 := hnL.2.1
 obtain ⟨ad, cap, rfl⟩ := hs.slice
 obtain ⟨ad2, l2, c2, rfl, hnn⟩ := hh.slice
 obtain ⟨hjc, hjn⟩ := idxOf_some hj
 have hjl : i < idx.length := (List.getElem?_eq_some_iff.1 hjc).1
 refine GC.seq ?_
 refine GC.reg ?_
 refine G.v (V.iaA (i := 0) Tryd.underlying98 Tryd.sizeOf5 rfl rfl (by decide)) rfl ?_
 refine G.v (V.ld (b := qb) (off := 0 + 0 * 1) (wf := true) (l := rbR (rbK path rb)) (T := 98) (fz := (0, 0)) (v := .int .u8 ((rbK path rb).toNat : Int)) Tryd.isAgg5 rfl (.head _) rfl) rfl ?_
 refine G.m2 ?_
 refine G.nil ?_
 refine GC.seq ?_
 refine GC.reg ?_
 refine G.m1 ?_
 refine G.v (V.nc rfl) rfl ?_
 refine G.v (V.fa F94_1 rfl) rfl ?_
 refine G.v (V.ld (b := nb) (off := 0 + 1) (wf := true) (l := nodeR path idx wild nt pr (.slice ad kids.length cap) (.slice ad2 l2 c2) full) (T := 94) (fz := (0, 0)) (v := S idx) Tryd.isAgg9 rfl (m2 hm) rfl) rfl ?_
 refine G.cvSB Tryd.underlying9 Tryd.underlying44 Tryd.underlying5 rfl rfl (fun tb cpp z fz hrb hcp => ?_)
 refine G.v (V.lenL Tryd.underlying44 rfl) rfl ?_
 refine G.m1 ?_
 refine G.nil ?_
 refine GC.block ?_
 refine GC.loopJ (fun N fr' H' => ∃ j, j + N = i ∧ Sub [(0, Pt nb 0), (1, S (p.drop path.length)), (2, .slice (some ⟨bb, 0, none⟩) cu.length cp), (4, .bool false), (8, Pt qb 0), (11, I (path.length : Nat)), (12, S p), (15, .int .u8 ((rbK path rb).toNat : Int)), (167, .slice (some ⟨tb, 0, none⟩) idx.length cpp), (168, I (idx.length : Nat)), (169, I (j : Nat))] fr' ∧ H' = ⟨tb, true, .row (bC (idx ++ z)) 5 fz⟩ :: (⟨qb, true, .row (rbR (rbK path rb)) 98 (0, 0)⟩ :: ⟨bb, true, .row (bC bl) 5 (0, 0)⟩ :: Ht)) i
  ⟨0, by omega, .of rfl, rfl⟩ ?_
 rintro N fr' H' ⟨j, hj0, hs2, rfl⟩ ih
 refine GC.weak hs2 ?_
 clear hs2
 refine GC.seq ?_
 refine GC.reg ?_
 refine G.v (V.lt rfl rfl) rfl ?_
 refine G.nil ?_
 refine GC.seq ?_
 refine GC.condD rfl (fun h170 => ?_) (fun h170 => absurd (by omega) h170)
 refine GC.skip ?_
 refine GC.seq ?_
 refine GC.block ?_
 refine GC.seq ?_
 have hql : j < idx.length := by omega
 obtain ⟨y, hy⟩ : ∃ y, idx[j]? = some y := ⟨_, List.getElem?_eq_getElem hql⟩
 refine GC.reg ?_
 refine G.m1 ?_
 refine G.v (V.ia (i := j) Tryd.underlying44 Tryd.sizeOf5 rfl rfl hql) rfl ?_
 refine G.v (V.ld (b := tb) (off := 0 + j * 1) (wf := true) (l := bC (idx ++ z)) (T := 5) (fz := fz) (v := .int .u8 (y.toNat : Int)) Tryd.isAgg5 rfl (.head _) (by rw [nth_eq, Nat.zero_add, Nat.mul_one, bC_app, List.getElem?_append_left (by rw [bC_len]; exact hql)]; simp [bC, Lib.byteCells, hy])) rfl ?_
 refine G.m2 ?_
 refine G.m2 ?_
 refine G.nil ?_
 refine GC.seq ?_
 refine GC.reg ?_
 refine G.m1 ?_
 refine G.m1 ?_
 refine G.v (V.eqI rfl rfl) rfl ?_
 refine G.nil ?_
 refine GC.condD rfl (fun h176 => ?_) (fun h176 => ?_)
 ·refine GC.seq ?_
  have hjj : j = i := by
   have hyx := UInt8.toNat_inj.1 (by have := h176; omega : y.toNat = ((rbK path rb)).toNat)
   rcases Nat.lt_or_ge j i with h | h
   ·exact absurd (by rw [hy, hyx]) (hjn j h)
   ·omega
  subst hjj
  have hkl := (List.getElem?_eq_some_iff.1 hkid).1
  obtain ⟨kb, hkb⟩ : ∃ kb, bs[j]? = some kb := ⟨_, List.getElem?_eq_getElem (by omega)⟩
  have hrk := hk j k kb hkid hkb
  obtain ⟨rw0, cap2, spare, e1, rfl⟩ := hs.at hkl
  cases e1
  have hrbm := hsm _ (.head _)
  refine GC.reg ?_
  refine G.m1 ?_
  refine G.v (V.nc rfl) rfl ?_
  refine G.v (V.fa F94_5 rfl) rfl ?_
  refine G.v (V.ld (b := nb) (off := 0 + 5) (wf := true) (l := nodeR path idx wild nt pr (.slice (some ⟨rw0, 0, none⟩) kids.length cap) (.slice ad2 l2 c2) full) (T := 94) (fz := (0, 0)) (v := (.slice (some ⟨rw0, 0, none⟩) kids.length cap)) Tryd.isAgg90 rfl (m3 hm) rfl) rfl ?_
  refine G.m1 ?_
  refine G.v (V.ia (i := j) Tryd.underlying90 Tryd.sizeOf83 rfl rfl hkl) rfl ?_
  refine G.v (V.ld (b := rw0) (off := 0 + j * 1) (wf := true) (l := bs.map (Pt · 0) ++ spare) (T := 83) (fz := (0, 0)) (v := Pt kb 0) Tryd.isAgg83 rfl (m3 hrbm) (by rw [nth_eq, Nat.zero_add, Nat.mul_one, List.getElem?_append_left (by rw [List.length_map]; omega), List.getElem?_map, hkb]; rfl)) rfl ?_
  refine G.m2 ?_
  refine G.nil ?_
  refine GC.seq ?_
  obtain ⟨kl, khm⟩ := hrk.has
  refine GC.reg ?_
  refine G.m1 ?_
  refine G.v (V.nc rfl) rfl ?_
  refine G.v (V.fa F94_0 rfl) rfl ?_
  refine G.v (V.ld (b := kb) (off := 0 + 0) (wf := true) (l := kl) (T := 94) (fz := (0, 0)) (v := S k.path) Tryd.isAgg9 rfl (m3 khm.1) khm.2) rfl ?_
  refine G.v (V.lenS Tryd.underlying9 rfl) rfl ?_
  refine G.m2 ?_
  refine G.nil ?_
  refine GC.exit rfl ?_
  refine GC.inLoop ?_
  refine GC.turn (H' := (⟨qb, true, .row (rbR (rbK path rb)) 98 (0, 0)⟩ :: ⟨bb, true, .row (bC bl) 5 (0, 0)⟩ :: Ht)) (fun w1 h1 => h1.sub (List.sublist_cons_self _ _)) ?_
  exact go kb bl _ hrk hbl hbt (.of rfl)
 refine GC.skip ?_
 refine GC.inBlock ?_
 refine GC.reg ?_
 refine G.v (V.addI (r := ((j + 1 : Nat) : Int)) rfl rfl rfl (by omega) (by omega)) rfl ?_
 refine G.m1 ?_
 refine G.nil ?_
 have hyx : y ≠ (rbK path rb) := fun e => h176 (by rw [e])
 have hjj : j ≠ i := fun e => hyx (by rw [e, hjc] at hy; exact (Option.some.inj hy).symm)
 exact ih (N - 1) _ _ (by omega) ⟨j + 1, by omega, .of rfl, rfl⟩
theorem g59_keepN {R : Ending → World → Prop} {w : World} {D : Nat → Prop} {qb bb cp : Nat} {Ht : SH} {c0 : List UInt8} {n : T0} {p cu bl : List UInt8} {rb : UInt8} {nb : Nat} {fr : SF}
  (hn : Rd Ht n nb) (hbl : bl.length = cp) (hbt : bl.take cu.length = cu) (_hpa : ∀ x ∈ p, x.toNat < 128) (_hpl : p.length ≤ 100000) (hLp : n.path.length ≤ p.length) (hnL : Lk n) (hc0 : c0 <+: cu) (_hHw : ∀ e ∈ Ht, e.w = true) (hsub : Sub [(0, Pt nb 0), (1, S (p.drop n.path.length)), (2, .slice (some ⟨bb, 0, none⟩) cu.length cp), (4, .bool false), (8, Pt qb 0), (11, I (n.path.length : Nat)), (12, S p)] fr) (hj : idxOf (rbK n.path rb) n.idx = none)
  (fin : Fin59 R w D bb cp Ht c0 none) :
  GC Tryd.prog ⟨59, Tryd.f59, R, w, D⟩ 606 K59k fr (⟨qb, true, .row (rbR (rbK n.path rb)) 98 (0, 0)⟩ :: ⟨bb, true, .row (bC bl) 5 (0, 0)⟩ :: Ht) := by
 refine GC.weak hsub ?_
 clear hsub
 have hn0 := hn
 cases hn with
 | @mk path idx wild nt pr h full kids _ bs kv hv Hs hm hs hsm hbl2 hh hk =>
 try simp only [n_path] at *
 try simp only [n_idx] at *
 try simp only [n_kids] at *
 try simp only [n_wild] at *
 try simp only [n_h] at *
 have hil : idx.length ≤ 100000 := hnL.1
 have hkil : kids.length ≤ 100000 := hnL.2.1
 obtain ⟨ad, cap, rfl⟩ := hs.slice
 obtain ⟨ad2, l2, c2, rfl, hnn⟩ := hh.slice
 have hjn := idxOf_none hj
 refine GC.seq ?_
 refine GC.reg ?_
 refine G.v (V.iaA (i := 0) Tryd.underlying98 Tryd.sizeOf5 rfl rfl (by decide)) rfl ?_
 refine G.v (V.ld (b := qb) (off := 0 + 0 * 1) (wf := true) (l := rbR (rbK path rb)) (T := 98) (fz := (0, 0)) (v := .int .u8 ((rbK path rb).toNat : Int)) Tryd.isAgg5 rfl (.head _) rfl) rfl ?_
 refine G.m2 ?_
 refine G.nil ?_
 refine GC.seq ?_
 refine GC.reg ?_
 refine G.m1 ?_
 refine G.v (V.nc rfl) rfl ?_
 refine G.v (V.fa F94_1 rfl) rfl ?_
 refine G.v (V.ld (b := nb) (off := 0 + 1) (wf := true) (l := nodeR path idx wild nt pr (.slice ad kids.length cap) (.slice ad2 l2 c2) full) (T := 94) (fz := (0, 0)) (v := S idx) Tryd.isAgg9 rfl (m2 hm) rfl) rfl ?_
 refine G.cvSB Tryd.underlying9 Tryd.underlying44 Tryd.underlying5 rfl rfl (fun tb cpp z fz hrb hcp => ?_)
 refine G.v (V.lenL Tryd.underlying44 rfl) rfl ?_
 refine G.m1 ?_
 refine G.nil ?_
 refine GC.block ?_
 refine GC.loopJ (fun N fr' H' => ∃ j, j + N = idx.length ∧ Sub [(0, Pt nb 0), (1, S (p.drop path.length)), (2, .slice (some ⟨bb, 0, none⟩) cu.length cp), (4, .bool false), (8, Pt qb 0), (11, I (path.length : Nat)), (12, S p), (15, .int .u8 ((rbK path rb).toNat : Int)), (167, .slice (some ⟨tb, 0, none⟩) idx.length cpp), (168, I (idx.length : Nat)), (169, I (j : Nat))] fr' ∧ H' = ⟨tb, true, .row (bC (idx ++ z)) 5 fz⟩ :: (⟨qb, true, .row (rbR (rbK path rb)) 98 (0, 0)⟩ :: ⟨bb, true, .row (bC bl) 5 (0, 0)⟩ :: Ht)) idx.length
  ⟨0, by omega, .of rfl, rfl⟩ ?_
 rintro N fr' H' ⟨j, hj0, hs2, rfl⟩ ih
 refine GC.weak hs2 ?_
 clear hs2
 refine GC.seq ?_
 refine GC.reg ?_
 refine G.v (V.lt rfl rfl) rfl ?_
 refine G.nil ?_
 refine GC.seq ?_
 refine GC.condD rfl (fun h170 => ?_) (fun h170 => ?_)
 ·refine GC.skip ?_
  refine GC.seq ?_
  refine GC.block ?_
  refine GC.seq ?_
  have hql : j < idx.length := by omega
  obtain ⟨y, hy⟩ : ∃ y, idx[j]? = some y := ⟨_, List.getElem?_eq_getElem hql⟩
  refine GC.reg ?_
  refine G.m1 ?_
  refine G.v (V.ia (i := j) Tryd.underlying44 Tryd.sizeOf5 rfl rfl hql) rfl ?_
  refine G.v (V.ld (b := tb) (off := 0 + j * 1) (wf := true) (l := bC (idx ++ z)) (T := 5) (fz := fz) (v := .int .u8 (y.toNat : Int)) Tryd.isAgg5 rfl (.head _) (by rw [nth_eq, Nat.zero_add, Nat.mul_one, bC_app, List.getElem?_append_left (by rw [bC_len]; exact hql)]; simp [bC, Lib.byteCells, hy])) rfl ?_
  refine G.m2 ?_
  refine G.m2 ?_
  refine G.nil ?_
  refine GC.seq ?_
  refine GC.reg ?_
  refine G.m1 ?_
  refine G.m1 ?_
  refine G.v (V.eqI rfl rfl) rfl ?_
  refine G.nil ?_
  refine GC.condD rfl (fun h176 => absurd (by rw [hy, UInt8.toNat_inj.1 (by have := h176; omega : y.toNat = ((rbK path rb)).toNat)]) (hjn j)) (fun h176 => ?_)
  refine GC.skip ?_
  refine GC.inBlock ?_
  refine GC.reg ?_
  refine G.v (V.addI (r := ((j + 1 : Nat) : Int)) rfl rfl rfl (by omega) (by omega)) rfl ?_
  refine G.m1 ?_
  refine G.nil ?_
  exact ih (N - 1) _ _ (by omega) ⟨j + 1, by omega, .of rfl, rfl⟩
 refine GC.exit rfl ?_
 refine GC.seq ?_
 refine GC.seq ?_
 refine GC.turn (H' := (⟨qb, true, .row (rbR (rbK path rb)) 98 (0, 0)⟩ :: ⟨bb, true, .row (bC bl) 5 (0, 0)⟩ :: Ht)) (fun w1 h1 => h1.sub (List.sublist_cons_self _ _)) ?_
 refine GC.reg ?_
 refine G.m1 ?_
 refine G.m1 ?_
 refine G.bc 292 rfl (fun h292 => ?_) (fun h292 => ?_)
 ·exact absurd h292 (by decide)
 ·refine G.s1 ?_
  refine G.s1 ?_
  refine G.m4 ?_
  refine G.m1 ?_
  refine G.s1 ?_
  refine G.s1 ?_
  refine G.s1 ?_
  refine G.s1 ?_
  refine G.s1 ?_
  refine G.m4 ?_
  refine G.nil ?_
  refine GC.condF rfl ?_
  refine GC.skip ?_
  refine GC.seq ?_
  refine GC.reg ?_
  refine G.m2 ?_
  refine G.nil ?_
  exact GC.ret1 rfl rfl fun w' hw' => fin bl w' hbl (tk_pre hbt hc0) (hw'.sub (List.sublist_cons_self _ _))
theorem g59_loY {R : Ending → World → Prop} {w : World} {D : Nat → Prop} {qb bb cp : Nat} {Ht : SH} {c0 : List UInt8} {n : T0} {p cu bl : List UInt8} {nb : Nat} {fr : SF}
  (hn : Rd Ht n nb) (hbl : bl.length = cp) (hbt : bl.take cu.length = cu) (_hpa : ∀ x ∈ p, x.toNat < 128) (_hpl : p.length ≤ 100000) (hLp : n.path.length ≤ p.length) (hnL : Lk n) (_hc0 : c0 <+: cu) (hHw : ∀ e ∈ Ht, e.w = true) (hsub : Sub [(0, Pt nb 0), (1, S (p.drop n.path.length)), (2, .slice (some ⟨bb, 0, none⟩) cu.length cp), (4, .bool false), (8, Pt qb 0), (11, I (n.path.length : Nat)), (12, S p), (18, .int .i32 ((runeK n.path (p.drop n.path.length)).toNat : Int)), (19, I (0 : Nat)), (22, .int .i32 ((lo (runeK n.path (p.drop n.path.length))).toNat : Int)), (23, .int .u8 ((lo (runeK n.path (p.drop n.path.length))).toNat : Int))] fr) {i : Nat} {k : T0} (hj : idxOf (lo (runeK n.path (p.drop n.path.length))) n.idx = some i) (hkid : n.kids[i]? = some k) {res : Option (List UInt8)} (hrec : Rec59 bb cp Ht k (p.drop n.path.length) (lo (runeK n.path (p.drop n.path.length))) cu res)
  (gs : ∀ o, res = some o → Fin59 R w D bb cp Ht c0 (some o)) (gn : res = none → ∀ bl' fr', bl'.length = cp → bl'.take cu.length = cu → Sub [(0, Pt nb 0), (1, S (p.drop n.path.length)), (2, .slice (some ⟨bb, 0, none⟩) cu.length cp), (4, .bool false), (8, Pt qb 0), (11, I (n.path.length : Nat)), (12, S p), (18, .int .i32 ((runeK n.path (p.drop n.path.length)).toNat : Int)), (19, I (0 : Nat)), (22, .int .i32 ((lo (runeK n.path (p.drop n.path.length))).toNat : Int))] fr' → GC Tryd.prog ⟨59, Tryd.f59, R, w, D⟩ 606 K59d fr' (⟨qb, true, .row (rbR (lo (runeK n.path (p.drop n.path.length)))) 98 (0, 0)⟩ :: ⟨bb, true, .row (bC bl') 5 (0, 0)⟩ :: Ht)) :
  GC Tryd.prog ⟨59, Tryd.f59, R, w, D⟩ 606 K59c fr (⟨qb, true, .row (rbR (lo (runeK n.path (p.drop n.path.length)))) 98 (0, 0)⟩ :: ⟨bb, true, .row (bC bl) 5 (0, 0)⟩ :: Ht) := by
 refine GC.weak hsub ?_
 clear hsub
 have hn0 := hn
 cases hn with
 | @mk path idx wild nt pr h full kids _ bs kv hv Hs hm hs hsm hbl2 hh hk =>
 try simp only [n_path] at *
 try simp only [n_idx] at *
 try simp only [n_kids] at *
 try simp only [n_wild] at *
 try simp only [n_h] at *
 have hil : idx.length ≤ 100000 := hnL.1
 have hkil : kids.length ≤ 100000 := hnL.2.1
 obtain ⟨ad, cap, rfl⟩ := hs.slice
 obtain ⟨ad2, l2, c2, rfl, hnn⟩ := hh.slice
 obtain ⟨hjc, hjn⟩ := idxOf_some hj
 have hjl : i < idx.length := (List.getElem?_eq_some_iff.1 hjc).1
 refine GC.seq ?_
 refine GC.seq ?_
 refine GC.reg ?_
 refine G.m1 ?_
 refine G.v (V.nc rfl) rfl ?_
 refine G.v (V.fa F94_1 rfl) rfl ?_
 refine G.v (V.ld (b := nb) (off := 0 + 1) (wf := true) (l := nodeR path idx wild nt pr (.slice ad kids.length cap) (.slice ad2 l2 c2) full) (T := 94) (fz := (0, 0)) (v := S idx) Tryd.isAgg9 rfl (m2 hm) rfl) rfl ?_
 refine G.cvSB Tryd.underlying9 Tryd.underlying44 Tryd.underlying5 rfl rfl (fun tb cpp z fz hrb hcp => ?_)
 refine G.v (V.lenL Tryd.underlying44 rfl) rfl ?_
 refine G.m1 ?_
 refine G.nil ?_
 refine GC.block ?_
 refine GC.loopJ (fun N fr' H' => ∃ j, j + N = i ∧ Sub [(0, Pt nb 0), (1, S (p.drop path.length)), (2, .slice (some ⟨bb, 0, none⟩) cu.length cp), (4, .bool false), (8, Pt qb 0), (11, I (path.length : Nat)), (12, S p), (18, .int .i32 ((runeK path (p.drop path.length)).toNat : Int)), (19, I (0 : Nat)), (22, .int .i32 ((lo (runeK path (p.drop path.length))).toNat : Int)), (23, .int .u8 ((lo (runeK path (p.drop path.length))).toNat : Int)), (225, .slice (some ⟨tb, 0, none⟩) idx.length cpp), (226, I (idx.length : Nat)), (227, I (j : Nat))] fr' ∧ H' = ⟨tb, true, .row (bC (idx ++ z)) 5 fz⟩ :: (⟨qb, true, .row (rbR (lo (runeK path (p.drop path.length)))) 98 (0, 0)⟩ :: ⟨bb, true, .row (bC bl) 5 (0, 0)⟩ :: Ht)) i
  ⟨0, by omega, .of rfl, rfl⟩ ?_
 rintro N fr' H' ⟨j, hj0, hs2, rfl⟩ ih
 refine GC.weak hs2 ?_
 clear hs2
 refine GC.seq ?_
 refine GC.reg ?_
 refine G.v (V.lt rfl rfl) rfl ?_
 refine G.nil ?_
 refine GC.seq ?_
 refine GC.condD rfl (fun h228 => ?_) (fun h228 => absurd (by omega) h228)
 refine GC.skip ?_
 refine GC.seq ?_
 refine GC.block ?_
 refine GC.seq ?_
 have hql : j < idx.length := by omega
 obtain ⟨y, hy⟩ : ∃ y, idx[j]? = some y := ⟨_, List.getElem?_eq_getElem hql⟩
 refine GC.reg ?_
 refine G.m1 ?_
 refine G.v (V.ia (i := j) Tryd.underlying44 Tryd.sizeOf5 rfl rfl hql) rfl ?_
 refine G.v (V.ld (b := tb) (off := 0 + j * 1) (wf := true) (l := bC (idx ++ z)) (T := 5) (fz := fz) (v := .int .u8 (y.toNat : Int)) Tryd.isAgg5 rfl (.head _) (by rw [nth_eq, Nat.zero_add, Nat.mul_one, bC_app, List.getElem?_append_left (by rw [bC_len]; exact hql)]; simp [bC, Lib.byteCells, hy])) rfl ?_
 refine G.m2 ?_
 refine G.m2 ?_
 refine G.nil ?_
 refine GC.seq ?_
 refine GC.reg ?_
 refine G.m1 ?_
 refine G.m1 ?_
 refine G.v (V.eqI rfl rfl) rfl ?_
 refine G.nil ?_
 refine GC.condD rfl (fun h234 => ?_) (fun h234 => ?_)
 ·refine GC.seq ?_
  refine GC.seq ?_
  have hjj : j = i := by
   have hyx := UInt8.toNat_inj.1 (by have := h234; omega : y.toNat = ((lo (runeK path (p.drop path.length)))).toNat)
   rcases Nat.lt_or_ge j i with h | h
   ·exact absurd (by rw [hy, hyx]) (hjn j h)
   ·omega
  subst hjj
  have hkl := (List.getElem?_eq_some_iff.1 hkid).1
  obtain ⟨kb, hkb⟩ : ∃ kb, bs[j]? = some kb := ⟨_, List.getElem?_eq_getElem (by omega)⟩
  have hrk := hk j k kb hkid hkb
  obtain ⟨rw0, cap2, spare, e1, rfl⟩ := hs.at hkl
  cases e1
  have hrbm := hsm _ (.head _)
  refine GC.regT 11 mixed (by kernel_rfl) rfl rfl ?_
  refine GS.v (V.mv rfl) rfl ?_
  refine GS.v (V.nc rfl) rfl ?_
  refine GS.v (V.fa F94_5 rfl) rfl ?_
  refine GS.v (V.ld (b := nb) (off := 0 + 5) (wf := true) (l := nodeR path idx wild nt pr (.slice (some ⟨rw0, 0, none⟩) kids.length cap) (.slice ad2 l2 c2) full) (T := 94) (fz := (0, 0)) (v := (.slice (some ⟨rw0, 0, none⟩) kids.length cap)) Tryd.isAgg90 rfl (m3 hm) rfl) rfl ?_
  refine GS.v (V.mv rfl) rfl ?_
  refine GS.v (V.ia (i := j) Tryd.underlying90 Tryd.sizeOf83 rfl rfl hkl) rfl ?_
  refine GS.v (V.ld (b := rw0) (off := 0 + j * 1) (wf := true) (l := bs.map (Pt · 0) ++ spare) (T := 83) (fz := (0, 0)) (v := Pt kb 0) Tryd.isAgg83 rfl (m3 hrbm) (by rw [nth_eq, Nat.zero_add, Nat.mul_one, List.getElem?_append_left (by rw [List.length_map]; omega), List.getElem?_map, hkb]; rfl)) rfl ?_
  refine GS.v (V.mv rfl) rfl ?_
  refine GS.v (V.mv rfl) rfl ?_
  refine GS.v (V.ldA (b := qb) (off := 0) (s := 4) (wf := true) (l := rbR (lo (runeK path (p.drop path.length)))) (T := 98) (fz := (0, 0)) (cs := rbR (lo (runeK path (p.drop path.length)))) Tryd.isAgg98 Tryd.sizeOf98 rfl (.tail _ (.head _)) rfl rfl) rfl ?_
  refine GS.v (V.mv rfl) rfl ?_
  refine GS.nil ?_
  refine G.callL (H1 := ⟨bb, true, .row (bC bl) 5 (0, 0)⟩ :: Ht) (Hk := [⟨tb, true, .row (bC (idx ++ z)) 5 fz⟩, ⟨qb, true, .row (rbR (lo (runeK path (p.drop path.length)))) 98 (0, 0)⟩]) (fun v H1' => ∃ bl', v = outV bb cp res ∧ bl'.length = cp ∧ tkO cu res bl' ∧ H1' = ⟨bb, true, .row (bC bl') 5 (0, 0)⟩ :: Ht) ?_ (fun e0 he0 => ?_) Tryd.call59 rfl rfl (fun w1 hw1 _ => ?_) ?_
  ·have p1 := perm_idx [[⟨tb, true, .row (bC (idx ++ z)) 5 fz⟩], [⟨qb, true, .row (rbR (lo (runeK path (p.drop path.length)))) 98 (0, 0)⟩], [⟨bb, true, .row (bC bl) 5 (0, 0)⟩], Ht] [0, 1, 2, 3] [2, 3, 0, 1] (by decide)
   simpa using p1
  ·rcases List.mem_cons.1 he0 with rfl | he0
   ·rfl
   ·exact hHw e0 he0
  ·refine (hrec w1 _ kb bl hrk hbl hbt hw1).mono fun e w' ⟨bl', h1, h2, h3, h4⟩ => ⟨_, _, h1, fun e0 he0 => ?_, h4, bl', rfl, h2, h3, rfl⟩
   rcases List.mem_cons.1 he0 with rfl | he0
   ·rfl
   ·exact hHw e0 he0
  rintro v H1' ⟨bl', rfl, hbl', htk', rfl⟩
  refine G.m2 ?_
  refine G.nil ?_
  refine GC.turn (H' := (⟨qb, true, .row (rbR (lo (runeK path (p.drop path.length)))) 98 (0, 0)⟩ :: ⟨bb, true, .row (bC bl') 5 (0, 0)⟩ :: Ht)) (fun w1 h1 => ?_) ?_
  ·have h2 : HF w D (⟨bb, true, .row (bC bl') 5 (0, 0)⟩ :: (Ht ++ [⟨tb, true, .row (bC (idx ++ z)) 5 fz⟩, ⟨qb, true, .row (rbR (lo (runeK path (p.drop path.length)))) 98 (0, 0)⟩])) w1 := h1
   have p1 := perm_idx [[⟨bb, true, .row (bC bl') 5 (0, 0)⟩], Ht, [⟨tb, true, .row (bC (idx ++ z)) 5 fz⟩], [⟨qb, true, .row (rbR (lo (runeK path (p.drop path.length)))) 98 (0, 0)⟩]] [0, 1, 2, 3] [2, 3, 0, 1] (by decide)
   have h3 := h2.perm (H' := ⟨tb, true, .row (bC (idx ++ z)) 5 fz⟩ :: (⟨qb, true, .row (rbR (lo (runeK path (p.drop path.length)))) 98 (0, 0)⟩ :: ⟨bb, true, .row (bC bl') 5 (0, 0)⟩ :: Ht)) (by simpa using p1)
   exact h3.sub (List.sublist_cons_self _ _)
  refine GC.seq ?_
  refine GC.reg ?_
  refine G.m1 ?_
  refine G.v (v := .bool res.isSome) (neL_out Tryd.underlying44 rfl) rfl ?_
  refine G.nil ?_
  refine GC.cond rfl (fun h248 => ?_) (fun h248 => ?_)
  ·refine GC.seq ?_
   refine GC.reg ?_
   refine G.m1 ?_
   refine G.m2 ?_
   refine G.nil ?_
   cases res with
   | none => exact absurd h248 (by decide)
   | some o => exact GC.ret1 rfl rfl fun w' hw' => gs o rfl bl' w' hbl' htk' (hw'.sub (List.sublist_cons_self _ _))
  refine GC.skip ?_
  refine GC.exit rfl ?_
  have hrn : res = none := by cases res with
   | none => rfl
   | some o => exact absurd h248 (by simp)
  subst hrn
  exact gn rfl _ _ hbl' htk' (.of rfl)
 refine GC.skip ?_
 refine GC.inBlock ?_
 refine GC.reg ?_
 refine G.v (V.addI (r := ((j + 1 : Nat) : Int)) rfl rfl rfl (by omega) (by omega)) rfl ?_
 refine G.m1 ?_
 refine G.nil ?_
 have hyx : y ≠ (lo (runeK path (p.drop path.length))) := fun e => h234 (by rw [e])
 have hjj : j ≠ i := fun e => hyx (by rw [e, hjc] at hy; exact (Option.some.inj hy).symm)
 exact ih (N - 1) _ _ (by omega) ⟨j + 1, by omega, .of rfl, rfl⟩
theorem g59_loN {R : Ending → World → Prop} {w : World} {D : Nat → Prop} {qb bb cp : Nat} {Ht : SH} {c0 : List UInt8} {n : T0} {p cu bl : List UInt8} {nb : Nat} {fr : SF}
  (hn : Rd Ht n nb) (_hbl : bl.length = cp) (_hbt : bl.take cu.length = cu) (_hpa : ∀ x ∈ p, x.toNat < 128) (_hpl : p.length ≤ 100000) (hLp : n.path.length ≤ p.length) (hnL : Lk n) (_hc0 : c0 <+: cu) (_hHw : ∀ e ∈ Ht, e.w = true) (hsub : Sub [(0, Pt nb 0), (1, S (p.drop n.path.length)), (2, .slice (some ⟨bb, 0, none⟩) cu.length cp), (4, .bool false), (8, Pt qb 0), (11, I (n.path.length : Nat)), (12, S p), (18, .int .i32 ((runeK n.path (p.drop n.path.length)).toNat : Int)), (19, I (0 : Nat)), (22, .int .i32 ((lo (runeK n.path (p.drop n.path.length))).toNat : Int)), (23, .int .u8 ((lo (runeK n.path (p.drop n.path.length))).toNat : Int))] fr) (hj : idxOf (lo (runeK n.path (p.drop n.path.length))) n.idx = none)
  (gn : ∀ fr', Sub [(0, Pt nb 0), (1, S (p.drop n.path.length)), (2, .slice (some ⟨bb, 0, none⟩) cu.length cp), (4, .bool false), (8, Pt qb 0), (11, I (n.path.length : Nat)), (12, S p), (18, .int .i32 ((runeK n.path (p.drop n.path.length)).toNat : Int)), (19, I (0 : Nat)), (22, .int .i32 ((lo (runeK n.path (p.drop n.path.length))).toNat : Int))] fr' → GC Tryd.prog ⟨59, Tryd.f59, R, w, D⟩ 606 K59d fr' (⟨qb, true, .row (rbR (lo (runeK n.path (p.drop n.path.length)))) 98 (0, 0)⟩ :: ⟨bb, true, .row (bC bl) 5 (0, 0)⟩ :: Ht)) :
  GC Tryd.prog ⟨59, Tryd.f59, R, w, D⟩ 606 K59c fr (⟨qb, true, .row (rbR (lo (runeK n.path (p.drop n.path.length)))) 98 (0, 0)⟩ :: ⟨bb, true, .row (bC bl) 5 (0, 0)⟩ :: Ht) := by
 refine GC.weak hsub ?_
 clear hsub
 have hn0 := hn
 cases hn with
 | @mk path idx wild nt pr h full kids _ bs kv hv Hs hm hs hsm hbl2 hh hk =>
 try simp only [n_path] at *
 try simp only [n_idx] at *
 try simp only [n_kids] at *
 try simp only [n_wild] at *
 try simp only [n_h] at *
 have hil : idx.length ≤ 100000 := hnL.1
 have hkil : kids.length ≤ 100000 := hnL.2.1
 obtain ⟨ad, cap, rfl⟩ := hs.slice
 obtain ⟨ad2, l2, c2, rfl, hnn⟩ := hh.slice
 have hjn := idxOf_none hj
 refine GC.seq ?_
 refine GC.seq ?_
 refine GC.reg ?_
 refine G.m1 ?_
 refine G.v (V.nc rfl) rfl ?_
 refine G.v (V.fa F94_1 rfl) rfl ?_
 refine G.v (V.ld (b := nb) (off := 0 + 1) (wf := true) (l := nodeR path idx wild nt pr (.slice ad kids.length cap) (.slice ad2 l2 c2) full) (T := 94) (fz := (0, 0)) (v := S idx) Tryd.isAgg9 rfl (m2 hm) rfl) rfl ?_
 refine G.cvSB Tryd.underlying9 Tryd.underlying44 Tryd.underlying5 rfl rfl (fun tb cpp z fz hrb hcp => ?_)
 refine G.v (V.lenL Tryd.underlying44 rfl) rfl ?_
 refine G.m1 ?_
 refine G.nil ?_
 refine GC.block ?_
 refine GC.loopJ (fun N fr' H' => ∃ j, j + N = idx.length ∧ Sub [(0, Pt nb 0), (1, S (p.drop path.length)), (2, .slice (some ⟨bb, 0, none⟩) cu.length cp), (4, .bool false), (8, Pt qb 0), (11, I (path.length : Nat)), (12, S p), (18, .int .i32 ((runeK path (p.drop path.length)).toNat : Int)), (19, I (0 : Nat)), (22, .int .i32 ((lo (runeK path (p.drop path.length))).toNat : Int)), (23, .int .u8 ((lo (runeK path (p.drop path.length))).toNat : Int)), (225, .slice (some ⟨tb, 0, none⟩) idx.length cpp), (226, I (idx.length : Nat)), (227, I (j : Nat))] fr' ∧ H' = ⟨tb, true, .row (bC (idx ++ z)) 5 fz⟩ :: (⟨qb, true, .row (rbR (lo (runeK path (p.drop path.length)))) 98 (0, 0)⟩ :: ⟨bb, true, .row (bC bl) 5 (0, 0)⟩ :: Ht)) idx.length
  ⟨0, by omega, .of rfl, rfl⟩ ?_
 rintro N fr' H' ⟨j, hj0, hs2, rfl⟩ ih
 refine GC.weak hs2 ?_
 clear hs2
 refine GC.seq ?_
 refine GC.reg ?_
 refine G.v (V.lt rfl rfl) rfl ?_
 refine G.nil ?_
 refine GC.seq ?_
 refine GC.condD rfl (fun h228 => ?_) (fun h228 => ?_)
 ·refine GC.skip ?_
  refine GC.seq ?_
  refine GC.block ?_
  refine GC.seq ?_
  have hql : j < idx.length := by omega
  obtain ⟨y, hy⟩ : ∃ y, idx[j]? = some y := ⟨_, List.getElem?_eq_getElem hql⟩
  refine GC.reg ?_
  refine G.m1 ?_
  refine G.v (V.ia (i := j) Tryd.underlying44 Tryd.sizeOf5 rfl rfl hql) rfl ?_
  refine G.v (V.ld (b := tb) (off := 0 + j * 1) (wf := true) (l := bC (idx ++ z)) (T := 5) (fz := fz) (v := .int .u8 (y.toNat : Int)) Tryd.isAgg5 rfl (.head _) (by rw [nth_eq, Nat.zero_add, Nat.mul_one, bC_app, List.getElem?_append_left (by rw [bC_len]; exact hql)]; simp [bC, Lib.byteCells, hy])) rfl ?_
  refine G.m2 ?_
  refine G.m2 ?_
  refine G.nil ?_
  refine GC.seq ?_
  refine GC.reg ?_
  refine G.m1 ?_
  refine G.m1 ?_
  refine G.v (V.eqI rfl rfl) rfl ?_
  refine G.nil ?_
  refine GC.condD rfl (fun h234 => absurd (by rw [hy, UInt8.toNat_inj.1 (by have := h234; omega : y.toNat = ((lo (runeK path (p.drop path.length)))).toNat)]) (hjn j)) (fun h234 => ?_)
  refine GC.skip ?_
  refine GC.inBlock ?_
  refine GC.reg ?_
  refine G.v (V.addI (r := ((j + 1 : Nat) : Int)) rfl rfl rfl (by omega) (by omega)) rfl ?_
  refine G.m1 ?_
  refine G.nil ?_
  exact ih (N - 1) _ _ (by omega) ⟨j + 1, by omega, .of rfl, rfl⟩
 refine GC.exit rfl ?_
 refine GC.turn (H' := (⟨qb, true, .row (rbR (lo (runeK path (p.drop path.length)))) 98 (0, 0)⟩ :: ⟨bb, true, .row (bC bl) 5 (0, 0)⟩ :: Ht)) (fun w1 h1 => h1.sub (List.sublist_cons_self _ _)) ?_
 exact gn _ (.of rfl)
end Go.Proofs

/- findCaseInsensitivePathRec: the capital letter, where there is no wildcard. Printed by wip/mk_hv5.py. -/
set_option maxRecDepth 20000
namespace Go.Proofs
open Go Bw
open Gt
theorem g59_up0 {R : Ending → World → Prop} {w : World} {D : Nat → Prop} {qb bb cp : Nat} {Ht : SH} {c0 : List UInt8} {n : T0} {p cu bl : List UInt8} {nb : Nat} {fr : SF}
  (hn : Rd Ht n nb) (hbl : bl.length = cp) (hbt : bl.take cu.length = cu) (hpa : ∀ x ∈ p, x.toNat < 128) (_hpl : p.length ≤ 100000) (hLp : n.path.length ≤ p.length) (hnL : Lk n) (hc0 : c0 <+: cu) (_hHw : ∀ e ∈ Ht, e.w = true) (hsub : Sub [(0, Pt nb 0), (1, S (p.drop n.path.length)), (2, .slice (some ⟨bb, 0, none⟩) cu.length cp), (4, .bool false), (8, Pt qb 0), (11, I (n.path.length : Nat)), (12, S p), (18, .int .i32 ((runeK n.path (p.drop n.path.length)).toNat : Int)), (19, I (0 : Nat)), (22, .int .i32 ((lo (runeK n.path (p.drop n.path.length))).toNat : Int))] fr) (hul : (up (runeK n.path (p.drop n.path.length))) = (lo (runeK n.path (p.drop n.path.length))))
  (fin : Fin59 R w D bb cp Ht c0 none) :
  GC Tryd.prog ⟨59, Tryd.f59, R, w, D⟩ 606 K59d fr (⟨qb, true, .row (rbR (lo (runeK n.path (p.drop n.path.length)))) 98 (0, 0)⟩ :: ⟨bb, true, .row (bC bl) 5 (0, 0)⟩ :: Ht) := by
 refine GC.weak hsub ?_
 clear hsub
 have hn0 := hn
 cases hn with
 | @mk path idx wild nt pr h full kids _ bs kv hv Hs hm hs hsm hbl2 hh hk =>
 try simp only [n_path] at *
 try simp only [n_idx] at *
 try simp only [n_kids] at *
 try simp only [n_wild] at *
 try simp only [n_h] at *
 have hil : idx.length ≤ 100000 := hnL.1
 have hkil : kids.length ≤ 100000 := hnL.2.1
 obtain ⟨ad, cap, rfl⟩ := hs.slice
 obtain ⟨ad2, l2, c2, rfl, hnn⟩ := hh.slice
 have hrl : (runeK path (p.drop path.length)).toNat < 128 := runeK_low fun x hx => hpa x (List.mem_of_mem_drop hx)
 refine GC.seq ?_
 refine GC.reg ?_
 refine G.m1 ?_
 refine G.callP (v := .int .i32 ((up (runeK path (p.drop path.length))).toNat : Int)) Tryd.call76 rfl rfl (fun w1 _ => f76_low w1 _ hrl) ?_
 refine G.m2 ?_
 refine G.nil ?_
 refine GC.seq ?_
 refine GC.reg ?_
 refine G.m1 ?_
 refine G.m1 ?_
 refine G.v (V.neI rfl rfl) rfl ?_
 refine G.nil ?_
 refine GC.cond rfl (fun h255 => absurd h255 (by rw [hul]; simp)) (fun h255 => ?_)
 refine GC.skip ?_
 refine GC.seq ?_
 refine GC.seq ?_
 refine GC.reg ?_
 refine G.m1 ?_
 refine G.m1 ?_
 refine G.bc 292 rfl (fun h292 => ?_) (fun h292 => ?_)
 ·exact absurd h292 (by decide)
 ·refine G.s1 ?_
  refine G.s1 ?_
  refine G.m4 ?_
  refine G.m1 ?_
  refine G.s1 ?_
  refine G.s1 ?_
  refine G.s1 ?_
  refine G.s1 ?_
  refine G.s1 ?_
  refine G.m4 ?_
  refine G.nil ?_
  refine GC.condF rfl ?_
  refine GC.skip ?_
  refine GC.seq ?_
  refine GC.reg ?_
  refine G.m2 ?_
  refine G.nil ?_
  exact GC.ret1 rfl rfl fun w' hw' => fin bl w' hbl (tk_pre hbt hc0) (hw'.sub (List.sublist_cons_self _ _))
theorem g59_upY {R : Ending → World → Prop} {w : World} {D : Nat → Prop} {qb bb cp : Nat} {Ht : SH} {c0 : List UInt8} {n : T0} {p cu bl : List UInt8} {nb : Nat} {fr : SF}
  (hn : Rd Ht n nb) (hbl : bl.length = cp) (hbt : bl.take cu.length = cu) (hpa : ∀ x ∈ p, x.toNat < 128) (_hpl : p.length ≤ 100000) (hLp : n.path.length ≤ p.length) (hnL : Lk n) (_hc0 : c0 <+: cu) (_hHw : ∀ e ∈ Ht, e.w = true) (hsub : Sub [(0, Pt nb 0), (1, S (p.drop n.path.length)), (2, .slice (some ⟨bb, 0, none⟩) cu.length cp), (4, .bool false), (8, Pt qb 0), (11, I (n.path.length : Nat)), (12, S p), (18, .int .i32 ((runeK n.path (p.drop n.path.length)).toNat : Int)), (19, I (0 : Nat)), (22, .int .i32 ((lo (runeK n.path (p.drop n.path.length))).toNat : Int))] fr) {i : Nat} {k : T0} (hj : idxOf (up (runeK n.path (p.drop n.path.length))) n.idx = some i) (hkid : n.kids[i]? = some k) (hul : (up (runeK n.path (p.drop n.path.length))) ≠ (lo (runeK n.path (p.drop n.path.length))))
  (go : LpC R w D qb bb cp Ht k (p.drop n.path.length) (up (runeK n.path (p.drop n.path.length))) cu) :
  GC Tryd.prog ⟨59, Tryd.f59, R, w, D⟩ 606 K59d fr (⟨qb, true, .row (rbR (lo (runeK n.path (p.drop n.path.length)))) 98 (0, 0)⟩ :: ⟨bb, true, .row (bC bl) 5 (0, 0)⟩ :: Ht) := by
 refine GC.weak hsub ?_
 clear hsub
 have hn0 := hn
 cases hn with
 | @mk path idx wild nt pr h full kids _ bs kv hv Hs hm hs hsm hbl2 hh hk =>
 try simp only [n_path] at *
 try simp only [n_idx] at *
 try simp only [n_kids] at *
 try simp only [n_wild] at *
 try simp only [n_h] at *
 have hil : idx.length ≤ 100000 := hnL.1
 have hkil : kids.length ≤ 100000 := hnL.2.1
 obtain ⟨ad, cap, rfl⟩ := hs.slice
 obtain ⟨ad2, l2, c2, rfl, hnn⟩ := hh.slice
 have hrl : (runeK path (p.drop path.length)).toNat < 128 := runeK_low fun x hx => hpa x (List.mem_of_mem_drop hx)
 obtain ⟨hjc, hjn⟩ := idxOf_some hj
 have hjl : i < idx.length := (List.getElem?_eq_some_iff.1 hjc).1
 refine GC.seq ?_
 refine GC.reg ?_
 refine G.m1 ?_
 refine G.callP (v := .int .i32 ((up (runeK path (p.drop path.length))).toNat : Int)) Tryd.call76 rfl rfl (fun w1 _ => f76_low w1 _ hrl) ?_
 refine G.m2 ?_
 refine G.nil ?_
 refine GC.seq ?_
 refine GC.reg ?_
 refine G.m1 ?_
 refine G.m1 ?_
 refine G.v (V.neI rfl rfl) rfl ?_
 refine G.nil ?_
 refine GC.cond rfl (fun h255 => ?_) (fun h255 => absurd (UInt8.toNat_inj.1 (by have h := h255; simp at h; omega)) hul)
 refine GC.seq ?_
 refine GC.reg ?_
 refine G.v (V.slAr Tryd.underlying98 Tryd.sizeOf5 rfl) rfl ?_
 refine G.m1 ?_
 refine G.callL (H1 := [⟨qb, true, .row (rbR (lo (runeK path (p.drop path.length)))) 98 (0, 0)⟩]) (Hk := ⟨bb, true, .row (bC bl) 5 (0, 0)⟩ :: Ht) (fun v H1' => v = I 1 ∧ H1' = [⟨qb, true, .row (rbR (up (runeK path (p.drop path.length)))) 98 (0, 0)⟩]) (.of_eq rfl) (fun e0 he0 => by rw [List.mem_singleton.1 he0]) Tryd.call75 rfl rfl (fun w1 hw1 _ => ?_) ?_
 ·exact (c75_any w1 _ (up_low hrl) hw1).mono fun e w' ⟨h1, h2⟩ => ⟨_, _, h1, fun e0 he0 => by rw [List.mem_singleton.1 he0], h2, rfl, rfl⟩
 rintro v H1' ⟨rfl, rfl⟩
 refine G.nil ?_
 refine GC.turn (H' := (⟨qb, true, .row (rbR (up (runeK path (p.drop path.length)))) 98 (0, 0)⟩ :: ⟨bb, true, .row (bC bl) 5 (0, 0)⟩ :: Ht)) (fun w1 h1 => h1) ?_
 refine GC.seq ?_
 refine GC.reg ?_
 refine G.v (V.ldA (b := qb) (off := 0) (s := 4) (wf := true) (l := rbR (up (runeK path (p.drop path.length)))) (T := 98) (fz := (0, 0)) (cs := rbR (up (runeK path (p.drop path.length)))) Tryd.isAgg98 Tryd.sizeOf98 rfl (.head _) rfl rfl) rfl ?_
 refine G.m1 ?_
 refine G.callP (v := .agg (rbR (up (runeK path (p.drop path.length)))).toArray) Tryd.call71 rfl rfl (fun w1 _ => c71_any w1 (up (runeK path (p.drop path.length))) 0) ?_
 refine G.stA (cs := rbR (up (runeK path (p.drop path.length)))) Tryd.sizeOf98 rfl rfl (rbR_one _) .z rfl ?_
 refine G.nil ?_
 refine GC.turn (H' := (⟨qb, true, .row (rbR (up (runeK path (p.drop path.length)))) 98 (0, 0)⟩ :: ⟨bb, true, .row (bC bl) 5 (0, 0)⟩ :: Ht)) (fun w1 h1 => h1) ?_
 refine GC.seq ?_
 refine GC.reg ?_
 refine G.v (V.iaA (i := 0) Tryd.underlying98 Tryd.sizeOf5 rfl rfl (by decide)) rfl ?_
 refine G.v (V.ld (b := qb) (off := 0 + 0 * 1) (wf := true) (l := rbR (up (runeK path (p.drop path.length)))) (T := 98) (fz := (0, 0)) (v := .int .u8 ((up (runeK path (p.drop path.length))).toNat : Int)) Tryd.isAgg5 rfl (.head _) rfl) rfl ?_
 refine G.m2 ?_
 refine G.nil ?_
 refine GC.seq ?_
 refine GC.reg ?_
 refine G.m1 ?_
 refine G.v (V.nc rfl) rfl ?_
 refine G.v (V.fa F94_1 rfl) rfl ?_
 refine G.v (V.ld (b := nb) (off := 0 + 1) (wf := true) (l := nodeR path idx wild nt pr (.slice ad kids.length cap) (.slice ad2 l2 c2) full) (T := 94) (fz := (0, 0)) (v := S idx) Tryd.isAgg9 rfl (m2 hm) rfl) rfl ?_
 refine G.cvSB Tryd.underlying9 Tryd.underlying44 Tryd.underlying5 rfl rfl (fun tb cpp z fz hrb hcp => ?_)
 refine G.v (V.lenL Tryd.underlying44 rfl) rfl ?_
 refine G.m1 ?_
 refine G.nil ?_
 refine GC.block ?_
 refine GC.loopJ (fun N fr' H' => ∃ j, j + N = i ∧ Sub [(0, Pt nb 0), (1, S (p.drop path.length)), (2, .slice (some ⟨bb, 0, none⟩) cu.length cp), (4, .bool false), (8, Pt qb 0), (11, I (path.length : Nat)), (12, S p), (18, .int .i32 ((runeK path (p.drop path.length)).toNat : Int)), (19, I (0 : Nat)), (22, .int .i32 ((lo (runeK path (p.drop path.length))).toNat : Int)), (27, .int .i32 ((up (runeK path (p.drop path.length))).toNat : Int)), (28, .int .u8 ((up (runeK path (p.drop path.length))).toNat : Int)), (268, .slice (some ⟨tb, 0, none⟩) idx.length cpp), (269, I (idx.length : Nat)), (270, I (j : Nat))] fr' ∧ H' = ⟨tb, true, .row (bC (idx ++ z)) 5 fz⟩ :: (⟨qb, true, .row (rbR (up (runeK path (p.drop path.length)))) 98 (0, 0)⟩ :: ⟨bb, true, .row (bC bl) 5 (0, 0)⟩ :: Ht)) i
  ⟨0, by omega, .of rfl, rfl⟩ ?_
 rintro N fr' H' ⟨j, hj0, hs2, rfl⟩ ih
 refine GC.weak hs2 ?_
 clear hs2
 refine GC.seq ?_
 refine GC.reg ?_
 refine G.v (V.lt rfl rfl) rfl ?_
 refine G.nil ?_
 refine GC.seq ?_
 refine GC.condD rfl (fun h271 => ?_) (fun h271 => absurd (by omega) h271)
 refine GC.skip ?_
 refine GC.seq ?_
 refine GC.block ?_
 refine GC.seq ?_
 have hql : j < idx.length := by omega
 obtain ⟨y, hy⟩ : ∃ y, idx[j]? = some y := ⟨_, List.getElem?_eq_getElem hql⟩
 refine GC.reg ?_
 refine G.m1 ?_
 refine G.v (V.ia (i := j) Tryd.underlying44 Tryd.sizeOf5 rfl rfl hql) rfl ?_
 refine G.v (V.ld (b := tb) (off := 0 + j * 1) (wf := true) (l := bC (idx ++ z)) (T := 5) (fz := fz) (v := .int .u8 (y.toNat : Int)) Tryd.isAgg5 rfl (.head _) (by rw [nth_eq, Nat.zero_add, Nat.mul_one, bC_app, List.getElem?_append_left (by rw [bC_len]; exact hql)]; simp [bC, Lib.byteCells, hy])) rfl ?_
 refine G.m2 ?_
 refine G.m2 ?_
 refine G.nil ?_
 refine GC.seq ?_
 refine GC.reg ?_
 refine G.m1 ?_
 refine G.m1 ?_
 refine G.v (V.eqI rfl rfl) rfl ?_
 refine G.nil ?_
 refine GC.condD rfl (fun h277 => ?_) (fun h277 => ?_)
 ·refine GC.seq ?_
  have hjj : j = i := by
   have hyx := UInt8.toNat_inj.1 (by have := h277; omega : y.toNat = ((up (runeK path (p.drop path.length)))).toNat)
   rcases Nat.lt_or_ge j i with h | h
   ·exact absurd (by rw [hy, hyx]) (hjn j h)
   ·omega
  subst hjj
  have hkl := (List.getElem?_eq_some_iff.1 hkid).1
  obtain ⟨kb, hkb⟩ : ∃ kb, bs[j]? = some kb := ⟨_, List.getElem?_eq_getElem (by omega)⟩
  have hrk := hk j k kb hkid hkb
  obtain ⟨rw0, cap2, spare, e1, rfl⟩ := hs.at hkl
  cases e1
  have hrbm := hsm _ (.head _)
  refine GC.reg ?_
  refine G.m1 ?_
  refine G.v (V.nc rfl) rfl ?_
  refine G.v (V.fa F94_5 rfl) rfl ?_
  refine G.v (V.ld (b := nb) (off := 0 + 5) (wf := true) (l := nodeR path idx wild nt pr (.slice (some ⟨rw0, 0, none⟩) kids.length cap) (.slice ad2 l2 c2) full) (T := 94) (fz := (0, 0)) (v := (.slice (some ⟨rw0, 0, none⟩) kids.length cap)) Tryd.isAgg90 rfl (m3 hm) rfl) rfl ?_
  refine G.m1 ?_
  refine G.v (V.ia (i := j) Tryd.underlying90 Tryd.sizeOf83 rfl rfl hkl) rfl ?_
  refine G.v (V.ld (b := rw0) (off := 0 + j * 1) (wf := true) (l := bs.map (Pt · 0) ++ spare) (T := 83) (fz := (0, 0)) (v := Pt kb 0) Tryd.isAgg83 rfl (m3 hrbm) (by rw [nth_eq, Nat.zero_add, Nat.mul_one, List.getElem?_append_left (by rw [List.length_map]; omega), List.getElem?_map, hkb]; rfl)) rfl ?_
  refine G.m2 ?_
  refine G.nil ?_
  refine GC.seq ?_
  obtain ⟨kl, khm⟩ := hrk.has
  refine GC.reg ?_
  refine G.m1 ?_
  refine G.v (V.nc rfl) rfl ?_
  refine G.v (V.fa F94_0 rfl) rfl ?_
  refine G.v (V.ld (b := kb) (off := 0 + 0) (wf := true) (l := kl) (T := 94) (fz := (0, 0)) (v := S k.path) Tryd.isAgg9 rfl (m3 khm.1) khm.2) rfl ?_
  refine G.v (V.lenS Tryd.underlying9 rfl) rfl ?_
  refine G.m2 ?_
  refine G.nil ?_
  refine GC.exit rfl ?_
  refine GC.inLoop ?_
  refine GC.turn (H' := (⟨qb, true, .row (rbR (up (runeK path (p.drop path.length)))) 98 (0, 0)⟩ :: ⟨bb, true, .row (bC bl) 5 (0, 0)⟩ :: Ht)) (fun w1 h1 => h1.sub (List.sublist_cons_self _ _)) ?_
  exact go kb bl _ hrk hbl hbt (.of rfl)
 refine GC.skip ?_
 refine GC.inBlock ?_
 refine GC.reg ?_
 refine G.v (V.addI (r := ((j + 1 : Nat) : Int)) rfl rfl rfl (by omega) (by omega)) rfl ?_
 refine G.m1 ?_
 refine G.nil ?_
 have hyx : y ≠ (up (runeK path (p.drop path.length))) := fun e => h277 (by rw [e])
 have hjj : j ≠ i := fun e => hyx (by rw [e, hjc] at hy; exact (Option.some.inj hy).symm)
 exact ih (N - 1) _ _ (by omega) ⟨j + 1, by omega, .of rfl, rfl⟩
theorem g59_upN {R : Ending → World → Prop} {w : World} {D : Nat → Prop} {qb bb cp : Nat} {Ht : SH} {c0 : List UInt8} {n : T0} {p cu bl : List UInt8} {nb : Nat} {fr : SF}
  (hn : Rd Ht n nb) (hbl : bl.length = cp) (hbt : bl.take cu.length = cu) (hpa : ∀ x ∈ p, x.toNat < 128) (_hpl : p.length ≤ 100000) (hLp : n.path.length ≤ p.length) (hnL : Lk n) (hc0 : c0 <+: cu) (_hHw : ∀ e ∈ Ht, e.w = true) (hsub : Sub [(0, Pt nb 0), (1, S (p.drop n.path.length)), (2, .slice (some ⟨bb, 0, none⟩) cu.length cp), (4, .bool false), (8, Pt qb 0), (11, I (n.path.length : Nat)), (12, S p), (18, .int .i32 ((runeK n.path (p.drop n.path.length)).toNat : Int)), (19, I (0 : Nat)), (22, .int .i32 ((lo (runeK n.path (p.drop n.path.length))).toNat : Int))] fr) (hj : idxOf (up (runeK n.path (p.drop n.path.length))) n.idx = none) (hul : (up (runeK n.path (p.drop n.path.length))) ≠ (lo (runeK n.path (p.drop n.path.length))))
  (fin : Fin59 R w D bb cp Ht c0 none) :
  GC Tryd.prog ⟨59, Tryd.f59, R, w, D⟩ 606 K59d fr (⟨qb, true, .row (rbR (lo (runeK n.path (p.drop n.path.length)))) 98 (0, 0)⟩ :: ⟨bb, true, .row (bC bl) 5 (0, 0)⟩ :: Ht) := by
 refine GC.weak hsub ?_
 clear hsub
 have hn0 := hn
 cases hn with
 | @mk path idx wild nt pr h full kids _ bs kv hv Hs hm hs hsm hbl2 hh hk =>
 try simp only [n_path] at *
 try simp only [n_idx] at *
 try simp only [n_kids] at *
 try simp only [n_wild] at *
 try simp only [n_h] at *
 have hil : idx.length ≤ 100000 := hnL.1
 have hkil : kids.length ≤ 100000 := hnL.2.1
 obtain ⟨ad, cap, rfl⟩ := hs.slice
 obtain ⟨ad2, l2, c2, rfl, hnn⟩ := hh.slice
 have hrl : (runeK path (p.drop path.length)).toNat < 128 := runeK_low fun x hx => hpa x (List.mem_of_mem_drop hx)
 have hjn := idxOf_none hj
 refine GC.seq ?_
 refine GC.reg ?_
 refine G.m1 ?_
 refine G.callP (v := .int .i32 ((up (runeK path (p.drop path.length))).toNat : Int)) Tryd.call76 rfl rfl (fun w1 _ => f76_low w1 _ hrl) ?_
 refine G.m2 ?_
 refine G.nil ?_
 refine GC.seq ?_
 refine GC.reg ?_
 refine G.m1 ?_
 refine G.m1 ?_
 refine G.v (V.neI rfl rfl) rfl ?_
 refine G.nil ?_
 refine GC.cond rfl (fun h255 => ?_) (fun h255 => absurd (UInt8.toNat_inj.1 (by have h := h255; simp at h; omega)) hul)
 refine GC.seq ?_
 refine GC.reg ?_
 refine G.v (V.slAr Tryd.underlying98 Tryd.sizeOf5 rfl) rfl ?_
 refine G.m1 ?_
 refine G.callL (H1 := [⟨qb, true, .row (rbR (lo (runeK path (p.drop path.length)))) 98 (0, 0)⟩]) (Hk := ⟨bb, true, .row (bC bl) 5 (0, 0)⟩ :: Ht) (fun v H1' => v = I 1 ∧ H1' = [⟨qb, true, .row (rbR (up (runeK path (p.drop path.length)))) 98 (0, 0)⟩]) (.of_eq rfl) (fun e0 he0 => by rw [List.mem_singleton.1 he0]) Tryd.call75 rfl rfl (fun w1 hw1 _ => ?_) ?_
 ·exact (c75_any w1 _ (up_low hrl) hw1).mono fun e w' ⟨h1, h2⟩ => ⟨_, _, h1, fun e0 he0 => by rw [List.mem_singleton.1 he0], h2, rfl, rfl⟩
 rintro v H1' ⟨rfl, rfl⟩
 refine G.nil ?_
 refine GC.turn (H' := (⟨qb, true, .row (rbR (up (runeK path (p.drop path.length)))) 98 (0, 0)⟩ :: ⟨bb, true, .row (bC bl) 5 (0, 0)⟩ :: Ht)) (fun w1 h1 => h1) ?_
 refine GC.seq ?_
 refine GC.reg ?_
 refine G.v (V.ldA (b := qb) (off := 0) (s := 4) (wf := true) (l := rbR (up (runeK path (p.drop path.length)))) (T := 98) (fz := (0, 0)) (cs := rbR (up (runeK path (p.drop path.length)))) Tryd.isAgg98 Tryd.sizeOf98 rfl (.head _) rfl rfl) rfl ?_
 refine G.m1 ?_
 refine G.callP (v := .agg (rbR (up (runeK path (p.drop path.length)))).toArray) Tryd.call71 rfl rfl (fun w1 _ => c71_any w1 (up (runeK path (p.drop path.length))) 0) ?_
 refine G.stA (cs := rbR (up (runeK path (p.drop path.length)))) Tryd.sizeOf98 rfl rfl (rbR_one _) .z rfl ?_
 refine G.nil ?_
 refine GC.turn (H' := (⟨qb, true, .row (rbR (up (runeK path (p.drop path.length)))) 98 (0, 0)⟩ :: ⟨bb, true, .row (bC bl) 5 (0, 0)⟩ :: Ht)) (fun w1 h1 => h1) ?_
 refine GC.seq ?_
 refine GC.reg ?_
 refine G.v (V.iaA (i := 0) Tryd.underlying98 Tryd.sizeOf5 rfl rfl (by decide)) rfl ?_
 refine G.v (V.ld (b := qb) (off := 0 + 0 * 1) (wf := true) (l := rbR (up (runeK path (p.drop path.length)))) (T := 98) (fz := (0, 0)) (v := .int .u8 ((up (runeK path (p.drop path.length))).toNat : Int)) Tryd.isAgg5 rfl (.head _) rfl) rfl ?_
 refine G.m2 ?_
 refine G.nil ?_
 refine GC.seq ?_
 refine GC.reg ?_
 refine G.m1 ?_
 refine G.v (V.nc rfl) rfl ?_
 refine G.v (V.fa F94_1 rfl) rfl ?_
 refine G.v (V.ld (b := nb) (off := 0 + 1) (wf := true) (l := nodeR path idx wild nt pr (.slice ad kids.length cap) (.slice ad2 l2 c2) full) (T := 94) (fz := (0, 0)) (v := S idx) Tryd.isAgg9 rfl (m2 hm) rfl) rfl ?_
 refine G.cvSB Tryd.underlying9 Tryd.underlying44 Tryd.underlying5 rfl rfl (fun tb cpp z fz hrb hcp => ?_)
 refine G.v (V.lenL Tryd.underlying44 rfl) rfl ?_
 refine G.m1 ?_
 refine G.nil ?_
 refine GC.block ?_
 refine GC.loopJ (fun N fr' H' => ∃ j, j + N = idx.length ∧ Sub [(0, Pt nb 0), (1, S (p.drop path.length)), (2, .slice (some ⟨bb, 0, none⟩) cu.length cp), (4, .bool false), (8, Pt qb 0), (11, I (path.length : Nat)), (12, S p), (18, .int .i32 ((runeK path (p.drop path.length)).toNat : Int)), (19, I (0 : Nat)), (22, .int .i32 ((lo (runeK path (p.drop path.length))).toNat : Int)), (27, .int .i32 ((up (runeK path (p.drop path.length))).toNat : Int)), (28, .int .u8 ((up (runeK path (p.drop path.length))).toNat : Int)), (268, .slice (some ⟨tb, 0, none⟩) idx.length cpp), (269, I (idx.length : Nat)), (270, I (j : Nat))] fr' ∧ H' = ⟨tb, true, .row (bC (idx ++ z)) 5 fz⟩ :: (⟨qb, true, .row (rbR (up (runeK path (p.drop path.length)))) 98 (0, 0)⟩ :: ⟨bb, true, .row (bC bl) 5 (0, 0)⟩ :: Ht)) idx.length
  ⟨0, by omega, .of rfl, rfl⟩ ?_
 rintro N fr' H' ⟨j, hj0, hs2, rfl⟩ ih
 refine GC.weak hs2 ?_
 clear hs2
 refine GC.seq ?_
 refine GC.reg ?_
 refine G.v (V.lt rfl rfl) rfl ?_
 refine G.nil ?_
 refine GC.seq ?_
 refine GC.condD rfl (fun h271 => ?_) (fun h271 => ?_)
 ·refine GC.skip ?_
  refine GC.seq ?_
  refine GC.block ?_
  refine GC.seq ?_
  have hql : j < idx.length := by omega
  obtain ⟨y, hy⟩ : ∃ y, idx[j]? = some y := ⟨_, List.getElem?_eq_getElem hql⟩
  refine GC.reg ?_
  refine G.m1 ?_
  refine G.v (V.ia (i := j) Tryd.underlying44 Tryd.sizeOf5 rfl rfl hql) rfl ?_
  refine G.v (V.ld (b := tb) (off := 0 + j * 1) (wf := true) (l := bC (idx ++ z)) (T := 5) (fz := fz) (v := .int .u8 (y.toNat : Int)) Tryd.isAgg5 rfl (.head _) (by rw [nth_eq, Nat.zero_add, Nat.mul_one, bC_app, List.getElem?_append_left (by rw [bC_len]; exact hql)]; simp [bC, Lib.byteCells, hy])) rfl ?_
  refine G.m2 ?_
  refine G.m2 ?_
  refine G.nil ?_
  refine GC.seq ?_
  refine GC.reg ?_
  refine G.m1 ?_
  refine G.m1 ?_
  refine G.v (V.eqI rfl rfl) rfl ?_
  refine G.nil ?_
  refine GC.condD rfl (fun h277 => absurd (by rw [hy, UInt8.toNat_inj.1 (by have := h277; omega : y.toNat = ((up (runeK path (p.drop path.length)))).toNat)]) (hjn j)) (fun h277 => ?_)
  refine GC.skip ?_
  refine GC.inBlock ?_
  refine GC.reg ?_
  refine G.v (V.addI (r := ((j + 1 : Nat) : Int)) rfl rfl rfl (by omega) (by omega)) rfl ?_
  refine G.m1 ?_
  refine G.nil ?_
  exact ih (N - 1) _ _ (by omega) ⟨j + 1, by omega, .of rfl, rfl⟩
 refine GC.exit rfl ?_
 refine GC.seq ?_
 refine GC.seq ?_
 refine GC.turn (H' := (⟨qb, true, .row (rbR (up (runeK path (p.drop path.length)))) 98 (0, 0)⟩ :: ⟨bb, true, .row (bC bl) 5 (0, 0)⟩ :: Ht)) (fun w1 h1 => h1.sub (List.sublist_cons_self _ _)) ?_
 refine GC.reg ?_
 refine G.m1 ?_
 refine G.m1 ?_
 refine G.bc 292 rfl (fun h292 => ?_) (fun h292 => ?_)
 ·exact absurd h292 (by decide)
 ·refine G.s1 ?_
  refine G.s1 ?_
  refine G.m4 ?_
  refine G.m1 ?_
  refine G.s1 ?_
  refine G.s1 ?_
  refine G.s1 ?_
  refine G.s1 ?_
  refine G.s1 ?_
  refine G.m4 ?_
  refine G.nil ?_
  refine GC.condF rfl ?_
  refine GC.skip ?_
  refine GC.seq ?_
  refine GC.reg ?_
  refine G.m2 ?_
  refine G.nil ?_
  exact GC.ret1 rfl rfl fun w' hw' => fin bl w' hbl (tk_pre hbt hc0) (hw'.sub (List.sublist_cons_self _ _))
end Go.Proofs
