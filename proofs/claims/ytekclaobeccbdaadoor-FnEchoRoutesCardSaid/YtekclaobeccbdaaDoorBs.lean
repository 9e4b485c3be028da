/- The routes that a router tells, sorted: Router.Routes, sort.Slice and slices.SortFunc at routes. -/
import Derived.Test.YtekclaobeccbdaaDoorShelf
import Derived.Test.YtekclaobeccbdaaDoorShelf2
import Derived.Test.YtekclaobeccbdaaDoorBe
import Derived.WalkKit
import Derived.ProofKit
import Derived.Test.YtekclaobeccbdaaDoorBo
import Derived.Test.YtekclaobeccbdaaDoorBr
import Derived.Test.YtekclaobeccbdaaDoorBq
import Derived.Shelf.SlSortFuncK.WholeK
import Derived.Shelf.GgSortFunc.Tiny
import Derived.Deep.QuietTactic
import Derived.Test.YtekclaobeccbdaaDoorBi
import Derived.Test.YtekclaobeccbdaaDoorBj
/- slices.SortFunc at routes: how two routes are compared. -/
set_option maxRecDepth 100000
namespace Go.Proofs
open Go Go.Shelf Go.RowKit Go.Lib Go.Sort
/-- how two routes are compared -/
def cmpR (x y : Bw.RB) : Int := if Lib.compareBytes x.m y.m = 0 then Lib.compareBytes x.p y.p else Lib.compareBytes x.m y.m
set_option maxHeartbeats 1000000 in
theorem Tryd.closure30 (x y : Bw.RB) (W : World) : Calls Tryd.prog 30 #[.agg #[.string ⟨x.m.toArray⟩, .string ⟨x.p.toArray⟩, .string ⟨x.nm.toArray⟩], .agg #[.string ⟨y.m.toArray⟩, .string ⟨y.p.toArray⟩, .string ⟨y.nm.toArray⟩]] W fun e w' => e = .returned (.int .i64 (cmpR x y)) ∧ ∃ q os', w' = grow (W.drewN q) os' := by
  have hm := fun W' => Tryd.strings_Compare ⟨x.m.toArray⟩ ⟨y.m.toArray⟩ W'
  have hp := fun W' => Tryd.strings_Compare ⟨x.p.toArray⟩ ⟨y.p.toArray⟩ W'
  change ∀ W', Calls Tryd.prog 31 _ W' fun e w' => e = .returned (.int .i64 (Lib.compareBytes x.m y.m)) ∧ w' = W' at hm
  change ∀ W', Calls Tryd.prog 31 _ W' fun e w' => e = .returned (.int .i64 (Lib.compareBytes x.p y.p)) ∧ w' = W' at hp
  unfold cmpR
  generalize Lib.compareBytes x.m y.m = r at hm ⊢
  generalize Lib.compareBytes x.p y.p = s at hp ⊢
  go_enter Tryd.func30, Tryd.ntmps30
  by_cases hr : r = 0
  · go_wp2_with (go_at_call 31; first | (refine (hm _).mono ?_; rintro e w' ⟨rfl, rfl⟩) | (refine (hp _).mono ?_; rintro e w' ⟨rfl, rfl⟩))
    go_ret
    exact ⟨rfl, 0, _, by rw [alloc_eq_grow, alloc_eq_grow, grow_grow]; rfl⟩
  · go_wp2_with (go_at_call 31; first | (refine (hm _).mono ?_; rintro e w' ⟨rfl, rfl⟩) | (refine (hp _).mono ?_; rintro e w' ⟨rfl, rfl⟩))
    go_ret
    exact ⟨rfl, 0, _, by rw [alloc_eq_grow, alloc_eq_grow, grow_grow]; rfl⟩
end Go.Proofs

/- The order of routes: a strict weak order that parts any two routes of other methods or paths. -/
namespace Go.Proofs
open Go Go.Shelf Go.RowKit Go.Lib Go.Sort

theorem cB_neg : ∀ (a b : List UInt8), Lib.compareBytes a b < 0 ↔ a < b
  | [], [] => by simp [Lib.compareBytes]
  | [], b :: ys => by simp [Lib.compareBytes]
  | a :: xs, [] => by simp [Lib.compareBytes]
  | a :: xs, b :: ys => by
    have ih := cB_neg xs ys
    rw [List.cons_lt_cons_iff]
    unfold Lib.compareBytes
    by_cases h1 : a < b
    · simp [h1]
    · by_cases h2 : b < a
      · have : a ≠ b := fun e => by rw [e] at h2; exact absurd h2 (by simp)
        simp [h1, h2, this]
      · have : a = b := by
          apply UInt8.toNat_inj.1
          have h3 : ¬ a.toNat < b.toNat := h1
          have h4 : ¬ b.toNat < a.toNat := h2
          omega
        subst this
        simp [h1, ih]
theorem cB_zero : ∀ (a b : List UInt8), Lib.compareBytes a b = 0 ↔ a = b
  | [], [] => by simp [Lib.compareBytes]
  | [], b :: ys => by simp [Lib.compareBytes]
  | a :: xs, [] => by simp [Lib.compareBytes]
  | a :: xs, b :: ys => by
    have ih := cB_zero xs ys
    unfold Lib.compareBytes
    by_cases h1 : a < b
    · have : a ≠ b := fun e => by rw [e] at h1; exact absurd h1 (by simp)
      simp [h1, this]
    · by_cases h2 : b < a
      · have : a ≠ b := fun e => by rw [e] at h2; exact absurd h2 (by simp)
        simp [h1, h2, this]
      · have : a = b := by
          apply UInt8.toNat_inj.1
          have h3 : ¬ a.toNat < b.toNat := h1
          have h4 : ¬ b.toNat < a.toNat := h2
          omega
        subst this
        simp [h1, ih]
/-- a route ahead of another one -/
def ltR (x y : Bw.RB) : Prop := x.m < y.m ∨ (x.m = y.m ∧ x.p < y.p)
theorem ltOf_R (x y : Bw.RB) : ltOf cmpR x y = true ↔ ltR x y := by
  unfold ltOf cmpR ltR
  rw [decide_eq_true_eq]
  by_cases h : Lib.compareBytes x.m y.m = 0
  · rw [if_pos h, cB_neg]
    have e := (cB_zero _ _).1 h
    have : ¬ x.m < y.m := by rw [e]; exact List.lt_irrefl _
    constructor
    · intro h2; exact .inr ⟨e, h2⟩
    · rintro (h2 | ⟨_, h2⟩)
      · exact absurd h2 this
      · exact h2
  · rw [if_neg h, cB_neg]
    have e : x.m ≠ y.m := fun e => h ((cB_zero _ _).2 e)
    constructor
    · intro h2; exact .inl h2
    · rintro (h2 | ⟨h2, _⟩)
      · exact h2
      · exact absurd h2 e
theorem ltR_irrefl (x : Bw.RB) : ¬ ltR x x := by
  rintro (h | ⟨_, h⟩)
  · exact List.lt_irrefl _ h
  · exact List.lt_irrefl _ h
theorem ltR_trans {x y z : Bw.RB} (h1 : ltR x y) (h2 : ltR y z) : ltR x z := by
  rcases h1 with h1 | ⟨e1, h1⟩ <;> rcases h2 with h2 | ⟨e2, h2⟩
  · exact .inl (List.lt_trans h1 h2)
  · exact .inl (e2 ▸ h1)
  · exact .inl (e1 ▸ h2)
  · exact .inr ⟨e1.trans e2, List.lt_trans h1 h2⟩
theorem lt_or {a b : List UInt8} (h : ¬ a < b) : b < a ∨ a = b := by
  by_cases h2 : b < a
  · exact .inl h2
  · exact .inr (List.le_antisymm (List.not_lt.1 h2) (List.not_lt.1 h))
theorem ltR_total {x y : Bw.RB} (h : ¬ ltR x y) : ltR y x ∨ (x.m = y.m ∧ x.p = y.p) := by
  rcases lt_or (fun h1 => h (.inl h1)) with h1 | h1
  · exact .inl (.inl h1)
  · rcases lt_or (fun h2 => h (.inr ⟨h1, h2⟩)) with h2 | h2
    · exact .inl (.inr ⟨h1.symm, h2⟩)
    · exact .inr ⟨h1, h2⟩
theorem swoR : SWO (ltOf cmpR) where
  irrefl x := by
    cases h : ltOf cmpR x x with
    | false => rfl
    | true => exact absurd ((ltOf_R x x).1 h) (ltR_irrefl x)
  trans x y z h1 h2 := (ltOf_R x z).2 (ltR_trans ((ltOf_R x y).1 h1) ((ltOf_R y z).1 h2))
  ntrans x y z h1 h2 := by
    cases h : ltOf cmpR x z with
    | false => rfl
    | true =>
      exfalso
      have h3 := (ltOf_R x z).1 h
      have n1 : ¬ ltR x y := fun e => by rw [(ltOf_R x y).2 e] at h1; cases h1
      have n2 : ¬ ltR y z := fun e => by rw [(ltOf_R y z).2 e] at h2; cases h2
      rcases ltR_total n1 with g1 | ⟨g1, g1'⟩
      · exact n2 (ltR_trans g1 h3)
      · apply n2
        unfold ltR at h3 ⊢
        rw [← g1, ← g1']; exact h3
end Go.Proofs

/- slices.SortFunc of routes that the call owns. -/
set_option maxRecDepth 100000
namespace Bw
open Go Go.Proofs Go.Sort Go.Shelf
instance : Inhabited RB := ⟨⟨[], [], []⟩⟩
theorem flat_get : ∀ (L : List RB) (t : Nat), (L.flatMap RB.cells)[t]? = (L[t / 3]?).bind fun r => r.cells[t % 3]?
  | [], t => by simp
  | a :: L, t => by
    rw [List.flatMap_cons]
    have hl : a.cells.length = 3 := rfl
    by_cases h : t < 3
    · rw [List.getElem?_append_left (by omega), Nat.div_eq_of_lt h, Nat.mod_eq_of_lt h]; rfl
    · rw [List.getElem?_append_right (by omega), hl, flat_get L (t - 3)]
      have e1 : t / 3 = (t - 3) / 3 + 1 := by omega
      have e2 : t % 3 = (t - 3) % 3 := by omega
      rw [e1, e2]; rfl
theorem flat_len' (L : List RB) : (L.flatMap RB.cells).length = L.length * 3 := by
  induction L with
  | nil => rfl
  | cons a l ih => rw [List.flatMap_cons, List.length_append, ih, List.length_cons]; show 3 + _ = _; omega
theorem flatK_rows (d : Array RB) : flatK RB.cells 3 d = (d.toList.flatMap RB.cells).toArray := by
  apply Array.ext_getElem?
  intro t
  have e0 : (d.toList.flatMap RB.cells).toArray[t]? = (d.toList.flatMap RB.cells)[t]? := List.getElem?_toArray ..
  rw [e0, flat_get]
  by_cases h : t < d.size * 3
  · have h1 : t / 3 < d.size := by omega
    have h2 : t % 3 < 3 := by omega
    have h3 : (flatK RB.cells 3 d)[t]? = some ((RB.cells d[t / 3]!)[t % 3]!) := by
      rw [Array.getElem?_eq_getElem (by simpa using h), ← get_flatK RB.cells 3 d t h, getElem!_pos _ _ (by simpa using h)]
    rw [h3, Array.getElem?_toList, Array.getElem?_eq_getElem h1, getElem!_pos d _ h1]
    show some _ = (RB.cells _)[t % 3]?
    have h4 : t % 3 < (RB.cells d[t / 3]).length := h2
    rw [List.getElem?_eq_getElem h4, getElem!_pos (RB.cells d[t / 3]) (t % 3) h4]
  · rw [Array.getElem?_eq_none (by simpa using Nat.le_of_not_lt h), Array.getElem?_toList, Array.getElem?_eq_none (by omega)]
    rfl
theorem putCells_id (xs ts spare : List Value) (hl : ts.length = xs.length) : putCells id 0 ts.toArray (xs ++ spare).toArray = (ts ++ spare).toArray := by
  apply Array.ext_getElem?
  intro j
  simp only [putCells, Array.getElem?_mapIdx, List.getElem?_toArray, List.size_toArray, Nat.zero_le, true_and, Nat.zero_add, Nat.sub_zero]
  by_cases hj : j < ts.length
  · rw [List.getElem?_append_left (by omega), List.getElem?_append_left hj, List.getElem?_eq_getElem (by omega : j < xs.length), List.getElem?_eq_getElem hj]
    simp [hj]
  · rw [List.getElem?_append_right (by omega), List.getElem?_append_right (by omega)]
    simp only [hl]
    cases spare[j - xs.length]? <;> simp [hl ▸ hj]
theorem HF.putId {w0 : World} {D : Nat → Prop} {H : SH} {w : World} {b : Nat} {t : TypeId} {xs ts spare : List Value} (h : HF w0 D (⟨b, true, .row (xs ++ spare) t (0, 0)⟩ :: H) w) (hl : ts.length = xs.length) (n : Nat) (os : Array Obj) :
    HF w0 D (⟨b, true, .row (ts ++ spare) t (0, 0)⟩ :: H) (Go.Sort.grow (putRow id (Sort.ahead w n) b 0 ts.toArray) os) := by
  refine HF.grow ?_ os
  have hb := h.has _ (.head _)
  simp only [Blk.den] at hb
  have := h.upd (w' := putRow id (Sort.ahead w n) b 0 ts.toArray) (e := ⟨b, true, .row (xs ++ spare) t (0, 0)⟩) .z rfl (.row (ts ++ spare) t (0, 0)) (by simp [putRow, mapBlock, Sort.ahead])
    (by simp only [Blk.den]; rw [← putCells_id xs ts spare hl]; simp [putRow, mapBlock, Sort.ahead, Array.getElem?_modify, hb, onCells])
    (fun x hx => by simp only at hx; simp only [putRow, mapBlock, Sort.ahead]; rw [Array.getElem?_modify, if_neg (fun e => hx e.symm)]) rfl rfl rfl
  simpa [putE] using this
theorem sort_rows (w : World) (b cap : Nat) (L : List RB) (spare : List Value) (hb : w.heap[b]? = some (Blk.row (L.flatMap RB.cells ++ spare) 23 (0, 0)).den) (hlen : L.length ≤ 1000) :
    Calls Tryd.prog 29 #[.slice (some ⟨b, 0, none⟩) L.length cap, .func (.func 30) #[] #[]] w fun e w' => e = .returned (.tuple #[]) ∧ ∃ L' : List RB, L'.Perm L ∧ L'.Pairwise (fun x y => ¬ ltR y x) ∧
      ∀ w0 D H, HF w0 D (⟨b, true, .row (L.flatMap RB.cells ++ spare) 23 (0, 0)⟩ :: H) w → HF w0 D (⟨b, true, .row (L'.flatMap RB.cells ++ spare) 23 (0, 0)⟩ :: H) w' := by
  have eg : ∀ args w, (callFunc 30 args).run Tryd.prog w = .ok (.enter 30 args) w := enters_of Tryd.func30 (by kernel_rfl) rfl
  have hblk : b < w.heap.size := (Array.getElem?_eq_some_iff.1 hb).1
  have hH : HoldsK RB.cells 3 w b 0 L.toArray := by
    unfold HoldsK
    rw [flatK_rows]
    intro j hj
    have hj' : j < (L.flatMap RB.cells).length := by simpa using hj
    simp only [Blk.den] at hb
    refine ⟨?_, by simp [World.frozen?, hb]⟩
    simp only [World.cell?, hb, Nat.zero_add, List.getElem?_toArray, Option.isSome_none, Bool.false_eq_true, if_false]
    rw [List.getElem?_append_left hj', List.getElem?_eq_getElem hj', getElem!_pos _ _ (by simpa using hj)]
    simp
  have h := AnyQ.slices_SortFunc Tryd.sortF29 3 Tryd.isAgg23 Tryd.sizeOf23 RB.cells (fun _ => rfl) (fun x v hv => by
    simp only [RB.cells, List.mem_cons, List.not_mem_nil, or_false] at hv
    rcases hv with rfl | rfl | rfl <;> rfl) cmpR swoR 30 #[] b 0 cap L.toArray w eg (fun _ _ _ _ x y => Tryd.closure30 x y _) hH hblk (by simp; omega)
  change Calls Tryd.prog 29 _ _ _ at h
  refine h.mono fun e w' ⟨h1, d', n, os, h2, h3, h4⟩ => ⟨h1, d'.toList, ?_, ?_, fun w0 D H hw => ?_⟩
  · have := h2.2.2
    rw [Array.extract_size] at this
    have e : d'.extract 0 L.toArray.size = d' := by rw [← h2.1, Array.extract_size]
    rw [e] at this
    simpa using this
  · rw [List.pairwise_iff_getElem]
    intro i j hi hj hij hlt
    have hsz := h2.1
    have hi' : i < d'.size := by simpa using hi
    have hj' : j < d'.size := by simpa using hj
    have := h3 i j (Nat.zero_le _) hij (by omega)
    rw [getElem!_pos d' j hj', getElem!_pos d' i hi', (ltOf_R _ _).2 (by simpa using hlt)] at this
    cases this
  · rw [h4]
    unfold sortWorldK putRowK
    rw [flatK_rows]
    have hsz := h2.1
    exact HF.putId hw (by rw [flat_len', flat_len']; simp at hsz; simp [hsz]) n os
end Bw

/- The closure of FnEchoRoutes: the same method and path. Printed by wip/mk_k4.py. -/
namespace Go.Proofs
open Go Bw
set_option maxRecDepth 20000

theorem f28_any (w : World) (q r : RB) (xb : Nat) (hx : ∀ k v, r.cells[k]? = some v → w.cell? ⟨xb, k, none⟩ = some v) (hq : q.p.length ≤ 90000) : Calls Tryd.prog 28 #[.agg q.cells.toArray, Pt xb 0] w fun e w' => e = .returned (.bool (decide (q.m = r.m ∧ ePath q.p = r.p))) ∧ HF w (fun _ => False) [] w' := by
  refine enter (fun _ => False) [] Tryd.func28 rfl Tryd.ntmps28 rfl rfl (HF.start w _) fun c hc => ?_
  subst hc
  refine GC.seq ?_
  refine GC.reg ?_  -- region 0, echo.go:262
  refine G.bx (l := q.cells) rfl (by simp [cells_agg, RB.cells]) rfl (fun b2 hb2 => ?_)
  refine G.v (V.asg rfl) rfl ?_
  refine G.nil ?_
  refine GC.seq ?_
  refine GC.regQ mixed (by kernel_rfl) ?_  -- region 1, echo.go:262
  refine GQ.v (V.fa F23_0 rfl) rfl ?_
  refine GQ.v (V.ld (b := b2) (off := 0 + 0) (wf := true) (l := q.cells) (T := 23) (fz := (0, 0)) (v := S q.m) Tryd.isAgg9 rfl (.head _) rfl) rfl ?_
  refine GQ.v (V.fa F23_0 rfl) rfl ?_
  refine GQ.v (V.ldC (v := S r.m) Tryd.isAgg9 rfl (hx 0 _ rfl) id) rfl ?_
  refine GQ.v (V.eqS rfl rfl) rfl ?_
  refine GQ.v (V.mv rfl) rfl ?_
  refine GQ.bc 9 rfl (fun h9 => ?_) (fun h9 => ?_)
  · refine GQ.vg rfl rfl (V.fa F23_1 rfl) rfl ?_
    refine GQ.vg rfl rfl (V.ld (b := b2) (off := 0 + 1) (wf := true) (l := q.cells) (T := 23) (fz := (0, 0)) (v := S q.p) Tryd.isAgg9 rfl (.head _) rfl) rfl ?_
    refine GQ.gd rfl rfl ?_
    refine GQ.callP Tryd.call21 rfl rfl (fun w1 hw1 => f21_any w1 q.p (by omega)) ?_
    refine GQ.vg rfl rfl (V.fa F23_1 rfl) rfl ?_
    refine GQ.vg rfl rfl (V.ldC (v := S r.p) Tryd.isAgg9 rfl (hx 1 _ rfl) id) rfl ?_
    refine GQ.vg rfl rfl (V.eqS rfl rfl) rfl ?_
    refine GQ.v (V.pickT rfl rfl) rfl ?_
    refine GQ.v (V.asg rfl) rfl ?_
    refine GQ.nil ?_
    have hm := of_decide_eq_true h9
    exact GC.ret1 rfl rfl fun w' hw' => ⟨by simp [hm], hw'.sub (List.nil_sublist _)⟩
  · refine GQ.sg rfl rfl rfl rfl rfl rfl ?_
    refine GQ.sg rfl rfl rfl rfl rfl rfl ?_
    refine GQ.sg rfl rfl rfl rfl rfl rfl ?_
    refine GQ.sg rfl rfl rfl rfl rfl rfl ?_
    refine GQ.sg rfl rfl rfl rfl rfl rfl ?_
    refine GQ.sg rfl rfl rfl rfl rfl rfl ?_
    refine GQ.v (V.pickF rfl rfl) rfl ?_
    refine GQ.v (V.asg rfl) rfl ?_
    refine GQ.nil ?_
    have hm := of_decide_eq_false h9
    exact GC.ret1 rfl rfl fun w' hw' => ⟨by simp [hm], hw'.sub (List.nil_sublist _)⟩
end Go.Proofs

/- slices.IndexFunc, slices.ContainsFunc at routes. Printed by wip/mk_k5.py. -/
namespace Go.Proofs
open Go Bw
set_option maxRecDepth 20000

abbrev sameR (r q : RB) : Prop := q.m = r.m ∧ ePath q.p = r.p
theorem f45_any (w : World) (ad : Option Addr) (cp : Nat) (Rs : List RB) (r : RB) (xb : Nat) (hat : RtsAt w ad Rs) (hl : Rs.length ≤ 1000000) (hb : ∀ q ∈ Rs, q.p.length ≤ 90000) (hx : ∀ k v, r.cells[k]? = some v → w.cell? ⟨xb, k, none⟩ = some v) :
    Calls Tryd.prog 45 #[.slice ad Rs.length cp, .func (.func 28) #[] #[Pt xb 0]] w fun e w' => ∃ n : Int, (0 ≤ n ↔ ∃ q ∈ Rs, sameR r q) ∧ e = .returned (I n) ∧ HF w (fun _ => False) [] w' := by
  refine enter (fun _ => False) [] Tryd.func45 rfl Tryd.ntmps45 rfl rfl (HF.start w _) fun c hc => ?_
  subst hc

  refine GC.seq ?_
  refine GC.reg ?_  -- region 0, slices.go:107
  refine G.v (V.asg rfl) rfl ?_
  refine G.nil ?_
  refine GC.seq ?_
  refine GC.seq ?_
  refine GC.reg ?_  -- region 1, slices.go:108
  refine G.v (V.mv rfl) rfl ?_
  refine G.v (V.lenL Tryd.underlying28 rfl) rfl ?_
  refine G.v (V.mv rfl) rfl ?_
  refine G.nil ?_
  refine GC.block ?_
  refine GC.loopJ (fun N fr' H' => ∃ j, j + N = Rs.length ∧ (∀ (i : Nat) q, i < j → Rs[i]? = some q → ¬ sameR r q) ∧ Sub [(6, .slice ad Rs.length cp), (7, I (Rs.length : Nat)), (8, I ((j : Nat) : Int)), (0, .slice ad Rs.length cp), (1, .func (.func 28) #[] #[Pt xb 0])] fr' ∧ H' = []) Rs.length
    ⟨0, by omega, fun i q h => absurd h (Nat.not_lt_zero i), .cons rfl (.cons rfl (.cons rfl (.cons rfl (.cons rfl .nil)))), rfl⟩ ?_
  rintro N fr' H' ⟨j, hj, hall, hs, rfl⟩ ih
  refine GC.weak hs ?_
  clear hs
  refine GC.seq ?_
  refine GC.reg ?_  -- region 2, slices.go:108
  refine G.v (V.lt rfl rfl) rfl ?_
  refine G.nil ?_
  refine GC.seq ?_
  refine GC.condD rfl (fun h9 => ?_) (fun h9 => ?_)
  · refine GC.skip ?_
    refine GC.seq ?_
    refine GC.block ?_
    refine GC.seq ?_
    have hlt : j < Rs.length := by omega
    obtain ⟨q, hq⟩ : ∃ q, Rs[j]? = some q := ⟨_, List.getElem?_eq_getElem hlt⟩
    have hqp := hb q (List.mem_of_getElem? hq)
    obtain ⟨ab, o, rfl, hcell⟩ := hat j q hq
    refine GC.reg ?_  -- region 3, slices.go:108
    refine G.v (V.mv rfl) rfl ?_
    refine G.v (V.asg rfl) rfl ?_
    refine G.nil ?_
    refine GC.seq ?_
    refine GC.reg ?_  -- region 4, slices.go:109
    refine G.v (V.mv rfl) rfl ?_
    refine G.v (V.mv rfl) rfl ?_
    refine G.v (V.mv rfl) rfl ?_
    refine G.v (V.ia (i := j) Tryd.underlying28 Tryd.sizeOf23 rfl rfl hlt) rfl ?_
    refine G.v (V.ldAC (cs := q.cells) Tryd.isAgg23 Tryd.sizeOf23 rfl hcell rfl id) rfl ?_
    refine G.callV (xs := [.tmp 15]) (vs := [.agg q.cells.toArray]) (cs := [Pt xb 0]) (K := fun v w' => v = .bool (decide (sameR r q)) ∧ HF w (fun _ => False) [] w') Tryd.call28 rfl rfl rfl (fun w1 hw1 => (f28_any w1 q r xb (fun k v hk => hw1.cellOld (hx k v hk) id) hqp).mono fun e w' ⟨h1, h2⟩ => ⟨_, h1, rfl, by simpa using hw1.after0 h2 (fun e he => by cases he)⟩) ?_
    rintro v w1 w2 _ ⟨rfl, hw2⟩
    refine ⟨[], hw2, ?_⟩
    refine G.nil ?_
    refine GC.cond rfl (fun h16 => ?_) (fun h16 => ?_)
    · refine GC.seq ?_
      refine GC.reg ?_  -- region 5, slices.go:110
      refine G.v (V.mv rfl) rfl ?_
      refine G.v (V.asg rfl) rfl ?_
      refine G.nil ?_
      have hs := of_decide_eq_true h16
      exact GC.ret1 rfl rfl fun w' hw' => ⟨(j : Nat), ⟨fun _ => ⟨q, List.mem_of_getElem? hq, hs⟩, fun _ => by omega⟩, rfl, hw'⟩
    refine GC.skip ?_
    refine GC.inBlock ?_
    refine GC.reg ?_  -- region 6, slices.go:108
    refine G.v (V.addI (r := ((j + 1 : Nat) : Int)) rfl rfl rfl (by omega) (by omega)) rfl ?_
    refine G.v (V.mv rfl) rfl ?_
    refine G.nil ?_
    refine ih (N - 1) _ _ (by omega) ⟨j + 1, by omega, fun i q' hi hq' => ?_, .cons rfl (.cons rfl (.cons rfl (.cons rfl (.cons rfl .nil)))), rfl⟩
    by_cases hij : i = j
    · subst hij; rw [hq] at hq'; cases hq'; exact of_decide_eq_false h16
    · exact hall i q' (by omega) hq'
  refine GC.exit rfl ?_
  refine GC.seq ?_
  refine GC.reg ?_  -- region 7, slices.go:113
  refine G.v (V.asg rfl) rfl ?_
  refine G.nil ?_
  exact GC.ret1 rfl rfl fun w' hw' => ⟨-1, ⟨fun h => by omega, fun ⟨q, hq, hs⟩ => by obtain ⟨i, hi⟩ := List.getElem?_of_mem hq; exact absurd hs (hall i q (by have := (List.getElem?_eq_some_iff.1 hi).1; omega) hi)⟩, rfl, hw'⟩

theorem f27_any (w : World) (ad : Option Addr) (cp : Nat) (Rs : List RB) (r : RB) (xb : Nat) (hat : RtsAt w ad Rs) (hl : Rs.length ≤ 1000000) (hb : ∀ q ∈ Rs, q.p.length ≤ 90000) (hx : ∀ k v, r.cells[k]? = some v → w.cell? ⟨xb, k, none⟩ = some v) :
    Calls Tryd.prog 27 #[.slice ad Rs.length cp, .func (.func 28) #[] #[Pt xb 0]] w fun e w' => ∃ b : Bool, (b = true ↔ ∃ q ∈ Rs, sameR r q) ∧ e = .returned (.bool b) ∧ HF w (fun _ => False) [] w' := by
  refine enter (fun _ => False) [] Tryd.func27 rfl Tryd.ntmps27 rfl rfl (HF.start w _) fun c hc => ?_
  subst hc
  refine GC.seq ?_
  refine GC.reg ?_  -- region 0, slices.go:124
  refine G.v (V.asg rfl) rfl ?_
  refine G.nil ?_
  refine GC.seq ?_
  refine GC.reg ?_  -- region 1, slices.go:125
  refine G.v (V.mv rfl) rfl ?_
  refine G.v (V.mv rfl) rfl ?_
  refine G.callW (fun v H2 => ∃ n : Int, (0 ≤ n ↔ ∃ q ∈ Rs, sameR r q) ∧ v = I n ∧ H2 = []) Tryd.call45 rfl rfl (fun w1 hw1 => ?_) ?_
  · refine (f45_any w1 ad cp Rs r xb (fun i r hr => by obtain ⟨b, o, h1, h2⟩ := hat i r hr; exact ⟨b, o, h1, fun j v hj => hw1.cellOld (h2 j v hj) id⟩) hl hb (fun k v hk => hw1.cellOld (hx k v hk) id)).mono fun e w' ⟨n, h1, h2, h3⟩ => ⟨_, _, h2, ?_, n, h1, rfl, rfl⟩
    exact hw1.after0 h3 (fun e he => by cases he)
  rintro v H2 ⟨n, hn, rfl, rfl⟩
  refine G.v (V.ge rfl rfl) rfl ?_
  refine G.v (V.asg rfl) rfl ?_
  refine G.nil ?_
  exact GC.ret1 rfl rfl fun w' hw' => ⟨_, ⟨fun h => hn.1 (of_decide_eq_true h), fun h => decide_eq_true (hn.2 h)⟩, rfl, hw'⟩
end Go.Proofs

/- A new row of pointers with room. -/
set_option maxRecDepth 20000
namespace Bw
open Go Go.Proofs
theorem madeP (z : Nat) : (Go.madeCells (Value.cells (PO none)) z).toList = List.replicate z (PO none) := by
  simp only [Go.madeCells, Array.toList_map, Array.toList_range]
  have h : (PO none).cells = #[PO none] := rfl
  rw [h]
  refine List.ext_getElem? fun i => ?_
  by_cases hi : i < z
  · rw [List.getElem?_map, List.getElem?_range hi, List.getElem?_replicate_of_lt hi]
    simp [Nat.mod_one]
  · rw [List.getElem?_eq_none (by simpa using hi), List.getElem?_eq_none (by simpa using hi)]
theorem mkP {a : Act} {w1 : World} {n d z : Nat} {fr : SF} {x y : Operand} {ty : TypeId} {pos : String} {aft : Array Edge} (ha : Fr n fr a) (hx : ev fr x = some (I 0)) (hy : ev fr y = some (I (z : Int))) (hz : z ≤ 1000) :
    (execOp a.eval ⟨some d, .makeSlice 78 x y, ty, pos, aft, none⟩).run Tryd.prog w1 = .ok (.value (.slice (some ⟨w1.heap.size, 0, none⟩) 0 z)) { w1 with heap := w1.heap.push (Blk.row (List.replicate z (PO none)) 80 (0, 0)).den } := by
  have hr := run_make (P := Tryd.prog) w1 78 80 Tryd.t80 (PO none) Tryd.underlying78 rfl rfl .i64 .i64 (0 : Int) (z : Int) (by omega) (by omega) (by show ((8 : Nat) : Int) * _ ≤ _; omega) (by omega)
  have hs : (Tryd.t80).size = 1 := rfl
  rw [hs, Nat.mul_one, Int.toNat_natCast] at hr
  have hm : Go.madeCells (Value.cells (PO none)) z = (List.replicate z (PO none)).toArray := by rw [← madeP]
  rw [hm] at hr
  simp only [execOp, ha.eval hx, ha.eval hy, Sem.run_bind, Blk.den]
  rw [hr]
  rfl
theorem V.lenKV {P : Program} {c : Cx} {n : Nat} {fr : SF} {H : SH} {ty t kt e : TypeId} {x : Operand} {b : Nat} {kv : KV} (hU : P.underlying t = some (.map kt e)) (h : ev fr x = some (.map (some b))) (hm : c.w0.heap[b]? = some (mkM kv)) (hD : ¬ c.D b) :
    Val P c n (.call ⟨.builtin .len, #[x], #[t]⟩) ty fr H (I (kv.length : Nat)) := by
  intro a w ha hw dst pos aft g
  have hb : w.heap[b]? = some (mkM kv) := hw.old hm hD
  have hg : (getObj b).run P w = .ok (.map (mkEL 0 kv).toArray kv.length) w := by simp [getObj, Sem.run, hb, mkM]
  simp [execOp, resolve, invoke, builtin, ha.eval h, Builtin.len_, underlying, hU, goInt, hg, mkEL_length]
end Bw

/- Router.Routes. Printed by wip/mk_k7.py. -/
namespace Go.Proofs
open Go Bw
set_option maxRecDepth 20000

theorem f74_any (w : World) (rb rt : Nat) (kv : KV) (nbs : List Nat) (hrb : w.cell? ⟨rb, 1, none⟩ = some (.map (some rt))) (hkv : w.heap[rt]? = some (mkM kv)) (hkl : kv.length ≤ 1000)
    (hQ : ∀ (j : Nat) p, kv[j]? = some p → ∃ nb, p.2 = Pt nb 0 ∧ nbs[j]? = some nb) :
    Calls Tryd.prog 74 #[Pt rb 0] w fun e w' => ∃ (v : Value) (ord : List Nat) (Hs : SH), e = .returned v ∧ ord.Perm (List.range kv.length) ∧ Own 80 1 v ord.length (ord.map fun j => Pt (nbs.getD j 0) 0) Hs ∧ HF w (fun _ => False) Hs w' := by
  refine enter (fun _ => False) [] Tryd.func74 rfl Tryd.ntmps74 rfl rfl (HF.start w _) fun c hc => ?_
  subst hc
  have hrtl : rt < w.heap.size := (Array.getElem?_eq_some_iff.1 hkv).1
  refine GC.seq ?_
  refine GC.reg ?_  -- region 0, router.go:148
  refine G.v (V.asg rfl) rfl ?_
  refine G.nil ?_
  refine GC.seq ?_
  refine GC.reg ?_  -- region 1, router.go:149
  refine G.v (V.mv rfl) rfl ?_
  refine G.v (V.nc rfl) rfl ?_
  refine G.v (V.fa F139_1 rfl) rfl ?_
  refine G.v (V.ldC (v := .map (some rt)) Tryd.isAgg137 rfl hrb id) rfl ?_
  refine G.v (V.lenKV Tryd.underlying137 rfl hkv id) rfl ?_
  refine G.new (kb := .row (List.replicate kv.length (PO none)) 80 (0, 0)) (v := fun b => .slice (some ⟨b, 0, none⟩) 0 kv.length) (fun a w1 ha hw1 => mkP ha rfl rfl hkl) rfl (fun b hb => ?_)
  replace hb : w.heap.size ≤ b := hb
  have hown0 : Own 80 1 (.slice (some ⟨b, 0, none⟩) 0 kv.length) 0 [] [⟨b, true, .row ([] ++ List.replicate kv.length (PO none)) 80 (0, 0)⟩] := .row rfl (by simp) (Nat.zero_le _)
  refine G.v (V.asg rfl) rfl ?_
  refine G.nil ?_
  refine GC.seq ?_
  refine GC.seq ?_
  refine GC.reg ?_  -- region 2, router.go:150
  refine G.v (V.mv rfl) rfl ?_
  refine G.v (V.nc rfl) rfl ?_
  refine G.v (V.fa F139_1 rfl) rfl ?_
  refine G.v (V.ldC (v := .map (some rt)) Tryd.isAgg137 rfl hrb id) rfl ?_
  refine G.turn (H' := [⟨rt, false, .obj (mkM kv)⟩, ⟨b, true, .row ([] ++ List.replicate kv.length (PO none)) 80 (0, 0)⟩]) (fun w1 hw1 => hw1.add (hw1.old hkv id) (fun h => by cases h) (fun e he h => ?_)) ?_
  · simp only [List.mem_singleton] at he
    subst he
    have : b = rt := h
    omega
  refine G.rng (kv := kv) Tryd.underlying137 rfl (.head _) rfl (fun it hit => ?_)
  refine G.nil ?_
  refine GC.block ?_
  refine GC.loopJ (fun N fr' H' => ∃ rem seen sv Hs, List.length rem = N ∧ (rem ++ seen).Perm (List.range kv.length) ∧ Own 80 1 sv seen.length (seen.map fun j => Pt (nbs.getD j 0) 0) Hs ∧ Sub [(0, Pt rb 0), (3, sv), (16, Pt it 0)] fr' ∧ H' = [⟨it, true, .obj (mkIt rt kv.length seen kv.length)⟩, ⟨rt, false, .obj (mkM kv)⟩] ++ Hs) kv.length
    ⟨List.range kv.length, [], _, _, List.length_range, by simp, hown0, .cons rfl (.cons rfl (.cons rfl .nil)), rfl⟩ ?_
  rintro N fr' H' ⟨rem, seen, sv, Hs, hN, hp1, hown, hs, rfl⟩ ih
  refine GC.weak hs ?_
  clear hs
  obtain ⟨ads, cps, rfl⟩ := hown.slice
  have hsl : rem.length + seen.length = kv.length := by have := hp1.length_eq; rw [List.length_append, List.length_range] at this; exact this
  refine GC.seq ?_
  refine GC.reg ?_  -- region 3, router.go:150
  refine G.nxt (kv := kv) rfl .z (.tail _ (.head _)) rfl (fun hall => ?_) (fun j p hj hns => ?_)
  · have hrem : rem = [] := by
      cases hr : rem with
      | nil => rfl
      | cons j r =>
        subst hr
        have hjm : j ∈ List.range kv.length := hp1.mem_iff.1 (by simp)
        have hjs := hall j (List.mem_range.1 hjm)
        have hnd : ((j :: r) ++ seen).Nodup := hp1.nodup_iff.2 List.nodup_range
        exact absurd (List.mem_append_right r hjs) (List.nodup_cons.1 hnd).1
    subst hrem
    refine G.v (V.ex rfl rfl) rfl ?_
    refine G.nil ?_
    refine GC.seq ?_
    refine GC.condF rfl ?_
    refine GC.exit rfl ?_
    refine GC.seq ?_
    refine GC.reg ?_  -- region 6, router.go:153
    refine G.v (V.mv rfl) rfl ?_
    refine G.v (V.asg rfl) rfl ?_
    refine G.nil ?_
    refine GC.ret1 rfl rfl fun w' hw' => ⟨_, seen, Hs, rfl, by simpa using hp1, hown, hw'.sub (List.sublist_append_right _ _)⟩
  · obtain ⟨nb, hpe, hq⟩ := hQ j p hj
    refine G.v (V.ex rfl rfl) rfl ?_
    refine G.nil ?_
    refine GC.seq ?_
    refine GC.condT rfl ?_
    refine GC.skip ?_
    refine GC.block ?_
    refine GC.seq ?_
    refine GC.reg ?_  -- region 4, router.go:150
    refine G.v (V.ent (kv := kv) rfl (.head _) (.tail _ (.head _)) hj) rfl ?_
    rw [hpe]
    refine G.v (V.ex rfl rfl) rfl ?_
    refine G.v (V.asg rfl) rfl ?_
    refine G.nil ?_
    refine GC.reg ?_  -- region 5, router.go:151
    refine G.v (V.mv rfl) rfl ?_
    refine G.v (V.mv rfl) rfl ?_
    refine G.bs (BS.one Tryd.underlying78 Tryd.sizeOf80 Tryd.zeroValue80 (v := Pt nb 0) rfl) rfl rfl (fun tb htb => ?_)
    refine G.app (i := Tryd.t80) (sz := 1) (by_ := 8) Tryd.underlying78 rfl rfl rfl rfl rfl rfl rfl hown (H' := [⟨tb, true, .row [Pt nb 0] 80 (0, 0)⟩, ⟨it, true, .obj (mkIt rt kv.length (seen ++ [j]) kv.length)⟩, ⟨rt, false, .obj (mkM kv)⟩]) (List.perm_append_comm (l₁ := ([⟨tb, true, .row [Pt nb 0] 80 (0, 0)⟩, ⟨it, true, .obj (mkIt rt kv.length (seen ++ [j]) kv.length)⟩, ⟨rt, false, .obj (mkM kv)⟩] : SH))) (src_row (vs := [Pt nb 0]) (r := []) (.head _)) rfl (by simp [Value.oneCell']) (by omega) (by omega) (by omega) rfl (fun sv2 Hs2 hown5 => ?_)
    refine G.v (V.asg rfl) rfl ?_
    refine G.nil ?_
    refine GC.inBlock ?_
    have hjr : j ∈ rem := by
      have hjk : j < kv.length := (List.getElem?_eq_some_iff.1 hj).1
      rcases List.mem_append.1 (hp1.mem_iff.2 (List.mem_range.2 hjk)) with h | h
      · exact h
      · exact absurd h hns
    have hlen := List.length_erase_of_mem hjr
    have hpos := List.length_pos_of_mem hjr
    have hp2 : (rem.erase j ++ (seen ++ [j])).Perm (List.range kv.length) := by
      refine List.Perm.trans ?_ hp1
      have h1 := (List.perm_cons_erase hjr).symm
      have h2 : (rem.erase j ++ (seen ++ [j])).Perm (j :: rem.erase j ++ seen) := by
        rw [← List.append_assoc]
        exact List.perm_append_singleton j _
      exact h2.trans (h1.append_right seen)
    have hown6 : Own 80 1 sv2 (seen ++ [j]).length ((seen ++ [j]).map fun j => Pt (nbs.getD j 0) 0) Hs2 := by
      rw [List.length_append, List.map_append]
      have e : nbs.getD j 0 = nb := by rw [List.getD_eq_getElem?_getD, hq]; rfl
      simp only [List.map_cons, List.map_nil, e]
      exact hown5
    exact GC.weakH (List.sublist_cons_self _ _) (ih (N - 1) _ _ (by omega) ⟨rem.erase j, seen ++ [j], sv2, Hs2, by omega, hp2, hown6, .cons rfl (.cons rfl (.cons rfl .nil)), rfl⟩)
end Go.Proofs

/- ZZ.Routes. Printed by wip/mk_k8.py. -/
namespace Go.Proofs
open Go Bw
set_option maxRecDepth 20000

theorem row_cells {w : World} {b : Nat} {l : List Value} {t : TypeId} (h : w.heap[b]? = some (Blk.row l t (0, 0)).den) : ∀ k v, l[k]? = some v → w.cell? ⟨b, k, none⟩ = some v := fun k v hk => by
  simp only [Blk.den] at h
  simp only [World.cell?, h, List.getElem?_toArray, Option.isSome_none, Bool.false_eq_true, if_false]
  exact hk
theorem f49_any (w : World) (rb root rt eb zb z : Nat) (T : List NR) (L : List Rt) (hh : ∀ e ∈ RH rb root rt eb zb z T L, w.heap[e.b]? = some e.k.den) (hl : (rks L).length ≤ 1000) :
    Calls Tryd.prog 49 #[Pt zb 0] w fun e w' => ∃ (v : Value) (ord : List Nat) (Hs : SH), e = .returned v ∧ ord.Perm (List.range (rks L).length) ∧ Own 80 1 v ord.length (ord.map fun j => Pt (((rks L).map Rt.nb).getD j 0) 0) Hs ∧ HF w (fun _ => False) Hs w' := by
  refine enter (fun _ => False) [] Tryd.func49 rfl Tryd.ntmps49 rfl rfl (HF.start w _) fun c hc => ?_
  subst hc
  have hz0 := row_cells (hh (zzE zb rb z) (.tail _ (.tail _ (.head _)))) 0 (Pt rb 0) rfl
  have hr1 := row_cells (hh (rtE rb root rt eb) (.head _)) 1 (.map (some rt)) rfl
  have hmp : w.heap[rt]? = some (mkM (rkv L)) := hh (mpE rt (rkv L)) (.tail _ (.tail _ (.tail _ (.head _))))
  have hkl : (rkv L).length = (rks L).length := by rw [rkv_rks, List.length_map]
  refine GC.seq ?_
  refine GC.reg ?_  -- region 0, zz_context.go:69
  refine G.v (V.asg rfl) rfl ?_
  refine G.nil ?_
  refine GC.seq ?_
  refine GC.reg ?_  -- region 1, zz_context.go:69
  refine G.v (V.mv rfl) rfl ?_
  refine G.v (V.nc rfl) rfl ?_
  refine G.v (V.fa F93_0 rfl) rfl ?_
  refine G.v (V.ldC (v := Pt rb 0) Tryd.isAgg91 rfl hz0 id) rfl ?_
  refine G.callW (fun v H2 => ∃ ord : List Nat, ord.Perm (List.range (rks L).length) ∧ Own 80 1 v ord.length (ord.map fun j => Pt (((rks L).map Rt.nb).getD j 0) 0) H2) Tryd.call74 rfl rfl (fun w1 hw1 => ?_) ?_
  · refine (f74_any w1 rb rt (rkv L) ((rks L).map Rt.nb) (hw1.cellOld hr1 id) (hw1.old hmp id) (by omega) (fun j p hp => ?_)).mono fun e w' ⟨v, ord, Hs, h1, h2, h3, h4⟩ => ?_
    · rw [rkv_rks, List.getElem?_map] at hp
      obtain ⟨r, hr, rfl⟩ := Option.map_eq_some_iff.1 hp
      exact ⟨r.nb, rfl, by rw [List.getElem?_map, hr]; rfl⟩
    · have := hw1.after0 h4 h3.w
      exact ⟨v, Hs, h1, by simpa using this, ord, by rw [← hkl]; exact h2, h3⟩
  rintro v H2 ⟨ord, hperm, hown⟩
  refine G.v (V.asg rfl) rfl ?_
  refine G.nil ?_
  exact GC.ret1 rfl rfl fun w' hw' => ⟨v, ord, H2, rfl, hperm, hown, hw'⟩
end Go.Proofs

/- sort.Slice at routes: the closure, and what it does to a row that the call owns. -/
set_option maxRecDepth 100000
namespace Go.Proofs
open Go Go.Shelf Go.RowKit Go.Lib Go.Sort

theorem bL_lt : ∀ (a b : List UInt8), Op.bytesLess a b = true ↔ a < b
  | [], [] => by simp [Op.bytesLess]
  | [], b :: ys => by simp [Op.bytesLess]
  | a :: xs, [] => by simp [Op.bytesLess]
  | a :: xs, b :: ys => by
    have ih := bL_lt xs ys
    rw [List.cons_lt_cons_iff]
    unfold Op.bytesLess
    by_cases h : a = b
    · subst h; simp [ih]
    · by_cases h1 : a < b
      · simp [h1, h]
      · simp [h1, h]

set_option maxHeartbeats 2000000 in
theorem Tryd.closure51 (blk off c Bs size : Nat) (W : World) (x y : Bw.RB) (i j : Nat) (hi : i < size) (hj : j < size) (_hsz : size < 4611686018427387904) (hs : W.cell? ⟨Bs, 0, none⟩ = some (.slice (some ⟨blk, off, none⟩) size c))
    (xm : W.cell? ⟨blk, off + i * 3, none⟩ = some (.string ⟨x.m.toArray⟩)) (xp : W.cell? ⟨blk, off + i * 3 + 1, none⟩ = some (.string ⟨x.p.toArray⟩))
    (ym : W.cell? ⟨blk, off + j * 3, none⟩ = some (.string ⟨y.m.toArray⟩)) (yp : W.cell? ⟨blk, off + j * 3 + 1, none⟩ = some (.string ⟨y.p.toArray⟩)) :
    Calls Tryd.prog 51 #[.int .i64 i, .int .i64 j, .pointer (some ⟨Bs, 0, none⟩)] W fun e w' => e = .returned (.bool (ltOf cmpR x y)) ∧ ∃ q, w' = W.drewN q := by
  have hlt : ltOf cmpR x y = if x.m = y.m then Op.bytesLess x.p y.p else Op.bytesLess x.m y.m := by
    rw [Bool.eq_iff_iff, ltOf_R]
    unfold ltR
    by_cases h : x.m = y.m
    · simp [h, bL_lt, List.lt_irrefl]
    · simp [h, bL_lt]
  rw [hlt]
  clear hlt
  go_enter Tryd.func51, Tryd.ntmps51
  go_wp2
  go_quiet (fail)
  by_cases hm : x.m = y.m
  · have hb : (x.m == y.m) = true := by simpa using hm
    simp only [hb, Bool.not_true]
    go_wp2
    go_quiet (fail)
    go_wp2
    go_ret
    exact ⟨by simp, _, rfl⟩
  · have hb : (x.m == y.m) = false := by simpa using hm
    simp only [hb, Bool.not_false]
    go_wp2
    go_quiet (fail)
    go_wp2
    go_ret
    exact ⟨by simp, _, rfl⟩

noncomputable def Tryd.siT : TypeInfo := (Tryd.prog.info? 35).get (by kernel_rfl)
noncomputable def Tryd.siE : TypeInfo := (Tryd.prog.info? 51).get (by kernel_rfl)
theorem Tryd.siK (n : Nat) (h2 : 2 ≤ n) : Lib.swapperK n Tryd.siE 25 = 9 := by
  have a : Tryd.siE.hasPointers = true := by kernel_rfl
  have b : Tryd.siE.bytes = 48 := by kernel_rfl
  have c : (n == 0) = false := by simp; omega
  have d : (n == 1) = false := by simp; omega
  simp [Lib.swapperK, a, b, c, d]
theorem Tryd.sort_tiny (p : Option Addr) (n c : Nat) (h1 : n ≤ 1) (lf : Fn) (la lb : Array Value) (w : World) :
    Calls Tryd.prog 50 #[.iface 35 (.slice p n c), .func lf la lb] w fun e w' => e = .returned (.tuple #[]) ∧ ∃ os, w' = grow w os := by
  rcases (by omega : n = 0 ∨ n = 1) with rfl | rfl
  · exact Any.sort_Slice_tiny Tryd.laysGg6 35 51 Tryd.siT Tryd.siE (by kernel_rfl) (by kernel_rfl) (by kernel_rfl) (by kernel_rfl) 25 (fun _ => by kernel_rfl) p 0 c (by omega) 99 (by kernel_rfl) lf la lb w
  · exact Any.sort_Slice_tiny Tryd.laysGg6 35 51 Tryd.siT Tryd.siE (by kernel_rfl) (by kernel_rfl) (by kernel_rfl) (by kernel_rfl) 25 (fun _ => by kernel_rfl) p 1 c (by omega) 100 (by kernel_rfl) lf la lb w
end Go.Proofs
namespace Bw
open Go Go.Proofs Go.Sort Go.Shelf
theorem sort_slice (w : World) (b cap cb : Nat) (L : List RB) (spare : List Value) (hb : w.heap[b]? = some (Blk.row (L.flatMap RB.cells ++ spare) 51 (0, 0)).den) (hcb : w.cell? ⟨cb, 0, none⟩ = some (.slice (some ⟨b, 0, none⟩) L.length cap)) (hcl : cb < w.heap.size) (hne : cb ≠ b) (hlen : L.length ≤ 1000) :
    Calls Tryd.prog 50 #[.iface 35 (.slice (some ⟨b, 0, none⟩) L.length cap), .func (.func 51) #[] #[Pt cb 0]] w fun e w' => e = .returned (.tuple #[]) ∧ ∃ L' : List RB, L'.Perm L ∧ L'.Pairwise (fun x y => ¬ ltR y x) ∧
      ∀ w0 D H, HF w0 D (⟨b, true, .row (L.flatMap RB.cells ++ spare) 51 (0, 0)⟩ :: H) w → HF w0 D (⟨b, true, .row (L'.flatMap RB.cells ++ spare) 51 (0, 0)⟩ :: H) w' := by
  by_cases h1 : L.length ≤ 1
  · refine (Tryd.sort_tiny _ _ _ h1 _ _ _ w).mono fun e w' ⟨he, os, hw⟩ => ⟨he, L, .refl _, ?_, fun w0 D H h => by rw [hw]; exact h.grow os⟩
    match L, h1 with
    | [], _ => exact .nil
    | [x], _ => exact List.pairwise_singleton _ _
    | _ :: _ :: _, h => simp at h
  have hblk : b < w.heap.size := (Array.getElem?_eq_some_iff.1 hb).1
  have hH : HoldsK RB.cells 3 w b 0 L.toArray := by
    unfold HoldsK
    rw [flatK_rows]
    intro j hj
    have hj' : j < (L.flatMap RB.cells).length := by simpa using hj
    simp only [Blk.den] at hb
    refine ⟨?_, by simp [World.frozen?, hb]⟩
    simp only [World.cell?, hb, Nat.zero_add, List.getElem?_toArray, Option.isSome_none, Bool.false_eq_true, if_false]
    rw [List.getElem?_append_left hj', List.getElem?_eq_getElem hj', getElem!_pos _ _ (by simpa using hj)]
    simp
  have hsz : L.toArray.size = L.length := List.size_toArray
  have hless : LessReadsK Tryd.prog 51 #[Pt cb 0] RB.cells 3 (ltOf cmpR) b 0 L.toArray.size w := by
    intro m os dk hs i j hi hj
    have e : sortWorldK RB.cells 3 w b 0 m dk os = putRowK RB.cells 3 (Sort.grow (Sort.ahead w m) os) b 0 dk := by
      unfold sortWorldK; rw [putRowK_grow _ _ (Sort.ahead w m) _ b 0 _ hblk]
    have hHg : HoldsK RB.cells 3 (Sort.grow (Sort.ahead w m) os) b 0 L.toArray := holdsK_grow _ _ _ _ b 0 _ hblk (holdsK_ahead _ _ _ _ _ _ _ hH)
    have hc := holdsK_putRowK _ _ _ b 0 _ dk hHg hs
    refine Tryd.closure51 b 0 cap cb L.length _ dk[i]! dk[j]! i j (by omega) (by omega) (by omega) ?_ ?_ ?_ ?_ ?_
    · rw [e, cell?_putRowK_other _ _ _ b 0 dk _ (by exact hne), cell?_grow _ _ _ (by exact hcl)]; exact hcb
    · rw [e]; exact (hc.cell (i := i) (c := 0) (by omega) (by omega)).1
    · rw [e]; exact (hc.cell (i := i) (c := 1) (by omega) (by omega)).1
    · rw [e]; exact (hc.cell (i := j) (c := 0) (by omega) (by omega)).1
    · rw [e]; exact (hc.cell (i := j) (c := 1) (by omega) (by omega)).1
  have h := Any.sort_Slice_cells_sorted Tryd.laysGg6 35 51 Tryd.siT Tryd.siE (by kernel_rfl) (by kernel_rfl) (by kernel_rfl) (by kernel_rfl) 25 (fun _ => by kernel_rfl) RB.cells 3 (fun _ => rfl) (by kernel_rfl) (fun _ => by kernel_rfl)
    (fun x v hv => by
      simp only [RB.cells, List.mem_cons, List.not_mem_nil, or_false] at hv
      rcases hv with rfl | rfl | rfl <;> rfl) (ltOf cmpR) swoR 51 #[Pt cb 0] (enters_of Tryd.func51 (by kernel_rfl) rfl) b 0 cap L.toArray (by omega) (by omega) 107 (by rw [Tryd.siK _ (by omega)]; kernel_rfl) false
    (fun args W => run_callFunc_extern Tryd.func107 (by kernel_rfl) (by kernel_rfl) (by kernel_rfl) (e := Extern.ReflectliteSwapper.swap false) (by kernel_rfl) args W) w hless hH hblk
  change Calls Tryd.prog 50 _ _ _ at h
  rw [hsz] at h
  refine h.mono fun e w' ⟨h1, d', n, os, h2, h3, h4⟩ => ⟨h1, d'.toList, ?_, ?_, fun w0 D H hw => ?_⟩
  · have := h2.2.2
    have e0 : L.toArray.extract 0 L.length = L.toArray := by rw [← hsz, Array.extract_size]
    have hs2 := h2.1
    have e : d'.extract 0 L.length = d' := by rw [← hsz, ← hs2, Array.extract_size]
    rw [e, e0] at this
    simpa using this
  · rw [List.pairwise_iff_getElem]
    intro i j hi hj hij hlt
    have hsz2 := h2.1
    have hi' : i < d'.size := by simpa using hi
    have hj' : j < d'.size := by simpa using hj
    have := h3 i j (Nat.zero_le _) hij (by omega)
    rw [getElem!_pos d' j hj', getElem!_pos d' i hi', (ltOf_R _ _).2 (by simpa using hlt)] at this
    cases this
  · rw [h4]
    unfold putRowK
    rw [flatK_rows]
    have hsz2 := h2.1
    exact HF.putId hw (by rw [flat_len', flat_len']; simp at hsz2; simp [hsz2]) n os
end Bw

/- impl.EchoRoutes. Printed by wip/mk_k10.py. -/
namespace Go.Proofs
open Go Bw
set_option maxRecDepth 20000

theorem _root_.Bw.V.mi {P : Program} {c : Cx} {n : Nat} {fr : SF} {H : SH} {ty t : TypeId} {x : Operand} {ad : Option Addr} {l cp : Nat} {e : TypeId} (hU : P.underlying t = some (.slice e)) (hx : ev fr x = some (.slice ad l cp)) : Val P c n (.makeInterface t x) ty fr H (.iface t (.slice ad l cp)) := by
  intro a w ha hw dst pos aft g
  simp [execOp, ha.eval hx, Instr.makeInterface, underlying, hU]
theorem _root_.Bw.HF.ne_head {w0 : World} {D : Nat → Prop} {e : Ent} {H : SH} {w : World} (h : HF w0 D (e :: H) w) {x : Ent} (hx : x ∈ H) : x.b ≠ e.b :=
  fun h1 => (List.pairwise_cons.1 h.nd).1 x hx h1.symm
theorem _root_.Bw.Own.turn {e sz b n cap : Nat} {xs ys sp : List Value} (h : Own e sz (.slice (some ⟨b, 0, none⟩) n cap) n xs [⟨b, true, .row (xs ++ sp) e (0, 0)⟩]) (hl : ys.length = xs.length) : Own e sz (.slice (some ⟨b, 0, none⟩) n cap) n ys [⟨b, true, .row (ys ++ sp) e (0, 0)⟩] := by
  generalize hH : ([⟨b, true, .row (xs ++ sp) e (0, 0)⟩] : SH) = Hs at h
  cases h with
  | row hn hc hle =>
    simp only [List.cons.injEq, Ent.mk.injEq, Blk.row.injEq, List.append_cancel_left_eq, and_true, true_and] at hH
    subst hH
    exact .row (hl.trans hn) (by rw [List.length_append, hl, ← List.length_append]; exact hc) hle
theorem full51 (a b c : List UInt8) (w : World) : (Instr.build 51 #[(0, S a), (1, S b), (2, S c)]).run Tryd.prog w = .ok (.agg #[S a, S b, S c]) w := by
  simp [Instr.build, Tryd.zeroValue51, Tryd.runUnderlying51, Tryd.sizeOf9, cells_agg, Instr.fill, cells_str]
theorem rput_len (r : Rt) : ∀ l : List Rt, (rput l r).length ≤ l.length + 1
  | [] => by simp [rput]
  | a :: l => by
    unfold rput
    split
    · simp
    · have := rput_len r l; simp; omega
theorem rks_len : ∀ L : List Rt, (rks L).length ≤ L.length
  | [] => Nat.le_refl _
  | r :: L => by have := rks_len L; have h : (rks (r :: L)).length ≤ (rks L).length + 1 := rput_len r (rks L); simp; omega
theorem ord_perm (l : List Rt) (ord : List Nat) (h : ord.Perm (List.range l.length)) : ∃ Q : List Rt, Q.Perm l ∧ (ord.map fun j => Pt ((l.map Rt.nb).getD j 0) 0) = Q.map (fun r => Pt r.nb 0) ∧ ord.length = Q.length := by
  cases l with
  | nil =>
    have : ord = [] := List.length_eq_zero_iff.1 (by simpa using h.length_eq)
    subst this
    exact ⟨[], .refl _, rfl, rfl⟩
  | cons d l =>
    refine ⟨ord.map fun j => (d :: l).getD j d, ?_, ?_, by simp⟩
    · refine (h.map _).trans (.of_eq ?_)
      apply List.ext_getElem?
      intro i
      rw [List.getElem?_map]
      by_cases hi : i < (d :: l).length
      · rw [List.getElem?_range hi, List.getElem?_eq_getElem hi]
        simp [List.getD_eq_getElem?_getD, List.getElem?_eq_getElem hi]
      · rw [List.getElem?_eq_none (by simpa using hi), List.getElem?_eq_none (by simpa using hi)]; rfl
    · rw [List.map_map]
      refine List.map_congr_left fun j hj => ?_
      have hjl : j < (d :: l).length := List.mem_range.1 (h.mem_iff.1 hj)
      simp only [Function.comp_apply, List.getD_eq_getElem?_getD, List.getElem?_map, List.getElem?_eq_getElem hjl, Option.map_some, Option.getD_some]
theorem f32_any (w : World) (ad : Option Addr) (cp : Nat) (Rs : List RB) (hat : RtsAt w ad Rs) (hok : ∀ r ∈ Rs, r.ok) (hlen : Rs.length ≤ 60) :
    Calls Tryd.prog 32 #[.slice ad Rs.length cp] w fun e w' => ∃ (v : Value) (Ls : List RB) (L : List Rt) (Hs : SH), e = .returned v ∧ L.reverse.map Rt.key = Rs.zipIdx ∧ Ls.Perm ((rks L).map (·.rb)) ∧ Ls.Pairwise (fun x y => ¬ ltR y x) ∧ Own 51 3 v Ls.length (Ls.flatMap RB.cells) Hs ∧ HF w (fun _ => False) Hs w' := by
  refine enter (fun _ => False) [] Tryd.func32 rfl Tryd.ntmps32 rfl rfl (HF.start w _) fun c hc => ?_
  subst hc
  refine GC.seq ?_
  refine GC.reg ?_  -- region 0, echo.go:43
  refine G.v (V.asg rfl) rfl ?_
  refine G.nil ?_
  refine GC.seq ?_
  refine GC.reg ?_  -- region 1, echo.go:44
  refine G.al Tryd.zeroValue35 rfl rfl (fun cb hcb => ?_)
  refine G.nil ?_
  refine GC.seq ?_
  refine GC.seq ?_
  refine GC.reg ?_  -- region 2, echo.go:45
  refine G.v (V.mv rfl) rfl ?_
  refine G.callW (fun v H2 => ∃ rb root rt eb zb z B T q R L, v = Pt zb 0 ∧ RInv T q R root L z B ∧ L.reverse.map Rt.key = Rs.zipIdx ∧ H2 = RH rb root rt eb zb z T L ++ [⟨cb, true, .row [.slice none 0 0] 35 (0, 0)⟩]) Tryd.call40 rfl rfl (fun w1 hw1 => ?_) ?_
  · refine (f40_any w1 ad cp Rs (fun i r hr => by obtain ⟨b, o, h1, h2⟩ := hat i r hr; exact ⟨b, o, h1, fun j v hj => hw1.cellOld (h2 j v hj) id⟩) hok hlen).mono fun e w' ⟨rb, root, rt, eb, zb, z, B, T, q, R, L, h1, h2, h3, h4, h5⟩ => ?_
    have := hw1.after0 h5 (RH_w h2)
    exact ⟨_, _, h1, this, rb, root, rt, eb, zb, z, B, T, q, R, L, rfl, h2, h4, rfl⟩
  rintro v H2 ⟨rb, root, rt, eb, zb, z, B, T, q, R, L, rfl, hinv, hkey, rfl⟩
  have hLl : L.length = Rs.length := by have := congrArg List.length hkey; simpa using this
  have hrl := rks_len L
  refine G.callW (fun v H2 => ∃ (Q : List Rt) (Hp : SH), Q.Perm (rks L) ∧ Own 80 1 v Q.length (Q.map fun r => Pt r.nb 0) Hp ∧ H2 = Hp ++ (RH rb root rt eb zb z T L ++ [⟨cb, true, .row [.slice none 0 0] 35 (0, 0)⟩])) Tryd.call49 rfl rfl (fun w1 hw1 => ?_) ?_
  · refine (f49_any w1 rb root rt eb zb z T L (fun e he => hw1.has e (List.mem_append_left _ he)) (by omega)).mono fun e w' ⟨v, ord, Hp, h1, h2, h3, h4⟩ => ?_
    obtain ⟨Q, hQ1, hQ2, hQ3⟩ := ord_perm (rks L) ord h2
    rw [hQ2, hQ3] at h3
    exact ⟨_, _, h1, hw1.after0 h4 h3.w, Q, Hp, hQ1, h3, rfl⟩
  rintro v H2 ⟨Q, Hp, hQ, hownp, rfl⟩
  obtain ⟨adp, cpp, rfl⟩ := hownp.slice
  have hQl : Q.length ≤ 60 := by have := hQ.length_eq; omega
  refine G.v (V.lenL Tryd.underlying78 rfl) rfl ?_
  refine G.v (V.mv rfl) rfl ?_
  refine G.nil ?_
  refine GC.block ?_
  refine GC.turn (H' := ⟨cb, true, .row [.slice none 0 0] 35 (0, 0)⟩ :: (Hp ++ RH rb root rt eb zb z T L ++ [])) (fun w1 hw1 => hw1.perm ?_) ?_
  · exact List.Perm.trans (.of_eq (by simp)) ((perm_idx [Hp, RH rb root rt eb zb z T L, [⟨cb, true, .row [.slice none 0 0] 35 (0, 0)⟩]] [0, 1, 2] [2, 0, 1] (by decide)).trans (.of_eq (by simp)))
  refine GC.loopJ (fun N fr' H' => ∃ (i : Nat) (sv : Value) (Ho : SH), i + N = Q.length ∧ Own 51 3 sv (i) (((Q.take (i)).map (·.rb)).flatMap RB.cells) Ho ∧ Sub [(3, Pt cb 0), (8, .slice adp Q.length cpp), (9, I (Q.length : Nat)), (10, I ((i : Nat) : Int))] fr' ∧ H' = ⟨cb, true, .row [sv] 35 (0, 0)⟩ :: (Hp ++ RH rb root rt eb zb z T L ++ Ho)) Q.length
    ⟨0, _, [], by omega, .nil, .cons rfl (.cons rfl (.cons rfl (.cons rfl .nil))), rfl⟩ ?_
  rintro N fr' H' ⟨i, sv, Ho, hi, hown, hs, rfl⟩ ih
  refine GC.weak hs ?_
  clear hs
  obtain ⟨ads, cps, rfl⟩ := hown.slice
  refine GC.seq ?_
  refine GC.reg ?_  -- region 3, echo.go:45
  refine G.v (V.lt rfl rfl) rfl ?_
  refine G.nil ?_
  refine GC.seq ?_
  refine GC.condD rfl (fun h11 => ?_) (fun h11 => ?_)
  · refine GC.skip ?_
    refine GC.seq ?_
    refine GC.block ?_
    refine GC.seq ?_
    have hlt : i < Q.length := by omega
    obtain ⟨r, hr⟩ : ∃ r, Q[i]? = some r := ⟨_, List.getElem?_eq_getElem hlt⟩
    obtain ⟨pb, pc, spp, hpe, rfl⟩ := hownp.at hlt
    cases hpe
    have hrm : r ∈ L := rks_mem (hQ.mem_iff.1 (List.mem_of_getElem? hr))
    refine GC.reg ?_  -- region 4, echo.go:45
    refine G.v (V.ia (i := i) Tryd.underlying78 Tryd.sizeOf80 rfl rfl hlt) rfl ?_
    refine G.v (V.ld (v := Pt r.nb 0) Tryd.isAgg80 rfl (.tail _ (.head _)) (by rw [nth_eq, Nat.zero_add, Nat.mul_one, List.getElem?_append_left (by simpa using hlt), List.getElem?_map, hr]; rfl)) rfl ?_
    refine G.v (V.asg rfl) rfl ?_
    refine G.nil ?_
    have hSb : ∀ (H : SH) w1, HF w (fun _ => False) H w1 → (roE r.nb r.rb.m r.rb.p r.rb.nm) ∈ H → ∀ k v, r.rb.cells[k]? = some v → w1.cell? ⟨r.nb, k, none⟩ = some v := fun H w1 hw hm => row_cells (hw.has _ hm)
    have hroE : roE r.nb r.rb.m r.rb.p r.rb.nm ∈ RH rb root rt eb zb z T L := .tail _ (.tail _ (.tail _ (.tail _ (List.mem_append_right _ (List.mem_flatMap.2 ⟨r, hrm, .tail _ (.head _)⟩)))))
    have htk : ((Q.take i).map (·.rb)).flatMap RB.cells ++ r.rb.cells = ((Q.take (i + 1)).map (·.rb)).flatMap RB.cells := by rw [List.take_add_one, hr]; simp
    refine GC.join (fun fr' H' => ∃ (sv : Value) (Ho : SH), Own 51 3 sv (i + 1) (((Q.take (i + 1)).map (·.rb)).flatMap RB.cells) Ho ∧ Sub [(3, Pt cb 0), (8, .slice (some ⟨pb, 0, none⟩) Q.length cpp), (9, I (Q.length : Nat)), (10, I ((i : Nat) : Int))] fr' ∧ H' = ⟨cb, true, .row [sv] 35 (0, 0)⟩ :: ([⟨pb, true, .row (Q.map (fun r => Pt r.nb 0) ++ spp) 80 (0, 0)⟩] ++ RH rb root rt eb zb z T L ++ Ho)) (fun J5 => ?_) ?_
    · refine GC.regA (fun w1 => ∀ k v, r.rb.cells[k]? = some v → w1.cell? ⟨r.nb, k, none⟩ = some v) mixed ?_
      refine GA.p 1 rfl (by kernel_rfl) (fun w1 hw1 => hSb _ w1 hw1 (by simp [hroE])) (fun _ => V.mv rfl) rfl ?_
      refine GA.p 2 rfl (by kernel_rfl) (fun w1 hw1 => hSb _ w1 hw1 (by simp [hroE])) (fun _ => V.nc rfl) rfl ?_
      refine GA.p 3 rfl (by kernel_rfl) (fun w1 hw1 => hSb _ w1 hw1 (by simp [hroE])) (fun _ => V.fa F81_0 rfl) rfl ?_
      refine GA.ld 4 (v := S r.rb.m) rfl (by kernel_rfl) (fun w1 hw1 => hSb _ w1 hw1 (by simp [hroE])) Tryd.isAgg9 rfl (fun w1 h => h 0 _ rfl) rfl ?_
      refine GA.p 5 rfl (by kernel_rfl) (fun w1 hw1 => hSb _ w1 hw1 (by simp [hroE])) (fun _ => V.mv rfl) rfl ?_
      refine GA.p 6 rfl (by kernel_rfl) (fun w1 hw1 => hSb _ w1 hw1 (by simp [hroE])) (fun _ => V.nc rfl) rfl ?_
      refine GA.p 7 rfl (by kernel_rfl) (fun w1 hw1 => hSb _ w1 hw1 (by simp [hroE])) (fun _ => V.fa F81_1 rfl) rfl ?_
      refine GA.ld 8 (v := S r.rb.p) rfl (by kernel_rfl) (fun w1 hw1 => hSb _ w1 hw1 (by simp [hroE])) Tryd.isAgg9 rfl (fun w1 h => h 1 _ rfl) rfl ?_
      refine GA.p 9 rfl (by kernel_rfl) (fun w1 hw1 => hSb _ w1 hw1 (by simp [hroE])) (fun _ => V.mv rfl) rfl ?_
      refine GA.p 10 rfl (by kernel_rfl) (fun w1 hw1 => hSb _ w1 hw1 (by simp [hroE])) (fun _ => V.nc rfl) rfl ?_
      refine GA.p 11 rfl (by kernel_rfl) (fun w1 hw1 => hSb _ w1 hw1 (by simp [hroE])) (fun _ => V.fa F81_2 rfl) rfl ?_
      refine GA.ld 12 (v := S r.rb.nm) rfl (by kernel_rfl) (fun w1 hw1 => hSb _ w1 hw1 (by simp [hroE])) Tryd.isAgg9 rfl (fun w1 h => h 2 _ rfl) rfl ?_
      refine GA.p 13 rfl (by kernel_rfl) (fun w1 hw1 => hSb _ w1 hw1 (by simp [hroE])) (fun _ => V.bd (vs := [(0, S r.rb.m), (1, S r.rb.p), (2, S r.rb.nm)]) rfl (fun w1 => full51 _ _ _ w1)) rfl ?_
      refine GA.two 0 14 rfl rfl (by kernel_rfl) ?_ ?_
      · refine GB.v (V.ld Tryd.isAgg35 rfl (.head _) rfl) (fun w1 hw1 => hSb _ w1 hw1 (by simp [hroE])) rfl ?_
        refine GA.one 14 rfl (by kernel_rfl) ?_
        refine GB.bs (BS.three (a := S r.rb.m) (b := S r.rb.p) (c := S r.rb.nm) Tryd.underlying35 Tryd.sizeOf51 Tryd.zeroValue51) rfl (fun w1 hw1 => hSb _ w1 hw1 (by simp [hroE])) rfl (fun tb => ?_)
        refine GA.one 15 rfl (by kernel_rfl) ?_
        refine GB.app (i := Tryd.t51) (sz := 3) (by_ := 48) Tryd.underlying35 rfl rfl rfl rfl rfl rfl rfl hown (H' := [⟨tb, true, .row r.rb.cells 51 (0, 0)⟩, ⟨cb, true, .row [.slice ads i cps] 35 (0, 0)⟩] ++ ([⟨pb, true, .row (Q.map (fun r => Pt r.nb 0) ++ spp) 80 (0, 0)⟩] ++ RH rb root rt eb zb z T L)) ?_ (src_row (vs := r.rb.cells) (r := []) (.head _)) rfl (fun v hv => ?_) (by omega) (by omega) (by omega) (fun w1 hw1 => hSb _ w1 hw1 (by simp [hroE])) rfl (fun sv2 Ho2 hown2 => ?_)
        · have p0 := perm_idx [([⟨tb, true, .row r.rb.cells 51 (0, 0)⟩, ⟨cb, true, .row [.slice ads i cps] 35 (0, 0)⟩] : SH), ([⟨pb, true, .row (Q.map (fun r => Pt r.nb 0) ++ spp) 80 (0, 0)⟩] ++ RH rb root rt eb zb z T L), Ho] [0, 1, 2] [2, 0, 1] (by decide)
          exact List.Perm.trans (.of_eq (by simp [RB.cells])) (p0.trans (.of_eq (by simp [RB.cells])))
        · simp only [RB.cells, List.mem_cons, List.not_mem_nil, or_false] at hv
          rcases hv with rfl | rfl | rfl <;> rfl
        obtain ⟨ad2, cp2, rfl⟩ := hown2.slice
        refine GA.one 16 rfl (by kernel_rfl) ?_
        refine GB.st Tryd.sizeOf35 rfl rfl rfl (.s .z) rfl rfl (fun w1 hw1 => hSb _ w1 hw1 (by simp [hroE, putE])) ?_
        refine GA.done (by kernel_rfl) ?_
        rw [htk] at hown2
        refine GC.turn (H' := ⟨cb, true, .row [.slice ad2 (i + 1) cp2] 35 (0, 0)⟩ :: ([⟨pb, true, .row (Q.map (fun r => Pt r.nb 0) ++ spp) 80 (0, 0)⟩] ++ RH rb root rt eb zb z T L ++ Ho2)) (fun w1 hw1 => ?_) (J5 _ _ ⟨_, Ho2, hown2, .cons rfl (.cons rfl (.cons rfl (.cons rfl .nil))), rfl⟩)
        have := hw1.sub (List.sublist_cons_self _ _)
        simpa [putE, setL] using this
      · refine GB.bs (BS.three (a := S r.rb.m) (b := S r.rb.p) (c := S r.rb.nm) Tryd.underlying35 Tryd.sizeOf51 Tryd.zeroValue51) rfl (fun w1 hw1 => hSb _ w1 hw1 (by simp [hroE])) rfl (fun tb => ?_)
        refine GA.one 0 rfl (by kernel_rfl) ?_
        refine GB.v (V.ld Tryd.isAgg35 rfl (.tail _ (.head _)) rfl) (fun w1 hw1 => hSb _ w1 hw1 (by simp [hroE])) rfl ?_
        refine GA.one 15 rfl (by kernel_rfl) ?_
        refine GB.app (i := Tryd.t51) (sz := 3) (by_ := 48) Tryd.underlying35 rfl rfl rfl rfl rfl rfl rfl hown (H' := [⟨tb, true, .row r.rb.cells 51 (0, 0)⟩, ⟨cb, true, .row [.slice ads i cps] 35 (0, 0)⟩] ++ ([⟨pb, true, .row (Q.map (fun r => Pt r.nb 0) ++ spp) 80 (0, 0)⟩] ++ RH rb root rt eb zb z T L)) ?_ (src_row (vs := r.rb.cells) (r := []) (.head _)) rfl (fun v hv => ?_) (by omega) (by omega) (by omega) (fun w1 hw1 => hSb _ w1 hw1 (by simp [hroE])) rfl (fun sv2 Ho2 hown2 => ?_)
        · have p0 := perm_idx [([⟨tb, true, .row r.rb.cells 51 (0, 0)⟩, ⟨cb, true, .row [.slice ads i cps] 35 (0, 0)⟩] : SH), ([⟨pb, true, .row (Q.map (fun r => Pt r.nb 0) ++ spp) 80 (0, 0)⟩] ++ RH rb root rt eb zb z T L), Ho] [0, 1, 2] [2, 0, 1] (by decide)
          exact List.Perm.trans (.of_eq (by simp [RB.cells])) (p0.trans (.of_eq (by simp [RB.cells])))
        · simp only [RB.cells, List.mem_cons, List.not_mem_nil, or_false] at hv
          rcases hv with rfl | rfl | rfl <;> rfl
        obtain ⟨ad2, cp2, rfl⟩ := hown2.slice
        refine GA.one 16 rfl (by kernel_rfl) ?_
        refine GB.st Tryd.sizeOf35 rfl rfl rfl (.s .z) rfl rfl (fun w1 hw1 => hSb _ w1 hw1 (by simp [hroE, putE])) ?_
        refine GA.done (by kernel_rfl) ?_
        rw [htk] at hown2
        refine GC.turn (H' := ⟨cb, true, .row [.slice ad2 (i + 1) cp2] 35 (0, 0)⟩ :: ([⟨pb, true, .row (Q.map (fun r => Pt r.nb 0) ++ spp) 80 (0, 0)⟩] ++ RH rb root rt eb zb z T L ++ Ho2)) (fun w1 hw1 => ?_) (J5 _ _ ⟨_, Ho2, hown2, .cons rfl (.cons rfl (.cons rfl (.cons rfl .nil))), rfl⟩)
        have := hw1.sub (List.sublist_cons_self _ _)
        simpa [putE, setL] using this
    rintro fr' H' ⟨sv2, Ho2, hown2, hs5, rfl⟩
    refine GC.weak hs5 ?_
    clear hs5
    refine GC.inBlock ?_
    refine GC.reg ?_  -- region 6, echo.go:45
    refine G.v (V.addI (r := ((i + 1 : Nat) : Int)) rfl rfl rfl (by omega) (by omega)) rfl ?_
    refine G.v (V.mv rfl) rfl ?_
    refine G.nil ?_
    exact ih (N - 1) _ _ (by omega) ⟨i + 1, sv2, Ho2, by omega, hown2, .cons rfl (.cons rfl (.cons rfl (.cons rfl .nil))), rfl⟩
  refine GC.exit rfl ?_
  refine GC.seq ?_
  have hie : i = Q.length := by omega
  subst hie
  rw [List.take_length] at hown
  refine GC.reg ?_  -- region 7, echo.go:48
  refine G.v (V.ld Tryd.isAgg35 rfl (.head _) rfl) rfl ?_
  refine G.v (V.mi Tryd.underlying35 rfl) rfl ?_
  refine G.v (V.mkF (vs := [Pt cb 0]) rfl) rfl ?_
  refine G.callW (fun v H2 => ∃ (Ls : List RB) (Hs : SH), v = .tuple #[] ∧ Ls.Perm (Q.map (·.rb)) ∧ Ls.Pairwise (fun x y => ¬ ltR y x) ∧ Own 51 3 (.slice ads Q.length cps) Q.length (Ls.flatMap RB.cells) Hs ∧ H2 = Hs ++ (⟨cb, true, .row [.slice ads Q.length cps] 35 (0, 0)⟩ :: (Hp ++ RH rb root rt eb zb z T L))) Tryd.call50 rfl rfl (fun w1 hw1 => ?_) ?_
  · have hp0 := perm_idx [([⟨cb, true, .row [.slice ads Q.length cps] 35 (0, 0)⟩] : SH), Hp ++ RH rb root rt eb zb z T L, Ho] [0, 1, 2] [2, 0, 1] (by decide)
    have hw2 : HF w (fun _ => False) (Ho ++ (⟨cb, true, .row [.slice ads Q.length cps] 35 (0, 0)⟩ :: (Hp ++ RH rb root rt eb zb z T L))) w1 := hw1.perm (List.Perm.trans (.of_eq (by simp)) (hp0.trans (.of_eq (by simp))))
    by_cases h1 : Q.length ≤ 1
    · refine (Tryd.sort_tiny _ _ _ h1 _ _ _ w1).mono fun e w' ⟨he, os, hw⟩ => ⟨_, _, he, ?_, Q.map (·.rb), Ho, rfl, .refl _, ?_, hown, rfl⟩
      · rw [hw]; exact hw2.grow os
      · have hl1 : (Q.map (·.rb)).length ≤ 1 := by simpa using h1
        generalize Q.map (·.rb) = l at hl1
        match l, hl1 with
        | [], _ => exact .nil
        | [x], _ => exact List.pairwise_singleton _ _
        | _ :: _ :: _, h => simp at h
    obtain ⟨ob, oc, spo, hoe, rfl⟩ := hown.at (i := 0) (by omega)
    cases hoe
    have hcm := cell_row hw2 (b := cb) (off := 0) (wf := true) (l := [.slice (some ⟨ob, 0, none⟩) Q.length cps]) (t := 35) (fz := (0, 0)) (v := .slice (some ⟨ob, 0, none⟩) Q.length cps) (by simp) rfl
    have hcb2 := hw2.has _ (List.mem_append_right _ (.head _))
    have hcl : cb < w1.heap.size := (Array.getElem?_eq_some_iff.1 hcb2).1
    have hne : cb ≠ ob := hw2.ne_head (x := ⟨cb, true, .row [.slice (some ⟨ob, 0, none⟩) Q.length cps] 35 (0, 0)⟩) (by simp)
    have hml : (Q.map (·.rb)).length = Q.length := List.length_map _
    have hob := hw2.has _ (.head _)
    have hS := sort_slice w1 ob cps cb (Q.map (·.rb)) spo hob (by rw [hml]; exact hcm) hcl hne (by omega)
    rw [hml] at hS
    refine hS.mono fun e w' ⟨he, Ls, hp, hsr, hf⟩ => ⟨_, _, he, hf _ _ _ hw2, Ls, [⟨ob, true, .row (Ls.flatMap RB.cells ++ spo) 51 (0, 0)⟩], rfl, hp, hsr, ?_, rfl⟩
    have hl2 : (Ls.flatMap RB.cells).length = ((Q.map (·.rb)).flatMap RB.cells).length := by rw [flat_len', flat_len', hp.length_eq]
    exact hown.turn hl2
  rintro v H2 ⟨Ls, Hs, rfl, hperm, hsort, hown3, rfl⟩
  refine G.nil ?_
  refine GC.seq ?_
  refine GC.reg ?_  -- region 8, echo.go:54
  refine G.v (V.ld (b := cb) (off := 0) (wf := true) (l := [.slice ads Q.length cps]) (T := 35) (fz := (0, 0)) Tryd.isAgg35 rfl (by simp) rfl) rfl ?_
  refine G.v (V.asg rfl) rfl ?_
  refine G.nil ?_
  refine GC.ret1 rfl rfl fun w' hw' => ⟨_, Ls, L, Hs, rfl, hkey, ?_, hsort, ?_, hw'.sub (List.sublist_append_left _ _)⟩
  · exact hperm.trans (hQ.map _)
  · have : Ls.length = Q.length := by simpa using hperm.length_eq
    rw [this]; exact hown3
end Go.Proofs

/- The routes that a router tells: the last of each method and path. No program in sight. -/
namespace Bw
open Go Go.Proofs

/-- no route behind has its method and path -/
def LastAt (Rs : List RB) (i : Nat) (x : RB) : Prop := ∃ k, k < i ∧ Rs[k]? = some x ∧ ∀ q ∈ Rs.drop (k + 1), ¬ (q.m = x.m ∧ q.p = x.p)
structure LastL (Rs : List RB) (i : Nat) (Ws : List RB) : Prop where
  mem : ∀ x, x ∈ Ws ↔ LastAt Rs i x
  pw : Ws.Pairwise fun x y => ¬ (x.m = y.m ∧ x.p = y.p)
theorem LastL.nil (Rs : List RB) : LastL Rs 0 [] := ⟨fun x => ⟨fun h => (by cases h), fun ⟨k, h, _⟩ => absurd h (Nat.not_lt_zero k)⟩, .nil⟩
theorem LastL.put {Rs Ws : List RB} {i : Nat} {r : RB} (h : LastL Rs i Ws) (hr : Rs[i]? = some r) (hn : ∀ q ∈ Rs.drop (i + 1), ¬ (q.m = r.m ∧ q.p = r.p)) : LastL Rs (i + 1) (Ws ++ [r]) := by
  refine ⟨fun x => ⟨fun hx => ?_, fun ⟨k, h1, h2, h3⟩ => ?_⟩, ?_⟩
  · rcases List.mem_append.1 hx with hx | hx
    · obtain ⟨k, h1, h2, h3⟩ := (h.mem x).1 hx
      exact ⟨k, by omega, h2, h3⟩
    · rw [List.mem_singleton.1 hx]; exact ⟨i, by omega, hr, hn⟩
  · by_cases hk : k = i
    · subst hk; rw [hr] at h2; cases h2; simp
    · exact List.mem_append_left _ ((h.mem x).2 ⟨k, by omega, h2, h3⟩)
  · rw [List.pairwise_append]
    refine ⟨h.pw, List.pairwise_singleton _ _, fun x hx y hy => ?_⟩
    rw [List.mem_singleton.1 hy]
    obtain ⟨k, h1, h2, h3⟩ := (h.mem x).1 hx
    intro he
    refine h3 r ?_ ⟨he.1.symm, he.2.symm⟩
    rw [List.mem_iff_getElem?]
    exact ⟨i - (k + 1), by rw [List.getElem?_drop, show k + 1 + (i - (k + 1)) = i by omega]; exact hr⟩
theorem LastL.skip {Rs Ws : List RB} {i : Nat} {r : RB} (h : LastL Rs i Ws) (hr : Rs[i]? = some r) (hn : ∃ q ∈ Rs.drop (i + 1), q.m = r.m ∧ q.p = r.p) : LastL Rs (i + 1) Ws := by
  refine ⟨fun x => ⟨fun hx => ?_, fun ⟨k, h1, h2, h3⟩ => ?_⟩, h.pw⟩
  · obtain ⟨k, h1, h2, h3⟩ := (h.mem x).1 hx
    exact ⟨k, by omega, h2, h3⟩
  · by_cases hk : k = i
    · subst hk; rw [hr] at h2; cases h2
      obtain ⟨q, hq, he⟩ := hn
      exact absurd he (h3 q hq)
    · exact (h.mem x).2 ⟨k, by omega, h2, h3⟩
theorem LastL.perm {Rs A B : List RB} {i : Nat} (h : LastL Rs i A) (p : B.Perm A) : LastL Rs i B :=
  ⟨fun x => p.mem_iff.trans (h.mem x), p.symm.pairwise h.pw (fun h => fun e => h ⟨e.1.symm, e.2.symm⟩)⟩
theorem LastL.uniq {Rs A B : List RB} {i : Nat} (ha : LastL Rs i A) (hb : LastL Rs i B) (sa : A.Pairwise fun x y => ¬ ltR y x) (sb : B.Pairwise fun x y => ¬ ltR y x) : A = B := by
  have na : A.Nodup := ha.pw.imp fun h e => h ⟨by rw [e], by rw [e]⟩
  have nb : B.Nodup := hb.pw.imp fun h e => h ⟨by rw [e], by rw [e]⟩
  have hp : A.Perm B := (List.perm_ext_iff_of_nodup na nb).2 fun x => (ha.mem x).trans (hb.mem x).symm
  refine hp.eq_of_pairwise (le := fun x y => ¬ ltR y x) (fun x y hx hy h1 h2 => ?_) sa sb
  rcases ltR_total h1 with h | h
  · exact absurd h h2
  · obtain ⟨k, k1, k2, k3⟩ := (ha.mem x).1 hx
    obtain ⟨l, l1, l2, l3⟩ := (hb.mem y).1 hy
    rcases Nat.lt_trichotomy k l with hl | rfl | hl
    · exfalso
      refine k3 y ?_ ⟨h.1, h.2⟩
      rw [List.mem_iff_getElem?]
      exact ⟨l - (k + 1), by rw [List.getElem?_drop, show k + 1 + (l - (k + 1)) = l by omega]; exact l2⟩
    · rw [k2] at l2; exact Option.some.inj l2
    · exfalso
      refine l3 x ?_ ⟨h.1.symm, h.2.symm⟩
      rw [List.mem_iff_getElem?]
      exact ⟨k - (l + 1), by rw [List.getElem?_drop, show l + 1 + (k - (l + 1)) = k by omega]; exact k2⟩

/-! the routes that the map holds -/
theorem rput_kk (r : Rt) : ∀ (l : List Rt), (∀ x ∈ rput l r, x = r ∨ x ∈ l) ∧ (l.Pairwise (fun x y => x.kk ≠ y.kk) → (rput l r).Pairwise (fun x y => x.kk ≠ y.kk) ∧ ∀ x ∈ rput l r, x = r ∨ x.kk ≠ r.kk)
  | [] => ⟨fun x h => .inl (List.mem_singleton.1 h), fun _ => ⟨List.pairwise_singleton _ _, fun x h => .inl (List.mem_singleton.1 h)⟩⟩
  | a :: l => by
    refine ⟨fun x h => by simpa using rput_mem h, fun hp => ?_⟩
    obtain ⟨h1, h2⟩ := List.pairwise_cons.1 hp
    obtain ⟨i1, i2⟩ := rput_kk r l
    obtain ⟨i3, i4⟩ := i2 h2
    unfold rput
    split
    · rename_i hk
      refine ⟨List.pairwise_cons.2 ⟨fun x hx => by rw [← hk]; exact h1 x hx, h2⟩, fun x hx => ?_⟩
      rcases List.mem_cons.1 hx with rfl | hx
      · exact .inl rfl
      · exact .inr fun e => h1 x hx (hk.trans e.symm)
    · rename_i hk
      refine ⟨List.pairwise_cons.2 ⟨fun x hx => ?_, i3⟩, fun x hx => ?_⟩
      · rcases i1 x hx with rfl | hx
        · exact hk
        · exact h1 x hx
      · rcases List.mem_cons.1 hx with rfl | hx
        · exact .inr hk
        · exact i4 x hx
theorem rput_keeps {r x : Rt} : ∀ {l : List Rt}, x ∈ l → x.kk ≠ r.kk → x ∈ rput l r
  | a :: l, h, hk => by
    unfold rput
    split
    · rename_i hk2
      rcases List.mem_cons.1 h with rfl | h
      · exact absurd hk2 hk
      · exact .tail _ h
    · rcases List.mem_cons.1 h with rfl | h
      · exact .head _
      · exact .tail _ (rput_keeps h hk)
theorem rks_pw : ∀ L : List Rt, (rks L).Pairwise fun x y => x.kk ≠ y.kk
  | [] => .nil
  | r :: L => ((rput_kk r (rks L)).2 (rks_pw L)).1
theorem rks_iff {r x : Rt} {L : List Rt} : x ∈ rks (r :: L) ↔ x = r ∨ (x ∈ rks L ∧ x.kk ≠ r.kk) := by
  constructor
  · intro h
    rcases ((rput_kk r (rks L)).2 (rks_pw L)).2 x h with h2 | h2
    · exact .inl h2
    · rcases (rput_kk r (rks L)).1 x h with h3 | h3
      · exact .inl h3
      · exact .inr ⟨h3, h2⟩
  · rintro (rfl | ⟨h1, h2⟩)
    · exact rput_has _
    · exact rput_keeps h1 h2
theorem rks_last : ∀ (L : List Rt) (x : RB), x ∈ (rks L).map (·.rb) ↔ ∃ k, (L.map (·.rb)).reverse[k]? = some x ∧ ∀ q ∈ (L.map (·.rb)).reverse.drop (k + 1), q.m ++ q.p ≠ x.m ++ x.p
  | [], x => by simp [rks]
  | r :: L, x => by
    have ih := rks_last L x
    have e : x ∈ (rks (r :: L)).map (·.rb) ↔ x = r.rb ∨ (x ∈ (rks L).map (·.rb) ∧ x.m ++ x.p ≠ r.rb.m ++ r.rb.p) := by
      simp only [List.mem_map]
      constructor
      · rintro ⟨y, hy, rfl⟩
        rcases rks_iff.1 hy with rfl | ⟨h1, h2⟩
        · exact .inl rfl
        · exact .inr ⟨⟨y, h1, rfl⟩, h2⟩
      · rintro (rfl | ⟨⟨y, h1, rfl⟩, h2⟩)
        · exact ⟨r, rks_iff.2 (.inl rfl), rfl⟩
        · exact ⟨y, rks_iff.2 (.inr ⟨h1, h2⟩), rfl⟩
    rw [e, ih]
    have hl : (L.map (·.rb)).reverse.length = L.length := by simp
    rw [List.map_cons, List.reverse_cons]
    generalize (L.map (·.rb)).reverse = M at hl
    constructor
    · rintro (rfl | ⟨⟨k, h1, h2⟩, h3⟩)
      · exact ⟨M.length, by simp, fun q hq => by simp at hq⟩
      · have hk := (List.getElem?_eq_some_iff.1 h1).1
        refine ⟨k, by rw [List.getElem?_append_left hk]; exact h1, fun q hq => ?_⟩
        rw [List.drop_append_of_le_length (by omega)] at hq
        rcases List.mem_append.1 hq with hq | hq
        · exact h2 q hq
        · rw [List.mem_singleton.1 hq]; exact fun e => h3 e.symm
    · rintro ⟨k, h1, h2⟩
      by_cases hk : k < M.length
      · rw [List.getElem?_append_left hk] at h1
        rw [List.drop_append_of_le_length (by omega)] at h2
        exact .inr ⟨⟨k, h1, fun q hq => h2 q (List.mem_append_left _ hq)⟩, fun e => h2 r.rb (by simp) e.symm⟩
      · rw [List.getElem?_append_right (by omega)] at h1
        have := (List.getElem?_eq_some_iff.1 h1)
        have hk2 : k - M.length = 0 := by have := this.1; simp at this; omega
        rw [hk2] at h1
        exact .inl (by simpa using h1.symm)
theorem Keyed.same' {Rs : List RB} (h : Keyed Rs) {a b : RB} (ha : a ∈ Rs) (hb : b ∈ Rs) (he : a.m ++ a.p = b.m ++ b.p) : a.m = b.m ∧ a.p = b.p := by
  obtain ⟨i, hi⟩ := List.getElem?_of_mem ha
  obtain ⟨j, hj⟩ := List.getElem?_of_mem hb
  rcases Nat.lt_trichotomy i j with hl | rfl | hl
  · have := h j i b a hl hj hi he.symm
    exact ⟨this.1.symm, this.2.symm⟩
  · rw [hi] at hj; cases hj; exact ⟨rfl, rfl⟩
  · exact h i j a b hl hi hj he
theorem last_rks {L : List Rt} {Rs : List RB} (hK : Keyed Rs) (h : L.reverse.map Rt.key = Rs.zipIdx) : LastL Rs Rs.length ((rks L).map (·.rb)) := by
  have hM : (L.map (·.rb)).reverse = Rs := by
    have := congrArg (List.map Prod.fst) h
    rw [List.map_map] at this
    have e2 : Rs.zipIdx.map Prod.fst = Rs := by simp
    rw [e2] at this
    rw [← List.map_reverse]
    exact this
  refine ⟨fun x => ?_, ?_⟩
  · rw [rks_last, hM]
    constructor
    · rintro ⟨k, h1, h2⟩
      exact ⟨k, (List.getElem?_eq_some_iff.1 h1).1, h1, fun q hq e => h2 q hq (by rw [e.1, e.2])⟩
    · rintro ⟨k, _, h1, h2⟩
      exact ⟨k, h1, fun q hq e => h2 q hq (Keyed.same' hK (List.mem_of_mem_drop hq) (List.mem_of_getElem? h1) e)⟩
  · rw [List.pairwise_map]
    exact (rks_pw L).imp fun hk e => hk (by unfold Rt.kk; rw [e.1, e.2])
end Bw
