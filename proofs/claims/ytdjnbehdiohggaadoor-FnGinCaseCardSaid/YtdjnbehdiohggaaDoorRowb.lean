/- From a law to its row. -/
import Derived.Test.YtdjnbehdiohggaaDoorRow
import Derived.Test.YtdjnbehdiohggaaDoorP12
import Derived.Test.YtdjnbehdiohggaaDoorP01
/- What tables of parts and small numbers are in memory. -/
set_option maxRecDepth 100000
namespace Go.Proofs.YtdjnbehdiohggaaDoor
open Go Bw Go.ChangeShapes Go.WideShapes Go.ChangeAt Go.RowKit Go.WideElems
open Gt
section
variable {H : Type} {enc : TypeId × Value → H} {W : World} {b0 : Nat} {v : Value} {d : DataW H} {ps : List MemPlace}
theorem addr_of {a : Addr} {u : Value} (h : W.cell? a = some u) : ∃ b o, a = ⟨b, o, none⟩ := by
 obtain ⟨b, o, sp⟩ := a
 have : sp = none := World.cell?_spot h
 exact ⟨b, o, by rw [this]⟩
theorem add_at (b o j : Nat) : (⟨b, o, none⟩ : Addr).add j = ⟨b, o + j, none⟩ := by
 by_cases h : j = 0
 ·subst h; simp [Addr.add]
 ·simp [Addr.add, h]
theorem tryd_c5 : Tryd.prog.cellsOf 5 = 1 := by kernel_rfl
theorem tryd_c32 : Tryd.prog.cellsOf 32 = 2 := by kernel_rfl
theorem tryd_c30 : Tryd.prog.cellsOf 30 = 1 := by kernel_rfl
theorem u8_of {n : Int} (hw : (Lit.int .u8 n).wf = true) : ∃ c : UInt8, n = (c.toNat : Int) := by
 simp only [Lit.wf, Bool.and_eq_true, decide_eq_true_eq] at hw
 have h0 : 0 ≤ n := hw.1
 have h1 : n ≤ 255 := hw.2
 refine ⟨UInt8.ofNat n.toNat, ?_⟩
 have : (UInt8.ofNat n.toNat).toNat = n.toNat := by simp; omega
 rw [this]; omega
theorem part_choice {a : Addr} : ∀ {n : Nat}, (∀ i, i < n → ∃ p : Prt, ∀ (j : Nat) v, (prV p)[j]? = some v → W.cell? (a.add (i * 2 + j)) = some v) → ∃ l : List Prt, l.length = n ∧ ∀ (i : Nat) p, l[i]? = some p → ∀ (j : Nat) v, (prV p)[j]? = some v → W.cell? (a.add (i * 2 + j)) = some v
 | 0, _ => ⟨[], rfl, fun i r h => by simp at h⟩
 | n + 1, each => by
  obtain ⟨Rs, h1, h2⟩ := part_choice (a := a) (n := n) (fun i hi => each i (by omega))
  obtain ⟨r, hr⟩ := each n (by omega)
  refine ⟨Rs ++ [r], by simp [h1], fun i x hx j v hj => ?_⟩
  by_cases hi : i < n
  ·rw [List.getElem?_append_left (by omega)] at hx; exact h2 i x hx j v hj
  ·rw [List.getElem?_append_right (by omega)] at hx
   have hi' : i = n := by
    have := (List.getElem?_eq_some_iff.1 hx).1
    simp at this; omega
   subst hi'
   rw [h1, Nat.sub_self] at hx
   simp only [List.getElem?_cons_zero, Option.some.injEq] at hx
   subst hx
   exact hr j v hj
theorem parts_of {fuel : Nat} {sp : Nat → Bool} {held : Bool} {cs : List Value} {x : DataW H × List MemPlace} (hf : DataW.trod enc Tryd.prog W 0 sp held fuel 30 cs = some x) : ∃ u l, cs = [u] ∧ Prts W u l := by
 rcases DataW.trod_slice Tryd.underlying30 hf with ⟨g1, _⟩ | ⟨a, len, cap, elems, rest, n, _, g1, _, _, hl, _, hlen, hel, _, _⟩
 ·exact ⟨_, [], g1, none, 0, rfl, Nat.le_refl _, fun j p hj => by simp at hj⟩
 ·have each : ∀ i, i < len → ∃ p : Prt, ∀ (j : Nat) v, (prV p)[j]? = some v → W.cell? (a.add (i * 2 + j)) = some v := by
   intro i hi
   have hb := hel i hi
   rw [List.getElem?_eq_getElem (by omega), tryd_c32, Option.bind_eq_some_iff] at hb
   obtain ⟨cs2, hcells, hy⟩ := hb
   obtain ⟨xs, m, _, _, hcl, hxl, hfld⟩ := DataW.trod_struct Tryd.underlying32 hy
   rw [tryd_c32] at hcl
   obtain ⟨y, z, rfl⟩ : ∃ y z, cs2 = [y, z] := by
    match cs2, hcl with
    | [y, z], _ => exact ⟨y, z, rfl⟩
   have hx2 : xs.length = 2 := hxl
   have f0 := hfld 0 _ rfl
   have f1 := hfld 1 _ rfl
   rw [show (Field.type _) = 5 from rfl, tryd_c5, List.getElem?_eq_getElem (by omega)] at f0
   rw [show (Field.type _) = 9 from rfl, tryd_c9, List.getElem?_eq_getElem (by omega)] at f1
   obtain ⟨k, hk, _, hwf⟩ := DataW.trod_int Tryd.underlying5 f0
   obtain ⟨s, hs, _, _⟩ := DataW.trod_string Tryd.underlying9 f1
   have hk' : y = .int .u8 k := by simpa using hk
   have hs' : z = .string s := by simpa using hs
   obtain ⟨c, rfl⟩ := u8_of hwf
   refine ⟨⟨c, s.data.toList⟩, fun j v hj => ?_⟩
   have hj2 : j < 2 := (List.getElem?_eq_some_iff.1 hj).1
   have hcell := (World.cells?_some hcells).2.2 j hj2
   have e : ([y, z] : List Value) = prV ⟨c, s.data.toList⟩ := by rw [hk', hs', S_of]; rfl
   rw [e, hj] at hcell
   rw [← hcell, Addr.add_add]
  obtain ⟨l, g3, g4⟩ := part_choice (a := a) each
  refine ⟨_, l, g1, some a, cap, by rw [g3], by rw [g3]; exact hl, fun i p hp => ?_⟩
  obtain ⟨p0, hp0⟩ : ∃ p0, l[0]? = some p0 := ⟨_, List.getElem?_eq_getElem (by have := (List.getElem?_eq_some_iff.1 hp).1; omega)⟩
  obtain ⟨b, o, rfl⟩ := addr_of (show W.cell? a = _ by simpa [Addr.add] using g4 0 p0 hp0 0 _ rfl)
  refine ⟨b, o, rfl, ?_, ?_⟩
  ·have := g4 i p hp 0 _ rfl
   rw [add_at] at this
   simpa using this
  ·have := g4 i p hp 1 _ rfl
   rw [add_at, ← Nat.add_assoc] at this
   exact this
theorem row_choice {a : Addr} : ∀ {n : Nat}, (∀ i, i < n → ∃ (u : Value) (l : List Prt), W.cell? (a.add i) = some u ∧ Prts W u l) → ∃ rs : List (List Prt), rs.length = n ∧ ∀ (i : Nat) l, rs[i]? = some l → ∃ u, W.cell? (a.add i) = some u ∧ Prts W u l
 | 0, _ => ⟨[], rfl, fun i r h => by simp at h⟩
 | n + 1, each => by
  obtain ⟨Rs, h1, h2⟩ := row_choice (a := a) (n := n) (fun i hi => each i (by omega))
  obtain ⟨u, l, hr⟩ := each n (by omega)
  refine ⟨Rs ++ [l], by simp [h1], fun i x hx => ?_⟩
  by_cases hi : i < n
  ·rw [List.getElem?_append_left (by omega)] at hx; exact h2 i x hx
  ·rw [List.getElem?_append_right (by omega)] at hx
   have hi' : i = n := by
    have := (List.getElem?_eq_some_iff.1 hx).1
    simp at this; omega
   subst hi'
   rw [h1, Nat.sub_self] at hx
   simp only [List.getElem?_cons_zero, Option.some.injEq] at hx
   subst hx
   exact ⟨u, hr⟩
theorem open_parts2 (hval : Value.okWide Tryd.prog W .any b0 22 v) (hd : DataW.Trod enc Tryd.prog W 0 (fun _ => true) true 22 v d ps) : ∃ rs, Tbl W v rs := by
 obtain ⟨a0, len0, cap0, rfl⟩ := okWide_slice Tryd.underlying22 hval
 obtain ⟨fuel, hf⟩ := hd
 have hcs0 : (Value.slice a0 len0 cap0).cells.toList = [.slice a0 len0 cap0] := rfl
 rw [hcs0] at hf
 rcases DataW.trod_slice Tryd.underlying22 hf with ⟨g1, _⟩ | ⟨a, len, cap, elems, rest, n, _, g1, _, _, hl, _, hlen, hel, _, _⟩
 ·cases g1
  exact ⟨[], none, 0, rfl, Nat.le_refl _, fun j x hx => by simp at hx⟩
 ·cases g1
  have each : ∀ i, i < len0 → ∃ (u : Value) (l : List Prt), W.cell? (a.add i) = some u ∧ Prts W u l := by
   intro i hi
   have hb := hel i hi
   rw [List.getElem?_eq_getElem (by omega), tryd_c30, Option.bind_eq_some_iff] at hb
   obtain ⟨cs2, hcells, hy⟩ := hb
   obtain ⟨u, l, rfl, h2⟩ := parts_of hy
   have hcell := (World.cells?_some hcells).2.2 0 (by omega)
   rw [Nat.mul_one, Addr.add_add, Nat.add_zero] at hcell
   exact ⟨u, l, hcell, h2⟩
  obtain ⟨rs, g3, g4⟩ := row_choice (a := a) each
  refine ⟨rs, some a, cap0, by rw [g3], by rw [g3]; exact hl, fun i r hr => ?_⟩
  have hi0 : ∃ r0, rs[0]? = some r0 := ⟨_, List.getElem?_eq_getElem (by have := (List.getElem?_eq_some_iff.1 hr).1; omega)⟩
  obtain ⟨r0, hr0⟩ := hi0
  obtain ⟨u0, hu0, _⟩ := g4 0 r0 hr0
  obtain ⟨b, o, rfl⟩ := addr_of (show W.cell? a = _ by simpa [Addr.add] using hu0)
  obtain ⟨u, hu, hp⟩ := g4 i r hr
  rw [add_at] at hu
  exact ⟨b, o, u, rfl, hu, hp⟩
end
end Go.Proofs.YtdjnbehdiohggaaDoor
