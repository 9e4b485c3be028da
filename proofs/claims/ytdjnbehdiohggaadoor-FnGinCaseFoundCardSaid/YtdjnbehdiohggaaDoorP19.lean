/- Lemmas of the walk and plain facts (HuC9 .. HsE5). -/
import Derived.Test.YtdjnbehdiohggaaDoorP18
import Derived.Test.YtdjnbehdiohggaaDoorP01
import Derived.Test.YtdjnbehdiohggaaDoorP12
import Derived.Test.YtdjnbehdiohggaaDoorP06
import Derived.Test.YtdjnbehdiohggaaDoorP04
import Derived.Laws.Small
/- findCaseInsensitivePathRec does what caseC says. Printed by wip/mk_hv8.py. -/
set_option maxRecDepth 20000
namespace Go.Proofs
open Go Bw
open Gt
theorem g59_keep {E : List UInt8 → List UInt8 → Bool} {g : Nat} {res : Option (List UInt8)} {R : Ending → World → Prop} {w : World} {D : Nat → Prop} {qb bb cp : Nat} {Ht : SH} {c0 : List UInt8} {n : T0} {p cu bl : List UInt8} {rb : UInt8} {nb : Nat} {fr : SF}
  (hn : Rd Ht n nb) (hbl : bl.length = cp) (hbt : bl.take cu.length = cu) (hpa : ∀ x ∈ p, x.toNat < 128) (hpl : p.length ≤ 100000) (hLp : n.path.length ≤ p.length) (hnL : Lk n) (hc0 : c0 <+: cu) (hHw : ∀ e ∈ Ht, e.w = true) (hsub : Sub [(0, Pt nb 0), (1, S (p.drop n.path.length)), (2, .slice (some ⟨bb, 0, none⟩) cu.length cp), (4, .bool false), (8, Pt qb 0), (11, I (n.path.length : Nat)), (12, S p)] fr) (hB : ∀ k ∈ n.kids, ∀ (x : UInt8) (r : Option (List UInt8)), caseC E false g k (p.drop n.path.length) x cu = some r → Fin59 R w D bb cp Ht c0 r → LpC R w D qb bb cp Ht k (p.drop n.path.length) x cu) (h : lastC (caseC E false g) n.idx n.kids (p.drop n.path.length) cu none (rbK n.path rb) = some res) (fin : Fin59 R w D bb cp Ht c0 res) :
  GC Tryd.prog ⟨59, Tryd.f59, R, w, D⟩ 606 K59k fr (⟨qb, true, .row (rbR (rbK n.path rb)) 98 (0, 0)⟩ :: ⟨bb, true, .row (bC bl) 5 (0, 0)⟩ :: Ht) := by
 unfold lastC at h
 cases hj : idxOf (rbK n.path rb) n.idx with
 | none =>
  simp only [hj] at h
  cases h
  exact g59_keepN hn hbl hbt hpa hpl hLp hnL hc0 hHw hsub hj fin
 | some i =>
  simp only [hj] at h
  cases hkid : n.kids[i]? with
  | none => simp only [hkid] at h; cases h
  | some k =>
   simp only [hkid] at h
   exact g59_keepY hn hbl hbt hpa hpl hLp hnL hc0 hHw hsub hj hkid (hB k (List.mem_of_getElem? hkid) _ _ h fin)
theorem g59_up {E : List UInt8 → List UInt8 → Bool} {g : Nat} {res : Option (List UInt8)} {R : Ending → World → Prop} {w : World} {D : Nat → Prop} {qb bb cp : Nat} {Ht : SH} {c0 : List UInt8} {n : T0} {p cu bl : List UInt8} {nb : Nat} {fr : SF}
  (hn : Rd Ht n nb) (hbl : bl.length = cp) (hbt : bl.take cu.length = cu) (hpa : ∀ x ∈ p, x.toNat < 128) (hpl : p.length ≤ 100000) (hLp : n.path.length ≤ p.length) (hnL : Lk n) (hc0 : c0 <+: cu) (hHw : ∀ e ∈ Ht, e.w = true) (hsub : Sub [(0, Pt nb 0), (1, S (p.drop n.path.length)), (2, .slice (some ⟨bb, 0, none⟩) cu.length cp), (4, .bool false), (8, Pt qb 0), (11, I (n.path.length : Nat)), (12, S p), (18, .int .i32 ((runeK n.path (p.drop n.path.length)).toNat : Int)), (19, I (0 : Nat)), (22, .int .i32 ((lo (runeK n.path (p.drop n.path.length))).toNat : Int))] fr) (hB : ∀ k ∈ n.kids, ∀ (x : UInt8) (r : Option (List UInt8)), caseC E false g k (p.drop n.path.length) x cu = some r → Fin59 R w D bb cp Ht c0 r → LpC R w D qb bb cp Ht k (p.drop n.path.length) x cu) (h : (if (up (runeK n.path (p.drop n.path.length))) ≠ (lo (runeK n.path (p.drop n.path.length))) then lastC (caseC E false g) n.idx n.kids (p.drop n.path.length) cu none (up (runeK n.path (p.drop n.path.length))) else some none) = some res) (fin : Fin59 R w D bb cp Ht c0 res) :
  GC Tryd.prog ⟨59, Tryd.f59, R, w, D⟩ 606 K59d fr (⟨qb, true, .row (rbR (lo (runeK n.path (p.drop n.path.length)))) 98 (0, 0)⟩ :: ⟨bb, true, .row (bC bl) 5 (0, 0)⟩ :: Ht) := by
 by_cases hul : (up (runeK n.path (p.drop n.path.length))) = (lo (runeK n.path (p.drop n.path.length)))
 ·rw [if_neg (fun e => e hul)] at h
  cases h
  exact g59_up0 hn hbl hbt hpa hpl hLp hnL hc0 hHw hsub hul fin
 rw [if_pos hul] at h
 unfold lastC at h
 cases hj : idxOf (up (runeK n.path (p.drop n.path.length))) n.idx with
 | none =>
  simp only [hj] at h
  cases h
  exact g59_upN hn hbl hbt hpa hpl hLp hnL hc0 hHw hsub hj hul fin
 | some i =>
  simp only [hj] at h
  cases hkid : n.kids[i]? with
  | none => simp only [hkid] at h; cases h
  | some k =>
   simp only [hkid] at h
   exact g59_upY hn hbl hbt hpa hpl hLp hnL hc0 hHw hsub hj hkid hul (hB k (List.mem_of_getElem? hkid) _ _ h fin)
theorem g59_lo {E : List UInt8 → List UInt8 → Bool} {g : Nat} {res : Option (List UInt8)} {R : Ending → World → Prop} {w : World} {D : Nat → Prop} {qb bb cp : Nat} {Ht : SH} {c0 : List UInt8} {n : T0} {p cu bl : List UInt8} {nb : Nat} {fr : SF}
  (hn : Rd Ht n nb) (hbl : bl.length = cp) (hbt : bl.take cu.length = cu) (hpa : ∀ x ∈ p, x.toNat < 128) (hpl : p.length ≤ 100000) (hLp : n.path.length ≤ p.length) (hnL : Lk n) (hc0 : c0 <+: cu) (hHw : ∀ e ∈ Ht, e.w = true) (hsub : Sub [(0, Pt nb 0), (1, S (p.drop n.path.length)), (2, .slice (some ⟨bb, 0, none⟩) cu.length cp), (4, .bool false), (8, Pt qb 0), (11, I (n.path.length : Nat)), (12, S p), (18, .int .i32 ((runeK n.path (p.drop n.path.length)).toNat : Int)), (19, I (0 : Nat)), (22, .int .i32 ((lo (runeK n.path (p.drop n.path.length))).toNat : Int)), (23, .int .u8 ((lo (runeK n.path (p.drop n.path.length))).toNat : Int))] fr) (hB : ∀ k ∈ n.kids, ∀ (x : UInt8) (r : Option (List UInt8)), caseC E false g k (p.drop n.path.length) x cu = some r → Fin59 R w D bb cp Ht c0 r → LpC R w D qb bb cp Ht k (p.drop n.path.length) x cu) (hA : ∀ k ∈ n.kids, ∀ (x : UInt8) (r : Option (List UInt8)), caseC E false g k (p.drop n.path.length) x cu = some r → Rec59 bb cp Ht k (p.drop n.path.length) x cu r) {r0 : Option (List UInt8)} (h0 : subC (caseC E false g) n.idx n.kids (p.drop n.path.length) cu (lo (runeK n.path (p.drop n.path.length))) = some r0) (hs : ∀ o, r0 = some o → Fin59 R w D bb cp Ht c0 (some o)) (hn2 : r0 = none → (if (up (runeK n.path (p.drop n.path.length))) ≠ (lo (runeK n.path (p.drop n.path.length))) then lastC (caseC E false g) n.idx n.kids (p.drop n.path.length) cu none (up (runeK n.path (p.drop n.path.length))) else some none) = some res) (fin : r0 = none → Fin59 R w D bb cp Ht c0 res) :
  GC Tryd.prog ⟨59, Tryd.f59, R, w, D⟩ 606 K59c fr (⟨qb, true, .row (rbR (lo (runeK n.path (p.drop n.path.length)))) 98 (0, 0)⟩ :: ⟨bb, true, .row (bC bl) 5 (0, 0)⟩ :: Ht) := by
 unfold subC at h0
 cases hj : idxOf (lo (runeK n.path (p.drop n.path.length))) n.idx with
 | none =>
  simp only [hj] at h0
  cases h0
  exact g59_loN hn hbl hbt hpa hpl hLp hnL hc0 hHw hsub hj fun fr' hs' => g59_up hn hbl hbt hpa hpl hLp hnL hc0 hHw hs' hB (hn2 rfl) (fin rfl)
 | some i =>
  simp only [hj] at h0
  cases hkid : n.kids[i]? with
  | none => simp only [hkid] at h0; cases h0
  | some k =>
   simp only [hkid] at h0
   exact g59_loY hn hbl hbt hpa hpl hLp hnL hc0 hHw hsub hj hkid (hA k (List.mem_of_getElem? hkid) _ _ h0) hs fun e bl' fr' hb ht hs' => g59_up hn hb ht hpa hpl hLp hnL hc0 hHw hs' hB (hn2 e) (fin e)
theorem g59_kW {E : List UInt8 → List UInt8 → Bool} {g : Nat} {R : Ending → World → Prop} {w : World} {D : Nat → Prop} {qb bb cp : Nat} {Ht : SH} {c0 : List UInt8} {n : T0} {p cu bl : List UInt8} {rb : UInt8} {nb : Nat} {fr : SF}
  (hn : Rd Ht n nb) (hbl : bl.length = cp) (hbt : bl.take cu.length = cu) (hpa : ∀ x ∈ p, x.toNat < 128) (hpl : p.length ≤ 100000) (hLp : n.path.length ≤ p.length) (hnL : Lk n) (hc0 : c0 <+: cu) (hHw : ∀ e ∈ Ht, e.w = true) (hsub : Sub [(0, Pt nb 0), (1, S (p.drop n.path.length)), (2, .slice (some ⟨bb, 0, none⟩) cu.length cp), (4, .bool false), (8, Pt qb 0), (11, I (n.path.length : Nat)), (12, S p)] fr) (hA : ∀ k ∈ n.kids, ∀ (x : UInt8) (r : Option (List UInt8)), caseC E false g k (p.drop n.path.length) x cu = some r → Rec59 bb cp Ht k (p.drop n.path.length) x cu r) {r0 : Option (List UInt8)} (h0 : subC (caseC E false g) n.idx n.kids (p.drop n.path.length) cu (rbK n.path rb) = some r0) (hs : ∀ o, r0 = some o → Fin59 R w D bb cp Ht c0 (some o)) (gn : r0 = none → ∀ bl' fr', bl'.length = cp → bl'.take cu.length = cu → Sub [(0, Pt nb 0), (1, S (p.drop n.path.length)), (2, .slice (some ⟨bb, 0, none⟩) cu.length cp), (4, .bool false), (8, Pt qb 0), (11, I (n.path.length : Nat)), (12, S p)] fr' → GC Tryd.prog ⟨59, Tryd.f59, R, w, D⟩ 606 K59v fr' (⟨qb, true, .row (rbR (rbK n.path rb)) 98 (0, 0)⟩ :: ⟨bb, true, .row (bC bl') 5 (0, 0)⟩ :: Ht)) :
  GC Tryd.prog ⟨59, Tryd.f59, R, w, D⟩ 606 K59l fr (⟨qb, true, .row (rbR (rbK n.path rb)) 98 (0, 0)⟩ :: ⟨bb, true, .row (bC bl) 5 (0, 0)⟩ :: Ht) := by
 unfold subC at h0
 cases hj : idxOf (rbK n.path rb) n.idx with
 | none =>
  simp only [hj] at h0
  cases h0
  exact g59_keepWN hn hbl hbt hpa hpl hLp hnL hc0 hHw hsub hj (gn rfl)
 | some i =>
  simp only [hj] at h0
  cases hkid : n.kids[i]? with
  | none => simp only [hkid] at h0; cases h0
  | some k =>
   simp only [hkid] at h0
   exact g59_keepWY hn hbl hbt hpa hpl hLp hnL hc0 hHw hsub hj hkid (hA k (List.mem_of_getElem? hkid) _ _ h0) hs gn
theorem g59_uW {E : List UInt8 → List UInt8 → Bool} {g : Nat} {R : Ending → World → Prop} {w : World} {D : Nat → Prop} {qb bb cp : Nat} {Ht : SH} {c0 : List UInt8} {n : T0} {p cu bl : List UInt8} {nb : Nat} {fr : SF}
  (hn : Rd Ht n nb) (hbl : bl.length = cp) (hbt : bl.take cu.length = cu) (hpa : ∀ x ∈ p, x.toNat < 128) (hpl : p.length ≤ 100000) (hLp : n.path.length ≤ p.length) (hnL : Lk n) (hc0 : c0 <+: cu) (hHw : ∀ e ∈ Ht, e.w = true) (hsub : Sub [(0, Pt nb 0), (1, S (p.drop n.path.length)), (2, .slice (some ⟨bb, 0, none⟩) cu.length cp), (4, .bool false), (8, Pt qb 0), (11, I (n.path.length : Nat)), (12, S p), (35, .int .i32 ((runeK n.path (p.drop n.path.length)).toNat : Int)), (36, I (0 : Nat)), (39, .int .i32 ((lo (runeK n.path (p.drop n.path.length))).toNat : Int))] fr) (hA : ∀ k ∈ n.kids, ∀ (x : UInt8) (r : Option (List UInt8)), caseC E false g k (p.drop n.path.length) x cu = some r → Rec59 bb cp Ht k (p.drop n.path.length) x cu r) (hul : (up (runeK n.path (p.drop n.path.length))) ≠ (lo (runeK n.path (p.drop n.path.length)))) {r0 : Option (List UInt8)} (h0 : subC (caseC E false g) n.idx n.kids (p.drop n.path.length) cu (up (runeK n.path (p.drop n.path.length))) = some r0) (hs : ∀ o, r0 = some o → Fin59 R w D bb cp Ht c0 (some o)) (gn : r0 = none → ∀ bl' fr', bl'.length = cp → bl'.take cu.length = cu → Sub [(0, Pt nb 0), (1, S (p.drop n.path.length)), (2, .slice (some ⟨bb, 0, none⟩) cu.length cp), (4, .bool false), (8, Pt qb 0), (11, I (n.path.length : Nat)), (12, S p)] fr' → GC Tryd.prog ⟨59, Tryd.f59, R, w, D⟩ 606 K59v fr' (⟨qb, true, .row (rbR (up (runeK n.path (p.drop n.path.length)))) 98 (0, 0)⟩ :: ⟨bb, true, .row (bC bl') 5 (0, 0)⟩ :: Ht)) :
  GC Tryd.prog ⟨59, Tryd.f59, R, w, D⟩ 606 K59f fr (⟨qb, true, .row (rbR (lo (runeK n.path (p.drop n.path.length)))) 98 (0, 0)⟩ :: ⟨bb, true, .row (bC bl) 5 (0, 0)⟩ :: Ht) := by
 unfold subC at h0
 cases hj : idxOf (up (runeK n.path (p.drop n.path.length))) n.idx with
 | none =>
  simp only [hj] at h0
  cases h0
  exact g59_upWN hn hbl hbt hpa hpl hLp hnL hc0 hHw hsub hj hul (gn rfl)
 | some i =>
  simp only [hj] at h0
  cases hkid : n.kids[i]? with
  | none => simp only [hkid] at h0; cases h0
  | some k =>
   simp only [hkid] at h0
   exact g59_upWY hn hbl hbt hpa hpl hLp hnL hc0 hHw hsub hj hkid (hA k (List.mem_of_getElem? hkid) _ _ h0) hul hs gn
theorem g59_lW {E : List UInt8 → List UInt8 → Bool} {g : Nat} {R : Ending → World → Prop} {w : World} {D : Nat → Prop} {qb bb cp : Nat} {Ht : SH} {c0 : List UInt8} {n : T0} {p cu bl : List UInt8} {nb : Nat} {fr : SF}
  (hn : Rd Ht n nb) (hbl : bl.length = cp) (hbt : bl.take cu.length = cu) (hpa : ∀ x ∈ p, x.toNat < 128) (hpl : p.length ≤ 100000) (hLp : n.path.length ≤ p.length) (hnL : Lk n) (hc0 : c0 <+: cu) (hHw : ∀ e ∈ Ht, e.w = true) (hsub : Sub [(0, Pt nb 0), (1, S (p.drop n.path.length)), (2, .slice (some ⟨bb, 0, none⟩) cu.length cp), (4, .bool false), (8, Pt qb 0), (11, I (n.path.length : Nat)), (12, S p), (35, .int .i32 ((runeK n.path (p.drop n.path.length)).toNat : Int)), (36, I (0 : Nat)), (39, .int .i32 ((lo (runeK n.path (p.drop n.path.length))).toNat : Int)), (40, .int .u8 ((lo (runeK n.path (p.drop n.path.length))).toNat : Int))] fr) (hA : ∀ k ∈ n.kids, ∀ (x : UInt8) (r : Option (List UInt8)), caseC E false g k (p.drop n.path.length) x cu = some r → Rec59 bb cp Ht k (p.drop n.path.length) x cu r) {r0 r1 : Option (List UInt8)} (h0 : subC (caseC E false g) n.idx n.kids (p.drop n.path.length) cu (lo (runeK n.path (p.drop n.path.length))) = some r0) (hs : ∀ o, r0 = some o → Fin59 R w D bb cp Ht c0 (some o))
  (h1 : r0 = none → (up (runeK n.path (p.drop n.path.length))) ≠ (lo (runeK n.path (p.drop n.path.length))) → subC (caseC E false g) n.idx n.kids (p.drop n.path.length) cu (up (runeK n.path (p.drop n.path.length))) = some r1) (hs1 : r0 = none → (up (runeK n.path (p.drop n.path.length))) ≠ (lo (runeK n.path (p.drop n.path.length))) → ∀ o, r1 = some o → Fin59 R w D bb cp Ht c0 (some o))
  (gl : r0 = none → (up (runeK n.path (p.drop n.path.length))) = (lo (runeK n.path (p.drop n.path.length))) → ∀ bl' fr', bl'.length = cp → bl'.take cu.length = cu → Sub [(0, Pt nb 0), (1, S (p.drop n.path.length)), (2, .slice (some ⟨bb, 0, none⟩) cu.length cp), (4, .bool false), (8, Pt qb 0), (11, I (n.path.length : Nat)), (12, S p)] fr' → GC Tryd.prog ⟨59, Tryd.f59, R, w, D⟩ 606 K59v fr' (⟨qb, true, .row (rbR (lo (runeK n.path (p.drop n.path.length)))) 98 (0, 0)⟩ :: ⟨bb, true, .row (bC bl') 5 (0, 0)⟩ :: Ht)) (gu : r0 = none → (up (runeK n.path (p.drop n.path.length))) ≠ (lo (runeK n.path (p.drop n.path.length))) → r1 = none → ∀ bl' fr', bl'.length = cp → bl'.take cu.length = cu → Sub [(0, Pt nb 0), (1, S (p.drop n.path.length)), (2, .slice (some ⟨bb, 0, none⟩) cu.length cp), (4, .bool false), (8, Pt qb 0), (11, I (n.path.length : Nat)), (12, S p)] fr' → GC Tryd.prog ⟨59, Tryd.f59, R, w, D⟩ 606 K59v fr' (⟨qb, true, .row (rbR (up (runeK n.path (p.drop n.path.length)))) 98 (0, 0)⟩ :: ⟨bb, true, .row (bC bl') 5 (0, 0)⟩ :: Ht)) :
  GC Tryd.prog ⟨59, Tryd.f59, R, w, D⟩ 606 K59e fr (⟨qb, true, .row (rbR (lo (runeK n.path (p.drop n.path.length)))) 98 (0, 0)⟩ :: ⟨bb, true, .row (bC bl) 5 (0, 0)⟩ :: Ht) := by
 have up : r0 = none → ∀ bl' fr', bl'.length = cp → bl'.take cu.length = cu → Sub [(0, Pt nb 0), (1, S (p.drop n.path.length)), (2, .slice (some ⟨bb, 0, none⟩) cu.length cp), (4, .bool false), (8, Pt qb 0), (11, I (n.path.length : Nat)), (12, S p), (35, .int .i32 ((runeK n.path (p.drop n.path.length)).toNat : Int)), (36, I (0 : Nat)), (39, .int .i32 ((lo (runeK n.path (p.drop n.path.length))).toNat : Int))] fr' → GC Tryd.prog ⟨59, Tryd.f59, R, w, D⟩ 606 K59f fr' (⟨qb, true, .row (rbR (lo (runeK n.path (p.drop n.path.length)))) 98 (0, 0)⟩ :: ⟨bb, true, .row (bC bl') 5 (0, 0)⟩ :: Ht) := fun e bl' fr' hb ht hs' => by
  by_cases hul : (up (runeK n.path (p.drop n.path.length))) = (lo (runeK n.path (p.drop n.path.length)))
  ·exact g59_up0W hn hb ht hpa hpl hLp hnL hc0 hHw hs' hul fun fr2 hs2 => gl e hul bl' fr2 hb ht hs2
  ·exact g59_uW hn hb ht hpa hpl hLp hnL hc0 hHw hs' hA hul (h1 e hul) (hs1 e hul) (gu e hul)
 unfold subC at h0
 cases hj : idxOf (lo (runeK n.path (p.drop n.path.length))) n.idx with
 | none =>
  simp only [hj] at h0
  cases h0
  exact g59_loWN hn hbl hbt hpa hpl hLp hnL hc0 hHw hsub hj (up rfl)
 | some i =>
  simp only [hj] at h0
  cases hkid : n.kids[i]? with
  | none => simp only [hkid] at h0; cases h0
  | some k =>
   simp only [hkid] at h0
   exact g59_loWY hn hbl hbt hpa hpl hLp hnL hc0 hHw hsub hj hkid (hA k (List.mem_of_getElem? hkid) _ _ h0) hs up
/-- the bytes of a tree's texts -/
inductive AllQ (Q : UInt8 → Prop) : T0 → Prop
 | mk {path idx : List UInt8} {wild : Bool} {nt pr : Nat} {h : Option Nat} {full : List UInt8} {kids : List T0} (hp : ∀ x ∈ path, Q x) (hk : ∀ k ∈ kids, AllQ Q k) : AllQ Q (.node () path idx wild nt pr h full kids)
theorem AllQ.path {Q n} (h : AllQ Q n) : ∀ x ∈ n.path, Q x := by cases h with | mk hp _ => exact hp
theorem AllQ.kid {Q n} (h : AllQ Q n) : ∀ k ∈ n.kids, AllQ Q k := by cases h with | mk _ hk => exact hk
theorem Ln.path {n : T0} (h : Ln n) : n.path.length ≤ 100000 := by cases h with | mk hp => exact hp
theorem f59_in {bb cp : Nat} {Ht : SH} {n : T0} {p : List UInt8} {x : UInt8} {cur : List UInt8} {r : Option (List UInt8)} (_hpl : p.length ≤ 100000)
  (hB : ∀ (R : Ending → World → Prop) (w : World) (D : Nat → Prop) (qb : Nat), Fin59 R w D bb cp Ht cur r → LpC R w D qb bb cp Ht n p x cur) : Rec59 bb cp Ht n p x cur r := by
 intro w D nb bl hn hbl hbt hH
 obtain ⟨kl, hkm⟩ := hn.has
 refine enter D (⟨bb, true, .row (bC bl) 5 (0, 0)⟩ :: Ht) Tryd.func59 rfl Tryd.ntmps59 rfl rfl hH fun c hc => ?_
 subst hc
 refine GC.seq ?_
 refine GC.reg ?_
 refine G.bx (l := rbR x) rfl (by simp [cells_agg, rbR]) rfl (fun qb hqb => ?_)
 refine G.m2 ?_
 refine G.nil ?_
 refine GC.scope ?_
 refine GC.seq ?_
 refine GC.reg ?_
 refine G.m1 ?_
 refine G.v (V.nc rfl) rfl ?_
 refine G.v (V.fa F94_0 rfl) rfl ?_
 refine G.v (V.ld (b := nb) (off := 0 + 0) (wf := true) (l := kl) (T := 94) (fz := (0, 0)) (v := S n.path) Tryd.isAgg9 rfl (m2 hkm.1) hkm.2) rfl ?_
 refine G.v (V.lenS Tryd.underlying9 rfl) rfl ?_
 refine G.m2 ?_
 refine G.nil ?_
 refine GC.seq ?_
 refine GC.label ?_
 refine GC.seq ?_
 refine GC.block ?_
 refine GC.loop ?_
 exact hB _ w D qb (fun bl' w' h1 h2 h3 => ⟨bl', rfl, h1, h2, h3⟩) nb bl _ hn hbl hbt (.of rfl)
theorem f59_all {E : List UInt8 → List UInt8 → Bool} {Q : UInt8 → Prop} (hE : EqC E Q) {bb cp : Nat} {Ht : SH} (hcp : cp ≤ 1000000) (hHw : ∀ e ∈ Ht, e.w = true) : ∀ (g : Nat) (n : T0) (p : List UInt8) (x : UInt8) (cur : List UInt8) (r : Option (List UInt8)), caseC E false g n p x cur = some r → Ln n → AllQ Q n → p ≠ [] → (∀ x ∈ p, x.toNat < 128) → p.length ≤ 100000 → cur.length + p.length + 1 ≤ cp →
  ∀ (R : Ending → World → Prop) (w : World) (D : Nat → Prop) (qb : Nat) (c0 : List UInt8), c0 <+: cur → Fin59 R w D bb cp Ht c0 r → LpC R w D qb bb cp Ht n p x cur
 | 0, _, _, _, _, _, h, _, _, _, _, _, _, _, _, _, _, _, _, _ => by cases h
 | g + 1, n, p, x, cur, r, h, hln, hq, hp0, hpa, hpl, hroom, R, w, D, qb, c0, hc0, fin => by
  intro nb bl fr hn hbl hbt hsub
  have h : caseS E false (caseC E false g) n.path n.idx n.wild n.h n.kids p x cur = some r := h
  unfold caseS at h
  refine g59_head hE hn hbl hbt hp0 hpa hpl hroom hcp hsub hq.path hln.path (fun h1 h2 bl1 fr1 hb1 ht1 hs1 => ?_) (fun hm _ => ?_) hc0
  ·rw [if_pos ⟨h1, h2⟩] at h
   dsimp only at h
   have hc1 : c0 <+: cur ++ n.path := hc0.trans (List.prefix_append _ _)
   have hroom1 : (cur ++ n.path).length + (p.drop n.path.length).length + 1 ≤ cp := by rw [List.length_append, List.length_drop]; omega
   have hdl : (p.drop n.path.length).length ≤ 100000 := by rw [List.length_drop]; omega
   have hda : ∀ x ∈ p.drop n.path.length, x.toNat < 128 := fun x hx => hpa x (List.mem_of_mem_drop hx)
   refine g59_a hn hb1 ht1 hpa hpl h1 hln.lk hc1 hHw hs1 (fun hq0 hh => ?_) (fun hq0 hh => ?_) (fun hq0 fr2 hs2 => ?_)
   ·rw [if_pos hq0, if_pos hh] at h
    cases h; exact fin
   ·rw [if_pos hq0, if_neg (by rw [hh]; decide), if_neg (by decide)] at h
    cases h; exact fin
   rw [if_neg hq0] at h
   have hB : ∀ k ∈ n.kids, ∀ (y : UInt8) (r' : Option (List UInt8)), caseC E false g k (p.drop n.path.length) y (cur ++ n.path) = some r' → Fin59 R w D bb cp Ht c0 r' → LpC R w D qb bb cp Ht k (p.drop n.path.length) y (cur ++ n.path) := fun k hk y r' hr hf =>
    f59_all hE hcp hHw g k _ y _ r' hr (hln.lk.2.2 k hk) (hq.kid k hk) hq0 hda hdl hroom1 R w D qb c0 hc1 hf
   have hA : ∀ k ∈ n.kids, ∀ (y : UInt8) (r' : Option (List UInt8)), caseC E false g k (p.drop n.path.length) y (cur ++ n.path) = some r' → Rec59 bb cp Ht k (p.drop n.path.length) y (cur ++ n.path) r' := fun k hk y r' hr =>
    f59_in hdl fun R w D qb hf => f59_all hE hcp hHw g k _ y _ r' hr (hln.lk.2.2 k hk) (hq.kid k hk) hq0 hda hdl hroom1 R w D qb _ (List.prefix_refl _) hf
   by_cases hw : n.wild = false
   ·rw [if_pos hw] at h
    rw [if_neg (fun e => by cases e.1 : ¬ (false = true ∧ p.drop n.path.length = [47] ∧ n.h.isSome = true))] at h
    refine g59_nw hn hb1 ht1 hpa hpl h1 hln.lk hc1 hHw hs2 hw hq0 (fun hk fr3 hs3 => ?_) (fun hk fr3 hs3 => ?_)
    ·rw [if_pos hk] at h
     exact g59_keep hn hb1 ht1 hpa hpl h1 hln.lk hc1 hHw hs3 hB h fin
    ·rw [if_neg (fun e => e hk)] at h
     cases h0 : subC (caseC E false g) n.idx n.kids (p.drop n.path.length) (cur ++ n.path) (lo (runeK n.path (p.drop n.path.length))) with
     | none => rw [h0] at h; cases h
     | some r0 =>
      rw [h0] at h
      refine g59_lo hn hb1 ht1 hpa hpl h1 hln.lk hc1 hHw hs3 (res := r) hB hA h0 (fun o e => ?_) (fun e => ?_) (fun e => ?_)
      ·subst e; cases h; exact fin
      ·subst e; exact h
      ·exact fin
   ·rw [if_neg hw] at h
    have hw1 : n.wild = true := by simpa using hw
    have goV : ∀ y bl2 fr4, y = rbW n.path n.idx (p.drop n.path.length) x → staC (caseC E false g) n.path n.idx n.kids (p.drop n.path.length) x (cur ++ n.path) = some none → bl2.length = cp → bl2.take (cur ++ n.path).length = cur ++ n.path → Sub [(0, Pt nb 0), (1, S (p.drop n.path.length)), (2, .slice (some ⟨bb, 0, none⟩) (cur ++ n.path).length cp), (4, .bool false), (8, Pt qb 0), (11, I (n.path.length : Nat)), (12, S p)] fr4 → GC Tryd.prog ⟨59, Tryd.f59, R, w, D⟩ 606 K59v fr4 (⟨qb, true, .row (rbR y) 98 (0, 0)⟩ :: ⟨bb, true, .row (bC bl2) 5 (0, 0)⟩ :: Ht) := fun y bl2 fr4 hy hst hb2 ht2 hs4 => by
     rw [hst] at h
     simp only at h
     cases hkid : n.kids[n.kids.length - 1]? with
     | none => rw [hkid] at h; cases h
     | some k =>
      rw [hkid] at h
      simp only at h
      have hkm := List.mem_of_getElem? hkid
      by_cases hk2 : k.nt = 2
      ·rw [if_pos hk2] at h
       refine g59_P hn hb2 ht2 hpa hpl h1 hln.lk hc1 hHw hs4 hkid hroom1 hk2 (fun c cr hlt hks => ?_) (fun hlt hks => ?_) (fun hlt hh => ?_) (fun hlt hh => ?_)
       ·rw [if_pos hlt, hks] at h
        simp only at h
        have htl := tw_le (p.drop n.path.length)
        refine f59_all hE hcp hHw g c _ _ _ r (hy ▸ h) ((hln.lk.2.2 k hkm).lk.2.2 c (by rw [hks]; exact .head _)) ((hq.kid k hkm).kid c (by rw [hks]; exact .head _)) (fun e => ?_) (fun x hx => hda x (List.mem_of_mem_drop hx)) (by rw [List.length_drop]; omega) (by rw [List.length_append, List.length_drop]; omega) R w D qb c0 (hc1.trans (List.prefix_append _ _)) fin
        rw [List.drop_eq_nil_iff] at e; omega
       ·rw [if_pos hlt, hks] at h
        simp only [Bool.false_eq_true, false_and, if_false] at h
        cases h; exact fin
       ·rw [if_neg hlt, if_pos hh] at h
        cases h
        have htl := tw_le (p.drop n.path.length)
        rw [tw_all (by omega)]
        exact fin
       ·rw [if_neg hlt, if_neg (by rw [hh]; decide)] at h
        cases h; exact fin
      ·rw [if_neg hk2] at h
       by_cases hk3 : k.nt = 3
       ·rw [if_pos hk3] at h
        cases h
        exact g59_A hn hb2 ht2 hpa hpl h1 hln.lk hc1 hHw hs4 hkid hroom1 hk3 fin
       ·rw [if_neg hk3] at h; cases h
    have goS : ∀ o, staC (caseC E false g) n.path n.idx n.kids (p.drop n.path.length) x (cur ++ n.path) = some (some o) → Fin59 R w D bb cp Ht c0 (some o) := fun o hst => by
     rw [hst] at h
     cases h; exact fin
    refine g59_wd hn hb1 ht1 hpa hpl h1 hln.lk hc1 hHw hs2 hw1 hq0 (fun hi fr3 hs3 => ?_) (fun hi hk fr3 hs3 => ?_) (fun hi hk fr3 hs3 => ?_)
    ·exact goV x _ _ (if_pos hi).symm (if_pos hi) hb1 ht1 hs3
    ·have hW : rbW n.path n.idx (p.drop n.path.length) x = rbK n.path x := (if_neg hi).trans (if_pos hk)
     have hst : staC (caseC E false g) n.path n.idx n.kids (p.drop n.path.length) x (cur ++ n.path) = subC (caseC E false g) n.idx n.kids (p.drop n.path.length) (cur ++ n.path) (rbK n.path x) := (if_neg hi).trans (if_pos hk)
     cases h0 : subC (caseC E false g) n.idx n.kids (p.drop n.path.length) (cur ++ n.path) (rbK n.path x) with
     | none => rw [hst, h0] at h; cases h
     | some r0 =>
      rw [h0] at hst
      exact g59_kW hn hb1 ht1 hpa hpl h1 hln.lk hc1 hHw hs3 hA h0 (fun o e => goS o (by rw [hst, e])) (fun e bl2 fr4 hb2 ht2 hs4 => goV _ bl2 fr4 hW.symm (by rw [hst, e]) hb2 ht2 hs4)
    ·have hst0 : ∀ z : Option (Option (List UInt8)), (match subC (caseC E false g) n.idx n.kids (p.drop n.path.length) (cur ++ n.path) (lo (runeK n.path (p.drop n.path.length))) with
      | none => none
      | some (some o) => some (some o)
      | some none => if up (runeK n.path (p.drop n.path.length)) ≠ lo (runeK n.path (p.drop n.path.length)) then subC (caseC E false g) n.idx n.kids (p.drop n.path.length) (cur ++ n.path) (up (runeK n.path (p.drop n.path.length))) else some none) = z → staC (caseC E false g) n.path n.idx n.kids (p.drop n.path.length) x (cur ++ n.path) = z := fun z hz => ((if_neg hi).trans (if_neg (fun e => e hk))).trans hz
     cases h0 : subC (caseC E false g) n.idx n.kids (p.drop n.path.length) (cur ++ n.path) (lo (runeK n.path (p.drop n.path.length))) with
     | none => rw [h0] at hst0; rw [hst0 none rfl] at h; cases h
     | some r0 =>
      rw [h0] at hst0
      by_cases hul : up (runeK n.path (p.drop n.path.length)) = lo (runeK n.path (p.drop n.path.length))
      ·refine g59_lW hn hb1 ht1 hpa hpl h1 hln.lk hc1 hHw hs3 hA (r1 := none) h0 (fun o e => goS o (hst0 _ (by rw [e]))) (fun _ e => absurd hul e) (fun _ e => absurd hul e) (fun e _ bl2 fr4 hb2 ht2 hs4 => ?_) (fun _ e => absurd hul e)
       exact goV _ bl2 fr4 ((if_neg hi).trans ((if_neg (fun e => e hk)).trans (if_neg (fun e => e hul)))).symm (hst0 _ (by rw [e]; exact if_neg (fun e => e hul))) hb2 ht2 hs4
      ·cases r0 with
       | some o => exact g59_lW hn hb1 ht1 hpa hpl h1 hln.lk hc1 hHw hs3 hA (r1 := none) h0 (fun o2 e => goS o2 (hst0 _ (by rw [e]))) (fun e => by cases e) (fun e => by cases e) (fun e => by cases e) (fun e => by cases e)
       | none =>
        cases hu : subC (caseC E false g) n.idx n.kids (p.drop n.path.length) (cur ++ n.path) (up (runeK n.path (p.drop n.path.length))) with
        | none => rw [hst0 none (by rw [if_pos hul]; exact hu)] at h; cases h
        | some r1 =>
         have hst1 := hst0 (some r1) (by simp only; rw [if_pos hul]; exact hu)
         exact g59_lW hn hb1 ht1 hpa hpl h1 hln.lk hc1 hHw hs3 hA h0 (fun o e => by cases e) (fun _ _ => hu) (fun _ _ o e => goS o (by rw [hst1, e])) (fun _ e => absurd e hul)
          (fun _ _ e bl2 fr4 hb2 ht2 hs4 => goV _ bl2 fr4 ((if_neg hi).trans ((if_neg (fun e => e hk)).trans (if_pos hul))).symm (by rw [hst1, e]) hb2 ht2 hs4)
  ·rw [if_neg hm, if_neg (fun e => by cases e.1)] at h
   rw [if_neg (fun e => by cases e.1)] at h
   cases h
   exact fin
theorem c59_any {E : List UInt8 → List UInt8 → Bool} {Q : UInt8 → Prop} (hE : EqC E Q) {bb cp g : Nat} {Ht : SH} (hcp : cp ≤ 1000000) (hHw : ∀ e ∈ Ht, e.w = true) {n : T0} {p : List UInt8} {x : UInt8} {cur : List UInt8} {r : Option (List UInt8)} (h : caseC E false g n p x cur = some r) (hln : Ln n) (hq : AllQ Q n) (hp0 : p ≠ []) (hpa : ∀ x ∈ p, x.toNat < 128) (hpl : p.length ≤ 100000) (hroom : cur.length + p.length + 1 ≤ cp) : Rec59 bb cp Ht n p x cur r :=
 f59_in hpl fun R w D qb hf => f59_all hE hcp hHw g n p x cur r h hln hq hp0 hpa hpl hroom R w D qb _ (List.prefix_refl _) hf
end Go.Proofs

/- The bytes of a tree's texts are those of its routes. -/
set_option maxRecDepth 20000
namespace Go.Proofs
open Go Bw Gt Gs Tr
theorem Rep.allQ {Q : UInt8 → Prop} : ∀ (g : Nat) (t : T0) (f : F) (b : Bool), size t ≤ g → Rep b t f → (t.nt = 2 → ∀ x ∈ t.path, Q x) → (∃ s v, f s = some v) → (∀ s v, f s = some v → ∀ c ∈ txt s, Q c) → AllQ Q t
 | 0, t, _, _, h, _, _, _, _ => by
  cases t with
  | node => simp [size] at h
 | g + 1, t, f, b, hsz, hrep, hpar, hne, hQ => by
  cases hrep with
  | pa => exact .mk (hpar rfl) (by simp)
  | @pk _ n idx pr h full k _ hh hidx hk hkn h47 hne2 =>
   have hs : 2 + (size k + 0) ≤ g + 1 := hsz
   refine .mk (hpar rfl) fun k2 hk2 => ?_
   rw [List.mem_singleton.1 hk2]
   obtain ⟨s, v, hs1, hs2⟩ := hne2
   refine Rep.allQ g k _ true (by omega) hk (fun e => by rw [hkn] at e; cases e) ⟨s, v, by rw [if_neg hs1]; exact hs2⟩ fun s v hs => ?_
   split at hs
   ·cases hs
   ·exact hQ s v hs
  | ca =>
   have hq := hQ _ _ (one_self _ _)
   refine .mk (by simp) fun k hk => ?_
   rw [List.mem_singleton.1 hk]
   refine .mk (fun x hx => hq x ?_) (by simp)
   simpa [txt] using hx
  | @st _ P idx wild nt pr h full kids _ wn wk hp hnt hpre hh hnd hpl hlen hk hkn hne2 hno hw hwr hnw hA hmin =>
   have hs : 2 + size.sizes kids ≤ g + 1 := hsz
   refine .mk (fun x hx => ?_) fun k hkm => ?_
   ·obtain ⟨s, v, hs⟩ := hne
    obtain ⟨r, rfl⟩ := hpre s v hs
    exact hQ _ v hs x (by rw [txt_app, txt_bs]; exact List.mem_append_left _ hx)
   ·have hks := size_kid hkm
    obtain ⟨j, hj⟩ := List.getElem?_of_mem hkm
    have hjl := (List.getElem?_eq_some_iff.1 hj).1
    rcases Nat.lt_or_ge j idx.length with hlt | hge
    ·have hij : idx[j]? = some idx[j] := List.getElem?_eq_getElem hlt
     obtain ⟨s, v, hsv⟩ := hne2 _ (List.mem_of_getElem? hij)
     refine Rep.allQ g k _ true (by omega) (hk j _ k hij hj) (fun e => by rcases hkn j k hlt hj with e2 | e2 <;> rw [e2] at e <;> cases e) ⟨.b idx[j] :: s, v, (if_pos rfl).trans hsv⟩ fun s v hs2 => ?_
     unfold at_ at hs2
     split at hs2
     ·exact fun c hc => hQ _ v hs2 c (by rw [txt_app]; exact List.mem_append_right _ hc)
     ·cases hs2
    ·cases wild with
     | false => simp at hlen; omega
     | true =>
      simp at hlen
      have e : j = idx.length := by omega
      subst e
      obtain ⟨hw1, hw2, hw3, hw4, ⟨s, v, hsv⟩, _⟩ := hw rfl
      rw [hw1] at hj
      cases hj
      refine Rep.allQ g wk _ true (by omega) (hwr rfl) (fun _ x hx => ?_) ⟨s, v, hsv⟩ fun s v hs2 c hc => ?_
      ·rw [hw4] at hx
       refine hQ _ v hsv x ?_
       rw [txt_app]
       refine List.mem_append_right _ ?_
       show x ∈ 58 :: (wn ++ txt s)
       rcases List.mem_cons.1 hx with rfl | hx
       ·exact .head _
       ·exact .tail _ (List.mem_append_left _ hx)
      ·refine hQ _ v hs2 c ?_
       rw [txt_app]
       refine List.mem_append_right _ ?_
       show c ∈ 58 :: (wn ++ txt s)
       exact .tail _ (List.mem_append_right _ hc)
end Go.Proofs

/- findCaseInsensitivePath, Fold, the function that GinCase hands on. Printed by wip/mk_hw1.py. -/
set_option maxRecDepth 20000
namespace Go.Proofs
open Go Bw
open Gt
theorem _root_.Bw.V.cvBN {P : Program} {c : Cx} {n : Nat} {fr : SF} {H : SH} {ty src dst e : TypeId} {x : Operand} {l cp : Nat} (hs : P.underlying src = some (.slice e)) (he : P.underlying e = some (.int .u8)) (hd : P.underlying dst = some .string) (hx : ev fr x = some (.slice none l cp)) : Val P c n (.convert src dst x) ty fr H (S []) := by
 intro a w ha hw ds pos aft g
 have h := run_convert_bytes_nil (P := P) w src e hs he l cp dst hd
 simp [execOp, ha.eval hx, h]; rfl
theorem cvOut {c : Cx} {n : Nat} {fr : SF} {H : SH} {ty : TypeId} {x : Operand} {bb cp : Nat} {bl : List UInt8} {r : Option (List UInt8)} (hm : (⟨bb, true, .row (bC bl) 5 (0, 0)⟩ : Ent) ∈ H) (hl : bl.length = cp) (ht : tkO [] r bl) (hx : ev fr x = some (outV bb cp r)) : Val Tryd.prog c n (.convert 44 9 x) ty fr H (S (r.getD [])) := by
 cases r with
 | none => exact V.cvBN Tryd.underlying44 Tryd.underlying5 Tryd.underlying9 hx
 | some o =>
  have h1 : bl.take o.length = o := ht
  have h2 : o.length ≤ bl.length := by rw [← h1, List.length_take]; omega
  have h3 : Val Tryd.prog c n (.convert 44 9 x) ty fr H (S (bl.take o.length)) := V.cvBS Tryd.underlying44 Tryd.underlying5 Tryd.underlying9 hx hm h2
  rw [h1] at h3
  exact h3
theorem c53_any (w : World) (D : Nat → Prop) {E : List UInt8 → List UInt8 → Bool} {Q : UInt8 → Prop} (hE : EqC E Q) {nb g : Nat} {Ht : SH} {t : T0} {p : List UInt8} {r : Option (List UInt8)} (ht : HT t nb Ht) (hln : Ln t) (hq : AllQ Q t) (hp0 : p ≠ []) (hpa : ∀ x ∈ p, x.toNat < 128) (hpl : p.length ≤ 50000) (hres : caseC E false g t p 0 [] = some r) (hH : HF w D Ht w) : Calls Tryd.prog 53 #[Pt nb 0, S p, .bool false] w fun e w' => ∃ bb cp bl, e = .returned (.tuple #[outV bb cp r, .bool r.isSome]) ∧ bl.length = cp ∧ tkO [] r bl ∧ HF w D (⟨bb, true, .row (bC bl) 5 (0, 0)⟩ :: Ht) w' := by
 refine enter D (Ht) Tryd.func53 rfl Tryd.ntmps53 rfl rfl hH fun c hc => ?_
 subst hc
 have hmx : (max 128 (p.length + 1)) ≤ 1000000 := by omega
 refine GC.seq ?_
 refine GC.reg ?_
 refine G.m2 ?_
 refine G.m2 ?_
 refine G.nil ?_
 refine GC.seq ?_
 refine GC.reg ?_
 refine G.m1 ?_
 refine G.v (V.lenS Tryd.underlying9 rfl) rfl ?_
 refine G.v (V.addI (r := ((p.length + 1 : Nat) : Int)) rfl rfl rfl (by omega) (by omega)) rfl ?_
 refine G.v (V.maxI (i := 128) (j := p.length + 1) rfl rfl) rfl ?_
 refine G.new (kb := .row (bC (List.replicate (max 128 (p.length + 1)) 0)) 5 (0, 0)) (v := fun b => .slice (some ⟨b, 0, none⟩) 0 (max 128 (p.length + 1))) (fun a w1 ha hw1 => mkB (i5 := Tryd.t5) (l := 0) (z := (max 128 (p.length + 1))) Tryd.underlying44 rfl rfl rfl rfl ha rfl rfl (Nat.zero_le _) (show (max 128 (p.length + 1)) ≤ 100000 by omega)) rfl (fun bb hbb => ?_)
 refine G.m2 ?_
 refine G.nil ?_
 refine GC.seq ?_
 refine GC.reg ?_
 refine G.m1 ?_
 refine G.m1 ?_
 refine G.m1 ?_
 refine G.v (V.bd (vs := []) rfl (fun w1 => bd98 w1)) rfl ?_
 refine G.m1 ?_
 refine G.callL (H1 := ⟨bb, true, .row (bC (List.replicate (max 128 (p.length + 1)) 0)) 5 (0, 0)⟩ :: Ht) (Hk := []) (fun v H1' => ∃ bl', v = outV bb (max 128 (p.length + 1)) r ∧ bl'.length = (max 128 (p.length + 1)) ∧ tkO [] r bl' ∧ H1' = ⟨bb, true, .row (bC bl') 5 (0, 0)⟩ :: Ht) (.of_eq (by simp)) (fun e0 he0 => ?_) Tryd.call59 rfl rfl (fun w1 hw1 _ => ?_) ?_
 ·rcases List.mem_cons.1 he0 with rfl | he0
  ·rfl
  ·exact ht.w e0 he0
 ·refine (c59_any hE hmx ht.w hres hln hq hp0 hpa (by omega) (by rw [List.length_nil]; omega) w1 _ nb (List.replicate (max 128 (p.length + 1)) 0) (ht.rd fun e h => h) (by simp) rfl hw1).mono fun e w' ⟨bl', h1, h2, h3, h4⟩ => ⟨_, _, h1, fun e0 he0 => ?_, h4, bl', rfl, h2, h3, rfl⟩
  rcases List.mem_cons.1 he0 with rfl | he0
  ·rfl
  ·exact ht.w e0 he0
 rintro v H1' ⟨bl', rfl, hbl', htk', rfl⟩
 rw [List.append_nil]
 refine G.m2 ?_
 refine G.nil ?_
 refine GC.seq ?_
 refine GC.reg ?_
 refine G.m1 ?_
 refine G.m1 ?_
 refine G.v (v := .bool r.isSome) (neL_out Tryd.underlying44 rfl) rfl ?_
 refine G.m2 ?_
 refine G.m2 ?_
 refine G.nil ?_
 exact GC.ret2 rfl rfl rfl fun w' hw' => ⟨bb, _, bl', rfl, hbl', htk', hw'⟩
theorem c40_any (w : World) (D : Nat → Prop) {E : List UInt8 → List UInt8 → Bool} {Q : UInt8 → Prop} (hE : EqC E Q) {nb g : Nat} {Ht : SH} {t : T0} {p : List UInt8} {r : Option (List UInt8)} (ht : HT t nb Ht) (hln : Ln t) (hq : AllQ Q t) (hp0 : p ≠ []) (hpa : ∀ x ∈ p, x.toNat < 128) (hpl : p.length ≤ 50000) (hres : caseC E false g t p 0 [] = some r) {tb m s : Nat} (hH : HF w D (⟨tb, true, .row (treeR nb m s) 86 (0, 0)⟩ :: Ht) w) : Calls Tryd.prog 40 #[Pt tb 0, S p, .bool false] w fun e w' => e = .returned (.tuple #[S (r.getD []), .bool r.isSome]) ∧ HF w D (⟨tb, true, .row (treeR nb m s) 86 (0, 0)⟩ :: Ht) w' := by
 refine enter D (⟨tb, true, .row (treeR nb m s) 86 (0, 0)⟩ :: Ht) Tryd.func40 rfl Tryd.ntmps40 rfl rfl hH fun c hc => ?_
 subst hc
 refine GC.seq ?_
 refine GC.reg ?_
 refine G.m2 ?_
 refine G.m2 ?_
 refine G.nil ?_
 refine GC.seq ?_
 refine GC.reg ?_
 refine G.m1 ?_
 refine G.v (V.nc rfl) rfl ?_
 refine G.v (V.fa F86_0 rfl) rfl ?_
 refine G.v (V.ld (b := tb) (off := 0 + 0) (wf := true) (l := treeR nb m s) (T := 86) (fz := (0, 0)) (v := Pt nb 0) Tryd.isAgg83 rfl (.head _) rfl) rfl ?_
 refine G.m1 ?_
 refine G.m1 ?_
 refine G.callL (H1 := Ht) (Hk := [⟨tb, true, .row (treeR nb m s) 86 (0, 0)⟩]) (fun v H1' => ∃ bb cp bl, v = .tuple #[outV bb cp r, .bool r.isSome] ∧ bl.length = cp ∧ tkO [] r bl ∧ H1' = ⟨bb, true, .row (bC bl) 5 (0, 0)⟩ :: Ht) ?_ ht.w Tryd.call53 rfl rfl (fun w1 hw1 _ => ?_) ?_
 ·exact (List.perm_append_comm (l₁ := [⟨tb, true, .row (treeR nb m s) 86 (0, 0)⟩]) (l₂ := Ht))
 ·refine (c53_any w1 _ hE ht hln hq hp0 hpa hpl hres hw1).mono fun e w' ⟨bb, cp, bl, h1, h2, h3, h4⟩ => ⟨_, _, h1, fun e0 he0 => ?_, h4, bb, cp, bl, rfl, h2, h3, rfl⟩
  rcases List.mem_cons.1 he0 with rfl | he0
  ·rfl
  ·exact ht.w e0 he0
 rintro v H1' ⟨bb, cp, bl, rfl, hbl, htk, rfl⟩
 refine G.m1 ?_
 refine G.v (V.ex rfl rfl) rfl ?_
 refine G.v (V.ex rfl rfl) rfl ?_
 refine G.m2 ?_
 refine G.m2 ?_
 refine G.nil ?_
 refine GC.seq ?_
 refine GC.reg ?_
 refine G.m1 ?_
 refine G.v (cvOut (bl := bl) (List.mem_append_left _ (.head _)) hbl htk rfl) rfl ?_
 refine G.m1 ?_
 refine G.m2 ?_
 refine G.m2 ?_
 refine G.nil ?_
 refine GC.ret2 rfl rfl rfl fun w' hw' => ⟨rfl, ?_⟩
 have h2 : HF w D (⟨bb, true, .row (bC bl) 5 (0, 0)⟩ :: (Ht ++ [⟨tb, true, .row (treeR nb m s) 86 (0, 0)⟩])) w' := hw'
 exact (h2.sub (List.sublist_cons_self _ _)).perm (List.perm_append_comm (l₁ := Ht) (l₂ := [⟨tb, true, .row (treeR nb m s) 86 (0, 0)⟩]))
theorem c39_any (w : World) (D : Nat → Prop) {E : List UInt8 → List UInt8 → Bool} {Q : UInt8 → Prop} (hE : EqC E Q) {nb g : Nat} {Ht : SH} {t : T0} {p : List UInt8} {r : Option (List UInt8)} (ht : HT t nb Ht) (hln : Ln t) (hq : AllQ Q t) (hp0 : p ≠ []) (hpa : ∀ x ∈ p, x.toNat < 128) (hpl : p.length ≤ 50000) (hres : caseC E false g t p 0 [] = some r) {tb m s ca cq cf cs ci : Nat} (hH : HF w D (⟨ca, true, .row [Pt tb 0] 63 (0, 0)⟩ :: ⟨cq, true, .row [S p] 9 (0, 0)⟩ :: ⟨cf, true, .row [.bool false] 4 (0, 0)⟩ :: ⟨cs, true, .row [S []] 9 (0, 0)⟩ :: ⟨ci, true, .row [.bool false] 4 (0, 0)⟩ :: ⟨tb, true, .row (treeR nb m s) 86 (0, 0)⟩ :: Ht) w) : Calls Tryd.prog 39 #[Pt ca 0, Pt cq 0, Pt cf 0, Pt cs 0, Pt ci 0] w fun e w' => e = .returned (.tuple #[]) ∧ HF w D (⟨ca, true, .row [Pt tb 0] 63 (0, 0)⟩ :: ⟨cq, true, .row [S p] 9 (0, 0)⟩ :: ⟨cf, true, .row [.bool false] 4 (0, 0)⟩ :: ⟨cs, true, .row [S (r.getD [])] 9 (0, 0)⟩ :: ⟨ci, true, .row [.bool r.isSome] 4 (0, 0)⟩ :: ⟨tb, true, .row (treeR nb m s) 86 (0, 0)⟩ :: Ht) w' := by
 refine enter D (⟨ca, true, .row [Pt tb 0] 63 (0, 0)⟩ :: ⟨cq, true, .row [S p] 9 (0, 0)⟩ :: ⟨cf, true, .row [.bool false] 4 (0, 0)⟩ :: ⟨cs, true, .row [S []] 9 (0, 0)⟩ :: ⟨ci, true, .row [.bool false] 4 (0, 0)⟩ :: ⟨tb, true, .row (treeR nb m s) 86 (0, 0)⟩ :: Ht) Tryd.func39 rfl Tryd.ntmps39 rfl rfl hH fun c hc => ?_
 subst hc
 refine GC.reg ?_
 refine G.v (V.ld (b := ca) (off := 0) (wf := true) (l := [Pt tb 0]) (T := 63) (fz := (0, 0)) (v := Pt tb 0) Tryd.isAgg63 rfl (.head _) rfl) rfl ?_
 refine G.v (V.ld (b := cq) (off := 0) (wf := true) (l := [S p]) (T := 9) (fz := (0, 0)) (v := S p) Tryd.isAgg9 rfl (.tail _ (.head _)) rfl) rfl ?_
 refine G.v (V.ld (b := cf) (off := 0) (wf := true) (l := [.bool false]) (T := 4) (fz := (0, 0)) (v := .bool false) Tryd.isAgg4 rfl (m2 (.head _)) rfl) rfl ?_
 refine G.callL (H1 := ⟨tb, true, .row (treeR nb m s) 86 (0, 0)⟩ :: Ht) (Hk := [⟨ca, true, .row [Pt tb 0] 63 (0, 0)⟩, ⟨cq, true, .row [S p] 9 (0, 0)⟩, ⟨cf, true, .row [.bool false] 4 (0, 0)⟩, ⟨cs, true, .row [S []] 9 (0, 0)⟩, ⟨ci, true, .row [.bool false] 4 (0, 0)⟩]) (fun v H1' => v = .tuple #[S (r.getD []), .bool r.isSome] ∧ H1' = ⟨tb, true, .row (treeR nb m s) 86 (0, 0)⟩ :: Ht) ?_ (fun e0 he0 => ?_) Tryd.call40 rfl rfl (fun w1 hw1 _ => (c40_any w1 _ hE ht hln hq hp0 hpa hpl hres hw1).mono fun e w' ⟨h1, h2⟩ => ⟨_, _, h1, fun e0 he0 => ?_, h2, rfl, rfl⟩) ?_
 ·exact (List.perm_append_comm (l₁ := [⟨ca, true, .row [Pt tb 0] 63 (0, 0)⟩, ⟨cq, true, .row [S p] 9 (0, 0)⟩, ⟨cf, true, .row [.bool false] 4 (0, 0)⟩, ⟨cs, true, .row [S []] 9 (0, 0)⟩, ⟨ci, true, .row [.bool false] 4 (0, 0)⟩]) (l₂ := ⟨tb, true, .row (treeR nb m s) 86 (0, 0)⟩ :: Ht))
 ·rcases List.mem_cons.1 he0 with rfl | he0
  ·rfl
  ·exact ht.w e0 he0
 ·rcases List.mem_cons.1 he0 with rfl | he0
  ·rfl
  ·exact ht.w e0 he0
 rintro v H1' ⟨rfl, rfl⟩
 refine G.turn (H' := ⟨ca, true, .row [Pt tb 0] 63 (0, 0)⟩ :: ⟨cq, true, .row [S p] 9 (0, 0)⟩ :: ⟨cf, true, .row [.bool false] 4 (0, 0)⟩ :: ⟨cs, true, .row [S []] 9 (0, 0)⟩ :: ⟨ci, true, .row [.bool false] 4 (0, 0)⟩ :: ⟨tb, true, .row (treeR nb m s) 86 (0, 0)⟩ :: Ht) (fun w1 h1 => h1.perm (List.perm_append_comm (l₁ := ⟨tb, true, .row (treeR nb m s) 86 (0, 0)⟩ :: Ht) (l₂ := [⟨ca, true, .row [Pt tb 0] 63 (0, 0)⟩, ⟨cq, true, .row [S p] 9 (0, 0)⟩, ⟨cf, true, .row [.bool false] 4 (0, 0)⟩, ⟨cs, true, .row [S []] 9 (0, 0)⟩, ⟨ci, true, .row [.bool false] 4 (0, 0)⟩]))) ?_
 refine G.m1 ?_
 refine G.v (V.ex rfl rfl) rfl ?_
 refine G.v (V.ex rfl rfl) rfl ?_
 refine G.st (b := cs) (off := 0) (l := [S []]) (T := 9) (fz := (0, 0)) (v := S (r.getD [])) Tryd.sizeOf9 rfl rfl rfl (.s (.s (.s .z))) rfl rfl ?_
 refine G.st (b := ci) (off := 0) (l := [.bool false]) (T := 4) (fz := (0, 0)) (v := .bool r.isSome) Tryd.sizeOf4 rfl rfl rfl (.s (.s (.s (.s .z)))) rfl rfl ?_
 refine G.nil ?_
 exact GC.end0 rfl fun w' hw' => ⟨rfl, hw'⟩
end Go.Proofs

/- impl.GinCase. Printed by wip/mk_hw2.py. -/
set_option maxRecDepth 20000
namespace Go.Proofs
open Go Bw
open Gt
/-- a query, and what is told of it -/
structure TF where
 q : List UInt8
 r : Option (List UInt8)
theorem c25_any (w : World) (rs : List (List Tok)) (sv : Value) (hg : ∀ r ∈ rs, Gt.Good r) (hl : ∀ r ∈ rs, (txt r).length ≤ 20000) (h92 : ∀ r ∈ rs, ∀ c ∈ txt r, c ≠ 92) (hn : rs.length ≤ 1000000) (hsv : Txts w sv (rs.map txt)) {E : List UInt8 → List UInt8 → Bool} {Q : UInt8 → Prop} (hE : EqC E Q) {t : T0} (hadd : addAll new (rs.map txt) 0 = .inl t) (hln : Ln t) (hq : AllQ Q t) (qb qo cp2 : Nat) (tl : List TF) (htl : ∀ x ∈ tl, x.q ≠ [] ∧ (∀ y ∈ x.q, y.toNat < 128) ∧ x.q.length ≤ 50000 ∧ ∃ g, caseC E false g t x.q 0 [] = some x.r) (hl2 : tl.length ≤ 100000) (hqc : ∀ i x, tl[i]? = some x → w.cell? ⟨qb, qo + i, none⟩ = some (S x.q)) : Calls Tryd.prog 25 #[sv, .slice (some ⟨qb, qo, none⟩) tl.length cp2, .bool false] w fun e w' => ∃ svT svF KT KB, e = .returned (.tuple #[svT, svF, .bool true]) ∧ Own 9 1 svT tl.length (tl.map fun x => S (x.r.getD [])) KT ∧ Own 4 1 svF tl.length (tl.map fun x => Value.bool x.r.isSome) KB ∧ HF w (fun _ => False) (KT ++ KB) w' := by
 refine enter (fun _ => False) [] Tryd.func25 rfl Tryd.ntmps25 rfl rfl (HF.start w _) fun c hc => ?_
 subst hc
 refine GC.seq ?_
 refine GC.reg ?_
 refine G.bx (l := [.bool false]) rfl rfl rfl (fun cf hcf => ?_)
 refine G.m2 ?_
 refine G.m2 ?_
 refine G.m2 ?_
 refine G.nil ?_
 refine GC.seq ?_
 refine GC.reg ?_
 refine G.m1 ?_
 refine G.callW (fun v H2 => ∃ tb nb Hn, v = .tuple #[Pt tb 0, I (-1)] ∧ HT t nb Hn ∧ H2 = (⟨tb, true, .row (treeR nb (mxP rs) (mxS rs)) 86 (0, 0)⟩ :: Hn) ++ [⟨cf, true, .row [.bool false] 4 (0, 0)⟩]) Tryd.call37 rfl rfl (fun w1 hw1 => ?_) ?_
 ·refine (f40_any w1 rs sv hg hl h92 hn (hsv.old hw1)).mono fun e w' h => ?_
  rcases h with ⟨t', tb, nb, Hn, h1, h2, h3, h4⟩ | ⟨j, tb, h1, _, _⟩
  ·rw [hadd] at h1
   cases h1
   exact ⟨_, _, h2, hw1.after0 h4 (fun e0 he0 => by
    rcases List.mem_cons.1 he0 with rfl | he0
    ·rfl
    ·exact h3.w e0 he0), tb, nb, Hn, rfl, h3, rfl⟩
  ·rw [hadd] at h1; cases h1
 rintro v H2 ⟨tb, nb, Hn, rfl, ht, rfl⟩
 refine G.m1 ?_
 refine G.v (V.ex rfl rfl) rfl ?_
 refine G.v (V.ex rfl rfl) rfl ?_
 refine G.al Tryd.zeroValue63 rfl rfl (fun ca hca => ?_)
 refine G.st Tryd.sizeOf63 rfl rfl rfl .z rfl rfl ?_
 refine G.m2 ?_
 refine G.nil ?_
 refine GC.seq ?_
 refine GC.seq ?_
 refine GC.reg ?_
 refine G.m1 ?_
 refine G.v (V.ge rfl rfl) rfl ?_
 refine G.nil ?_
 refine GC.condD rfl (fun h21 => absurd h21 (by decide)) (fun h21 => ?_)
 refine GC.skip ?_
 refine GC.seq ?_
 refine GC.seq ?_
 refine GC.reg ?_
 refine G.m1 ?_
 refine G.v (V.lenL Tryd.underlying27 rfl) rfl ?_
 refine G.m1 ?_
 refine G.nil ?_
 refine GC.block ?_
 refine GC.turn (H' := ([⟨tb, true, .row (treeR nb (mxP rs) (mxS rs)) 86 (0, 0)⟩, ⟨ca, true, .row [Pt tb 0] 63 (0, 0)⟩, ⟨cf, true, .row [.bool false] 4 (0, 0)⟩] ++ Hn) ++ ([] ++ [])) (fun w1 hw1 => ?_) ?_
 ·have h2 : HF w (fun _ => False) (⟨ca, true, .row [Pt tb 0] 63 (0, 0)⟩ :: (⟨tb, true, .row (treeR nb (mxP rs) (mxS rs)) 86 (0, 0)⟩ :: Hn ++ [⟨cf, true, .row [.bool false] 4 (0, 0)⟩])) w1 := hw1
  exact h2.perm (List.Perm.trans (.of_eq (by simp)) ((perm_idx [([⟨ca, true, .row [Pt tb 0] 63 (0, 0)⟩] : SH), ([⟨tb, true, .row (treeR nb (mxP rs) (mxS rs)) 86 (0, 0)⟩] : SH), Hn, ([⟨cf, true, .row [.bool false] 4 (0, 0)⟩] : SH)] [0, 1, 2, 3] [1, 0, 3, 2] (by decide)).trans (.of_eq (by simp))))
 refine GC.loopJ (fun N fr' H' => ∃ (i : Nat) (svT svF : Value) (KT KB : SH), i + N = tl.length ∧ Own 9 1 svT (i) ((tl.take (i)).map fun x => S (x.r.getD [])) KT ∧ Own 4 1 svF (i) ((tl.take (i)).map fun x => Value.bool x.r.isSome) KB ∧ Sub [(5, Pt cf 0), (6, svT), (7, svF), (9, Pt ca 0), (22, .slice (some ⟨qb, qo, none⟩) tl.length cp2), (23, I (tl.length : Nat)), (24, I ((i : Nat) : Int))] fr' ∧ ([⟨tb, true, .row (treeR nb (mxP rs) (mxS rs)) 86 (0, 0)⟩, ⟨ca, true, .row [Pt tb 0] 63 (0, 0)⟩, ⟨cf, true, .row [.bool false] 4 (0, 0)⟩] ++ Hn) ++ (KT ++ KB) = H') tl.length
  ⟨0, _, _, [], [], by omega, .nil, .nil, .of rfl, rfl⟩ ?_
 rintro N fr' H' ⟨i, svT, svF, KT, KB, hi, hownT, hownF, hs, rfl⟩ ih
 refine GC.weak hs ?_
 clear hs
 obtain ⟨adT, cpT, rfl⟩ := hownT.slice
 obtain ⟨adF, cpF, rfl⟩ := hownF.slice
 refine GC.seq ?_
 refine GC.reg ?_
 refine G.v (V.lt rfl rfl) rfl ?_
 refine G.nil ?_
 refine GC.seq ?_
 refine GC.condD rfl (fun h25 => ?_) (fun h25 => ?_)
 ·refine GC.skip ?_
  refine GC.seq ?_
  refine GC.block ?_
  refine GC.seq ?_
  have hlt : i < tl.length := by omega
  obtain ⟨x, hx⟩ : ∃ x, tl[i]? = some x := ⟨_, List.getElem?_eq_getElem hlt⟩
  have htx := htl x (List.mem_of_getElem? hx)
  obtain ⟨gx, hgx⟩ := htx.2.2.2
  refine GC.reg ?_
  refine G.v (V.ia (i := i) Tryd.underlying27 Tryd.sizeOf9 rfl rfl hlt) rfl ?_
  refine G.v (V.ldC (v := S x.q) Tryd.isAgg9 rfl (by rw [Nat.mul_one]; exact hqc i x hx) id) rfl ?_
  refine G.al Tryd.zeroValue9 rfl rfl (fun cq hcq => ?_)
  refine G.st Tryd.sizeOf9 rfl rfl rfl .z rfl rfl ?_
  refine G.nil ?_
  refine GC.seq ?_
  refine GC.reg ?_
  refine G.al Tryd.zeroValue9 rfl rfl (fun cs hcs => ?_)
  refine G.nil ?_
  refine GC.seq ?_
  refine GC.reg ?_
  refine G.al Tryd.zeroValue4 rfl rfl (fun ci hci => ?_)
  refine G.nil ?_
  refine GC.seq ?_
  refine GC.seq ?_
  refine GC.turn (H' := [⟨ci, true, .row [.bool false] 4 (0, 0)⟩, ⟨cs, true, .row [S []] 9 (0, 0)⟩, ⟨cq, true, .row [S x.q] 9 (0, 0)⟩] ++ (([⟨tb, true, .row (treeR nb (mxP rs) (mxS rs)) 86 (0, 0)⟩, ⟨ca, true, .row [Pt tb 0] 63 (0, 0)⟩, ⟨cf, true, .row [.bool false] 4 (0, 0)⟩] ++ Hn) ++ (KT ++ KB))) (fun w1 hw1 => hw1) ?_
  refine GC.reg ?_
  refine G.v (V.mkF (vs := [Pt ca 0, Pt cq 0, Pt cf 0, Pt cs 0, Pt ci 0]) rfl) rfl ?_
  refine G.callW (fun v H2 => v = .bool false ∧ H2 = ([⟨ca, true, .row [Pt tb 0] 63 (0, 0)⟩, ⟨cq, true, .row [S x.q] 9 (0, 0)⟩, ⟨cf, true, .row [.bool false] 4 (0, 0)⟩, ⟨cs, true, .row [S (x.r.getD [])] 9 (0, 0)⟩, ⟨ci, true, .row [.bool x.r.isSome] 4 (0, 0)⟩, ⟨tb, true, .row (treeR nb (mxP rs) (mxS rs)) 86 (0, 0)⟩] ++ Hn) ++ (KT ++ KB)) Tryd.call38 rfl rfl (fun w1 hw1 => ?_) ?_
  ·have hp0' := perm_idx [([⟨ci, true, .row [.bool false] 4 (0, 0)⟩] : SH), ([⟨cs, true, .row [S []] 9 (0, 0)⟩] : SH), ([⟨cq, true, .row [S x.q] 9 (0, 0)⟩] : SH), ([⟨tb, true, .row (treeR nb (mxP rs) (mxS rs)) 86 (0, 0)⟩] : SH), ([⟨ca, true, .row [Pt tb 0] 63 (0, 0)⟩] : SH), ([⟨cf, true, .row [.bool false] 4 (0, 0)⟩] : SH), Hn, KT ++ KB] [0, 1, 2, 3, 4, 5, 6, 7] [4, 2, 5, 1, 0, 3, 6, 7] (by decide)
   have hw1' : HF w (fun _ => False) (([⟨ca, true, .row [Pt tb 0] 63 (0, 0)⟩, ⟨cq, true, .row [S x.q] 9 (0, 0)⟩, ⟨cf, true, .row [.bool false] 4 (0, 0)⟩, ⟨cs, true, .row [S []] 9 (0, 0)⟩, ⟨ci, true, .row [.bool false] 4 (0, 0)⟩, ⟨tb, true, .row (treeR nb (mxP rs) (mxS rs)) 86 (0, 0)⟩] ++ Hn) ++ (KT ++ KB)) w1 := hw1.perm (List.Perm.trans (.of_eq (by simp)) (hp0'.trans (.of_eq (by simp))))
   refine (f42_any 39 #[Pt ca 0, Pt cq 0, Pt cf 0, Pt cs 0, Pt ci 0] Tryd.call39 w1 w (fun _ => False) _ hw1' (fun t H2 => t = false ∧ H2 = ([⟨ca, true, .row [Pt tb 0] 63 (0, 0)⟩, ⟨cq, true, .row [S x.q] 9 (0, 0)⟩, ⟨cf, true, .row [.bool false] 4 (0, 0)⟩, ⟨cs, true, .row [S (x.r.getD [])] 9 (0, 0)⟩, ⟨ci, true, .row [.bool x.r.isSome] 4 (0, 0)⟩, ⟨tb, true, .row (treeR nb (mxP rs) (mxS rs)) 86 (0, 0)⟩] ++ Hn) ++ (KT ++ KB)) (fun b w2 hb0 hw2 => ?_)).mono fun e w' ⟨t, H2, h1, ⟨h2, h3⟩, h4⟩ => ⟨_, _, h1, h4, by rw [h2], h3⟩
   have hp2 := perm_idx [([⟨b, true, .row [.bool false] 4 (0, 0)⟩] : SH), ([⟨ca, true, .row [Pt tb 0] 63 (0, 0)⟩, ⟨cq, true, .row [S x.q] 9 (0, 0)⟩, ⟨cf, true, .row [.bool false] 4 (0, 0)⟩, ⟨cs, true, .row [S []] 9 (0, 0)⟩, ⟨ci, true, .row [.bool false] 4 (0, 0)⟩, ⟨tb, true, .row (treeR nb (mxP rs) (mxS rs)) 86 (0, 0)⟩] ++ Hn), KT ++ KB] [0, 1, 2] [1, 0, 2] (by decide)
   have hp3 : List.Perm (⟨b, true, .row [.bool false] 4 (0, 0)⟩ :: (([⟨ca, true, .row [Pt tb 0] 63 (0, 0)⟩, ⟨cq, true, .row [S x.q] 9 (0, 0)⟩, ⟨cf, true, .row [.bool false] 4 (0, 0)⟩, ⟨cs, true, .row [S []] 9 (0, 0)⟩, ⟨ci, true, .row [.bool false] 4 (0, 0)⟩, ⟨tb, true, .row (treeR nb (mxP rs) (mxS rs)) 86 (0, 0)⟩] ++ Hn) ++ (KT ++ KB)) : SH) (([⟨ca, true, .row [Pt tb 0] 63 (0, 0)⟩, ⟨cq, true, .row [S x.q] 9 (0, 0)⟩, ⟨cf, true, .row [.bool false] 4 (0, 0)⟩, ⟨cs, true, .row [S []] 9 (0, 0)⟩, ⟨ci, true, .row [.bool false] 4 (0, 0)⟩, ⟨tb, true, .row (treeR nb (mxP rs) (mxS rs)) 86 (0, 0)⟩] ++ Hn) ++ (⟨b, true, .row [.bool false] 4 (0, 0)⟩ :: (KT ++ KB))) := List.Perm.trans (.of_eq (by simp)) (hp2.trans (.of_eq (by simp)))
   have hh := hw2.perm hp3
   have hnd := List.pairwise_append.1 hh.nd
   refine (c39_any w2 (fun b => ∃ e ∈ (([⟨ca, true, .row [Pt tb 0] 63 (0, 0)⟩, ⟨cq, true, .row [S x.q] 9 (0, 0)⟩, ⟨cf, true, .row [.bool false] 4 (0, 0)⟩, ⟨cs, true, .row [S []] 9 (0, 0)⟩, ⟨ci, true, .row [.bool false] 4 (0, 0)⟩, ⟨tb, true, .row (treeR nb (mxP rs) (mxS rs)) 86 (0, 0)⟩] ++ Hn) : SH), e.b = b) hE ht hln hq htx.1 htx.2.1 htx.2.2.1 hgx (hh.loc (fun e he => List.mem_append_left _ he) hnd.1)).mono fun e w' ⟨h1, h2⟩ => ⟨([⟨ca, true, .row [Pt tb 0] 63 (0, 0)⟩, ⟨cq, true, .row [S x.q] 9 (0, 0)⟩, ⟨cf, true, .row [.bool false] 4 (0, 0)⟩, ⟨cs, true, .row [S (x.r.getD [])] 9 (0, 0)⟩, ⟨ci, true, .row [.bool x.r.isSome] 4 (0, 0)⟩, ⟨tb, true, .row (treeR nb (mxP rs) (mxS rs)) 86 (0, 0)⟩] ++ Hn) ++ (KT ++ KB), ?_, .inl ⟨_, h1, rfl, rfl⟩⟩
   have h3 := hw2.back hp3 (fun e0 he0 => by
  simp only [List.cons_append, List.nil_append, List.mem_cons] at he0
  rcases he0 with rfl | rfl | rfl | rfl | rfl | rfl | he0
  all_goals first | rfl | exact ht.w e0 he0) (fun e0 he0 => by
  simp only [List.mem_cons] at he0
  rcases he0 with rfl | rfl | rfl | rfl | rfl | rfl | he0
  all_goals first | rfl | exact ht.w e0 he0) h2
   have hp4 := perm_idx [([⟨ca, true, .row [Pt tb 0] 63 (0, 0)⟩, ⟨cq, true, .row [S x.q] 9 (0, 0)⟩, ⟨cf, true, .row [.bool false] 4 (0, 0)⟩, ⟨cs, true, .row [S (x.r.getD [])] 9 (0, 0)⟩, ⟨ci, true, .row [.bool x.r.isSome] 4 (0, 0)⟩, ⟨tb, true, .row (treeR nb (mxP rs) (mxS rs)) 86 (0, 0)⟩] ++ Hn), ([⟨b, true, .row [.bool false] 4 (0, 0)⟩] : SH), KT ++ KB] [0, 1, 2] [1, 0, 2] (by decide)
   exact h3.perm (List.Perm.trans (.of_eq (by simp)) (hp4.trans (.of_eq (by simp))))
  rintro v H2 ⟨rfl, rfl⟩
  refine G.nil ?_
  refine GC.condF rfl ?_
  refine GC.skip ?_
  refine GC.join (fun fr' H' => ∃ (svT2 svF2 : Value) (KT2 KB2 : SH), Own 9 1 svT2 (i + 1) ((tl.take (i + 1)).map fun x => S (x.r.getD [])) KT2 ∧ Own 4 1 svF2 (i + 1) ((tl.take (i + 1)).map fun x => Value.bool x.r.isSome) KB2 ∧ Sub [(5, Pt cf 0), (6, svT2), (7, svF2), (9, Pt ca 0), (22, .slice (some ⟨qb, qo, none⟩) tl.length cp2), (23, I (tl.length : Nat)), (24, I ((i : Nat) : Int))] fr' ∧ (∀ w1, HF w (fun _ => False) H' w1 → HF w (fun _ => False) (([⟨tb, true, .row (treeR nb (mxP rs) (mxS rs)) 86 (0, 0)⟩, ⟨ca, true, .row [Pt tb 0] 63 (0, 0)⟩, ⟨cf, true, .row [.bool false] 4 (0, 0)⟩] ++ Hn) ++ (KT2 ++ KB2)) w1)) (fun J11 => ?_) ?_
  ·have fin11 : ∀ (KT2 KB2 : SH) (T : SH) w1, HF w (fun _ => False) (T ++ (([⟨ca, true, .row [Pt tb 0] 63 (0, 0)⟩, ⟨cq, true, .row [S x.q] 9 (0, 0)⟩, ⟨cf, true, .row [.bool false] 4 (0, 0)⟩, ⟨cs, true, .row [S (x.r.getD [])] 9 (0, 0)⟩, ⟨ci, true, .row [.bool x.r.isSome] 4 (0, 0)⟩, ⟨tb, true, .row (treeR nb (mxP rs) (mxS rs)) 86 (0, 0)⟩] ++ Hn) ++ (KT2 ++ KB2))) w1 → HF w (fun _ => False) (([⟨tb, true, .row (treeR nb (mxP rs) (mxS rs)) 86 (0, 0)⟩, ⟨ca, true, .row [Pt tb 0] 63 (0, 0)⟩, ⟨cf, true, .row [.bool false] 4 (0, 0)⟩] ++ Hn) ++ (KT2 ++ KB2)) w1 := fun KT2 KB2 T w1 h => by
    have h1 := h.sub (List.sublist_append_right T _)
    have h2 : HF w (fun _ => False) ([⟨cq, true, .row [S x.q] 9 (0, 0)⟩, ⟨cs, true, .row [S (x.r.getD [])] 9 (0, 0)⟩, ⟨ci, true, .row [.bool x.r.isSome] 4 (0, 0)⟩] ++ (([⟨tb, true, .row (treeR nb (mxP rs) (mxS rs)) 86 (0, 0)⟩, ⟨ca, true, .row [Pt tb 0] 63 (0, 0)⟩, ⟨cf, true, .row [.bool false] 4 (0, 0)⟩] ++ Hn) ++ (KT2 ++ KB2))) w1 := h1.perm (List.Perm.trans (.of_eq (by simp)) ((perm_idx [([⟨ca, true, .row [Pt tb 0] 63 (0, 0)⟩] : SH), ([⟨cq, true, .row [S x.q] 9 (0, 0)⟩] : SH), ([⟨cf, true, .row [.bool false] 4 (0, 0)⟩] : SH), ([⟨cs, true, .row [S (x.r.getD [])] 9 (0, 0)⟩] : SH), ([⟨ci, true, .row [.bool x.r.isSome] 4 (0, 0)⟩] : SH), ([⟨tb, true, .row (treeR nb (mxP rs) (mxS rs)) 86 (0, 0)⟩] : SH), Hn, KT2 ++ KB2] [0, 1, 2, 3, 4, 5, 6, 7] [1, 3, 4, 5, 0, 2, 6, 7] (by decide)).trans (.of_eq (by simp))))
    exact h2.sub (List.sublist_append_right [_, _, _] _)
   have hSb : ∀ (H : SH) w1, HF w (fun _ => False) H w1 → (⟨cs, true, .row [S (x.r.getD [])] 9 (0, 0)⟩ : Ent) ∈ H → (⟨ci, true, .row [.bool x.r.isSome] 4 (0, 0)⟩ : Ent) ∈ H → w1.cell? ⟨cs, 0, none⟩ = some (S (x.r.getD [])) ∧ w1.cell? ⟨ci, 0, none⟩ = some (.bool x.r.isSome) := fun H w1 hw h1 h2 => ⟨cell_row hw h1 rfl, cell_row hw h2 rfl⟩
   have htkT : (tl.take i).map (fun x => S (x.r.getD [])) ++ [S (x.r.getD [])] = (tl.take (i + 1)).map fun x => S (x.r.getD []) := by rw [List.take_add_one, hx]; simp
   have htkF : (tl.take i).map (fun x => Value.bool x.r.isSome) ++ [Value.bool x.r.isSome] = (tl.take (i + 1)).map fun x => Value.bool x.r.isSome := by rw [List.take_add_one, hx]; simp
   refine GC.regA (fun w1 : World => w1.cell? ⟨cs, 0, none⟩ = some (S (x.r.getD [])) ∧ w1.cell? ⟨ci, 0, none⟩ = some (.bool x.r.isSome)) mixed ?_
   refine GA.p 0 rfl (by kernel_rfl) (fun w1 hw1 => hSb _ w1 hw1 (by simp) (by simp)) (fun _ => V.mv rfl) rfl ?_
   refine GA.p 4 rfl (by kernel_rfl) (fun w1 hw1 => hSb _ w1 hw1 (by simp) (by simp)) (fun _ => V.mv rfl) rfl ?_
   refine GA.ld 1 (v := S (x.r.getD [])) rfl (by kernel_rfl) (fun w1 hw1 => hSb _ w1 hw1 (by simp) (by simp)) Tryd.isAgg9 rfl (fun w1 h => h.1) rfl ?_
   refine GA.ld 5 (v := .bool x.r.isSome) rfl (by kernel_rfl) (fun w1 hw1 => hSb _ w1 hw1 (by simp) (by simp)) Tryd.isAgg4 rfl (fun w1 h => h.2) rfl ?_
   refine GA.two 2 6 rfl rfl (by kernel_rfl) ?_ ?_
   ·refine GB.bs (BS.one Tryd.underlying27 Tryd.sizeOf9 Tryd.zeroValue9 (v := S (x.r.getD [])) rfl) rfl (fun w1 hw1 => hSb _ w1 hw1 (by simp) (by simp)) rfl (fun tb1 => ?_)
    refine GA.two 3 6 rfl rfl (by kernel_rfl) ?_ ?_
    ·refine GB.app (i := Tryd.t9) (sz := 1) (by_ := 16) Tryd.underlying27 rfl rfl rfl rfl rfl rfl rfl hownT (H' := ([⟨tb1, true, .row [S (x.r.getD [])] 9 (0, 0)⟩] : SH) ++ ([⟨ca, true, .row [Pt tb 0] 63 (0, 0)⟩, ⟨cq, true, .row [S x.q] 9 (0, 0)⟩, ⟨cf, true, .row [.bool false] 4 (0, 0)⟩, ⟨cs, true, .row [S (x.r.getD [])] 9 (0, 0)⟩, ⟨ci, true, .row [.bool x.r.isSome] 4 (0, 0)⟩, ⟨tb, true, .row (treeR nb (mxP rs) (mxS rs)) 86 (0, 0)⟩] ++ Hn) ++ KB) (List.Perm.trans (.of_eq (by simp)) ((perm_idx [([⟨tb1, true, .row [S (x.r.getD [])] 9 (0, 0)⟩] : SH), (([⟨ca, true, .row [Pt tb 0] 63 (0, 0)⟩, ⟨cq, true, .row [S x.q] 9 (0, 0)⟩, ⟨cf, true, .row [.bool false] 4 (0, 0)⟩, ⟨cs, true, .row [S (x.r.getD [])] 9 (0, 0)⟩, ⟨ci, true, .row [.bool x.r.isSome] 4 (0, 0)⟩, ⟨tb, true, .row (treeR nb (mxP rs) (mxS rs)) 86 (0, 0)⟩] ++ Hn) : SH), KT, KB] [0, 1, 2, 3] [2, 0, 1, 3] (by decide)).trans (.of_eq (by simp)))) (src_row (b := tb1) (wf := true) (vs := [S (x.r.getD [])]) (r := []) (t := 9) (fz := (0, 0)) (by simp)) rfl (by simp [Value.oneCell']) (by omega) (by omega) (by omega) (fun w1 hw1 => hSb _ w1 hw1 (by simp) (by simp)) rfl (fun svT2 KT2 hownT2 => ?_)
     refine GA.one 6 rfl (by kernel_rfl) ?_
     refine GB.bs (BS.one Tryd.underlying54 Tryd.sizeOf4 Tryd.zeroValue4 (v := .bool x.r.isSome) rfl) rfl (fun w1 hw1 => hSb _ w1 hw1 (by simp) (by simp)) rfl (fun tb2 => ?_)
     refine GA.one 7 rfl (by kernel_rfl) ?_
     refine GB.app (i := Tryd.t4) (sz := 1) (by_ := 1) Tryd.underlying54 rfl rfl rfl rfl rfl rfl rfl hownF (H' := ([⟨tb2, true, .row [.bool x.r.isSome] 4 (0, 0)⟩] : SH) ++ ([⟨tb1, true, .row [S (x.r.getD [])] 9 (0, 0)⟩] : SH) ++ ([⟨ca, true, .row [Pt tb 0] 63 (0, 0)⟩, ⟨cq, true, .row [S x.q] 9 (0, 0)⟩, ⟨cf, true, .row [.bool false] 4 (0, 0)⟩, ⟨cs, true, .row [S (x.r.getD [])] 9 (0, 0)⟩, ⟨ci, true, .row [.bool x.r.isSome] 4 (0, 0)⟩, ⟨tb, true, .row (treeR nb (mxP rs) (mxS rs)) 86 (0, 0)⟩] ++ Hn) ++ KT2) (List.Perm.trans (.of_eq (by simp)) ((perm_idx [([⟨tb2, true, .row [.bool x.r.isSome] 4 (0, 0)⟩] : SH), ([⟨tb1, true, .row [S (x.r.getD [])] 9 (0, 0)⟩] : SH), (([⟨ca, true, .row [Pt tb 0] 63 (0, 0)⟩, ⟨cq, true, .row [S x.q] 9 (0, 0)⟩, ⟨cf, true, .row [.bool false] 4 (0, 0)⟩, ⟨cs, true, .row [S (x.r.getD [])] 9 (0, 0)⟩, ⟨ci, true, .row [.bool x.r.isSome] 4 (0, 0)⟩, ⟨tb, true, .row (treeR nb (mxP rs) (mxS rs)) 86 (0, 0)⟩] ++ Hn) : SH), KB, KT2] [0, 1, 2, 3, 4] [3, 0, 1, 2, 4] (by decide)).trans (.of_eq (by simp)))) (src_row (b := tb2) (wf := true) (vs := [.bool x.r.isSome]) (r := []) (t := 4) (fz := (0, 0)) (by simp)) rfl (by simp [Value.oneCell']) (by omega) (by omega) (by omega) (fun w1 hw1 => hSb _ w1 hw1 (by simp) (by simp)) rfl (fun svF2 KB2 hownF2 => ?_)
     refine GA.p 8 rfl (by kernel_rfl) (fun w1 hw1 => hSb _ w1 hw1 (by simp) (by simp)) (fun _ => V.asg rfl) rfl ?_
     refine GA.p 9 rfl (by kernel_rfl) (fun w1 hw1 => hSb _ w1 hw1 (by simp) (by simp)) (fun _ => V.asg rfl) rfl ?_
     refine GA.done (by kernel_rfl) ?_
     refine J11 _ _ ⟨svT2, svF2, KT2, KB2, htkT ▸ hownT2, htkF ▸ hownF2, .of rfl, fun w1 h => ?_⟩
     have h2 : HF w (fun _ => False) ([⟨tb2, true, .row [.bool x.r.isSome] 4 (0, 0)⟩, ⟨tb1, true, .row [S (x.r.getD [])] 9 (0, 0)⟩] ++ (([⟨ca, true, .row [Pt tb 0] 63 (0, 0)⟩, ⟨cq, true, .row [S x.q] 9 (0, 0)⟩, ⟨cf, true, .row [.bool false] 4 (0, 0)⟩, ⟨cs, true, .row [S (x.r.getD [])] 9 (0, 0)⟩, ⟨ci, true, .row [.bool x.r.isSome] 4 (0, 0)⟩, ⟨tb, true, .row (treeR nb (mxP rs) (mxS rs)) 86 (0, 0)⟩] ++ Hn) ++ (KT2 ++ KB2))) w1 := h.perm (List.Perm.trans (.of_eq (by simp)) ((perm_idx [([⟨tb2, true, .row [.bool x.r.isSome] 4 (0, 0)⟩] : SH), ([⟨tb1, true, .row [S (x.r.getD [])] 9 (0, 0)⟩] : SH), (([⟨ca, true, .row [Pt tb 0] 63 (0, 0)⟩, ⟨cq, true, .row [S x.q] 9 (0, 0)⟩, ⟨cf, true, .row [.bool false] 4 (0, 0)⟩, ⟨cs, true, .row [S (x.r.getD [])] 9 (0, 0)⟩, ⟨ci, true, .row [.bool x.r.isSome] 4 (0, 0)⟩, ⟨tb, true, .row (treeR nb (mxP rs) (mxS rs)) 86 (0, 0)⟩] ++ Hn) : SH), KT2, KB2] [0, 1, 2, 3, 4] [0, 1, 2, 3, 4] (by decide)).trans (.of_eq (by simp))))
     exact fin11 _ _ _ _ h2
    ·refine GB.bs (BS.one Tryd.underlying54 Tryd.sizeOf4 Tryd.zeroValue4 (v := .bool x.r.isSome) rfl) rfl (fun w1 hw1 => hSb _ w1 hw1 (by simp) (by simp)) rfl (fun tb2 => ?_)
     refine GA.one 3 rfl (by kernel_rfl) ?_
     refine GB.app (i := Tryd.t9) (sz := 1) (by_ := 16) Tryd.underlying27 rfl rfl rfl rfl rfl rfl rfl hownT (H' := ([⟨tb2, true, .row [.bool x.r.isSome] 4 (0, 0)⟩] : SH) ++ ([⟨tb1, true, .row [S (x.r.getD [])] 9 (0, 0)⟩] : SH) ++ ([⟨ca, true, .row [Pt tb 0] 63 (0, 0)⟩, ⟨cq, true, .row [S x.q] 9 (0, 0)⟩, ⟨cf, true, .row [.bool false] 4 (0, 0)⟩, ⟨cs, true, .row [S (x.r.getD [])] 9 (0, 0)⟩, ⟨ci, true, .row [.bool x.r.isSome] 4 (0, 0)⟩, ⟨tb, true, .row (treeR nb (mxP rs) (mxS rs)) 86 (0, 0)⟩] ++ Hn) ++ KB) (List.Perm.trans (.of_eq (by simp)) ((perm_idx [([⟨tb2, true, .row [.bool x.r.isSome] 4 (0, 0)⟩] : SH), ([⟨tb1, true, .row [S (x.r.getD [])] 9 (0, 0)⟩] : SH), (([⟨ca, true, .row [Pt tb 0] 63 (0, 0)⟩, ⟨cq, true, .row [S x.q] 9 (0, 0)⟩, ⟨cf, true, .row [.bool false] 4 (0, 0)⟩, ⟨cs, true, .row [S (x.r.getD [])] 9 (0, 0)⟩, ⟨ci, true, .row [.bool x.r.isSome] 4 (0, 0)⟩, ⟨tb, true, .row (treeR nb (mxP rs) (mxS rs)) 86 (0, 0)⟩] ++ Hn) : SH), KT, KB] [0, 1, 2, 3, 4] [3, 0, 1, 2, 4] (by decide)).trans (.of_eq (by simp)))) (src_row (b := tb1) (wf := true) (vs := [S (x.r.getD [])]) (r := []) (t := 9) (fz := (0, 0)) (by simp)) rfl (by simp [Value.oneCell']) (by omega) (by omega) (by omega) (fun w1 hw1 => hSb _ w1 hw1 (by simp) (by simp)) rfl (fun svT2 KT2 hownT2 => ?_)
     refine GA.one 7 rfl (by kernel_rfl) ?_
     refine GB.app (i := Tryd.t4) (sz := 1) (by_ := 1) Tryd.underlying54 rfl rfl rfl rfl rfl rfl rfl hownF (H' := ([⟨tb2, true, .row [.bool x.r.isSome] 4 (0, 0)⟩] : SH) ++ ([⟨tb1, true, .row [S (x.r.getD [])] 9 (0, 0)⟩] : SH) ++ ([⟨ca, true, .row [Pt tb 0] 63 (0, 0)⟩, ⟨cq, true, .row [S x.q] 9 (0, 0)⟩, ⟨cf, true, .row [.bool false] 4 (0, 0)⟩, ⟨cs, true, .row [S (x.r.getD [])] 9 (0, 0)⟩, ⟨ci, true, .row [.bool x.r.isSome] 4 (0, 0)⟩, ⟨tb, true, .row (treeR nb (mxP rs) (mxS rs)) 86 (0, 0)⟩] ++ Hn) ++ KT2) (List.Perm.trans (.of_eq (by simp)) ((perm_idx [([⟨tb2, true, .row [.bool x.r.isSome] 4 (0, 0)⟩] : SH), ([⟨tb1, true, .row [S (x.r.getD [])] 9 (0, 0)⟩] : SH), (([⟨ca, true, .row [Pt tb 0] 63 (0, 0)⟩, ⟨cq, true, .row [S x.q] 9 (0, 0)⟩, ⟨cf, true, .row [.bool false] 4 (0, 0)⟩, ⟨cs, true, .row [S (x.r.getD [])] 9 (0, 0)⟩, ⟨ci, true, .row [.bool x.r.isSome] 4 (0, 0)⟩, ⟨tb, true, .row (treeR nb (mxP rs) (mxS rs)) 86 (0, 0)⟩] ++ Hn) : SH), KB, KT2] [0, 1, 2, 3, 4] [3, 0, 1, 2, 4] (by decide)).trans (.of_eq (by simp)))) (src_row (b := tb2) (wf := true) (vs := [.bool x.r.isSome]) (r := []) (t := 4) (fz := (0, 0)) (by simp)) rfl (by simp [Value.oneCell']) (by omega) (by omega) (by omega) (fun w1 hw1 => hSb _ w1 hw1 (by simp) (by simp)) rfl (fun svF2 KB2 hownF2 => ?_)
     refine GA.p 8 rfl (by kernel_rfl) (fun w1 hw1 => hSb _ w1 hw1 (by simp) (by simp)) (fun _ => V.asg rfl) rfl ?_
     refine GA.p 9 rfl (by kernel_rfl) (fun w1 hw1 => hSb _ w1 hw1 (by simp) (by simp)) (fun _ => V.asg rfl) rfl ?_
     refine GA.done (by kernel_rfl) ?_
     refine J11 _ _ ⟨svT2, svF2, KT2, KB2, htkT ▸ hownT2, htkF ▸ hownF2, .of rfl, fun w1 h => ?_⟩
     have h2 : HF w (fun _ => False) ([⟨tb2, true, .row [.bool x.r.isSome] 4 (0, 0)⟩, ⟨tb1, true, .row [S (x.r.getD [])] 9 (0, 0)⟩] ++ (([⟨ca, true, .row [Pt tb 0] 63 (0, 0)⟩, ⟨cq, true, .row [S x.q] 9 (0, 0)⟩, ⟨cf, true, .row [.bool false] 4 (0, 0)⟩, ⟨cs, true, .row [S (x.r.getD [])] 9 (0, 0)⟩, ⟨ci, true, .row [.bool x.r.isSome] 4 (0, 0)⟩, ⟨tb, true, .row (treeR nb (mxP rs) (mxS rs)) 86 (0, 0)⟩] ++ Hn) ++ (KT2 ++ KB2))) w1 := h.perm (List.Perm.trans (.of_eq (by simp)) ((perm_idx [([⟨tb2, true, .row [.bool x.r.isSome] 4 (0, 0)⟩] : SH), ([⟨tb1, true, .row [S (x.r.getD [])] 9 (0, 0)⟩] : SH), (([⟨ca, true, .row [Pt tb 0] 63 (0, 0)⟩, ⟨cq, true, .row [S x.q] 9 (0, 0)⟩, ⟨cf, true, .row [.bool false] 4 (0, 0)⟩, ⟨cs, true, .row [S (x.r.getD [])] 9 (0, 0)⟩, ⟨ci, true, .row [.bool x.r.isSome] 4 (0, 0)⟩, ⟨tb, true, .row (treeR nb (mxP rs) (mxS rs)) 86 (0, 0)⟩] ++ Hn) : SH), KT2, KB2] [0, 1, 2, 3, 4] [0, 1, 2, 3, 4] (by decide)).trans (.of_eq (by simp))))
     exact fin11 _ _ _ _ h2
   ·refine GB.bs (BS.one Tryd.underlying54 Tryd.sizeOf4 Tryd.zeroValue4 (v := .bool x.r.isSome) rfl) rfl (fun w1 hw1 => hSb _ w1 hw1 (by simp) (by simp)) rfl (fun tb2 => ?_)
    refine GA.one 2 rfl (by kernel_rfl) ?_
    refine GB.bs (BS.one Tryd.underlying27 Tryd.sizeOf9 Tryd.zeroValue9 (v := S (x.r.getD [])) rfl) rfl (fun w1 hw1 => hSb _ w1 hw1 (by simp) (by simp)) rfl (fun tb1 => ?_)
    refine GA.one 3 rfl (by kernel_rfl) ?_
    refine GB.app (i := Tryd.t9) (sz := 1) (by_ := 16) Tryd.underlying27 rfl rfl rfl rfl rfl rfl rfl hownT (H' := ([⟨tb1, true, .row [S (x.r.getD [])] 9 (0, 0)⟩] : SH) ++ ([⟨tb2, true, .row [.bool x.r.isSome] 4 (0, 0)⟩] : SH) ++ ([⟨ca, true, .row [Pt tb 0] 63 (0, 0)⟩, ⟨cq, true, .row [S x.q] 9 (0, 0)⟩, ⟨cf, true, .row [.bool false] 4 (0, 0)⟩, ⟨cs, true, .row [S (x.r.getD [])] 9 (0, 0)⟩, ⟨ci, true, .row [.bool x.r.isSome] 4 (0, 0)⟩, ⟨tb, true, .row (treeR nb (mxP rs) (mxS rs)) 86 (0, 0)⟩] ++ Hn) ++ KB) (List.Perm.trans (.of_eq (by simp)) ((perm_idx [([⟨tb1, true, .row [S (x.r.getD [])] 9 (0, 0)⟩] : SH), ([⟨tb2, true, .row [.bool x.r.isSome] 4 (0, 0)⟩] : SH), (([⟨ca, true, .row [Pt tb 0] 63 (0, 0)⟩, ⟨cq, true, .row [S x.q] 9 (0, 0)⟩, ⟨cf, true, .row [.bool false] 4 (0, 0)⟩, ⟨cs, true, .row [S (x.r.getD [])] 9 (0, 0)⟩, ⟨ci, true, .row [.bool x.r.isSome] 4 (0, 0)⟩, ⟨tb, true, .row (treeR nb (mxP rs) (mxS rs)) 86 (0, 0)⟩] ++ Hn) : SH), KT, KB] [0, 1, 2, 3, 4] [3, 0, 1, 2, 4] (by decide)).trans (.of_eq (by simp)))) (src_row (b := tb1) (wf := true) (vs := [S (x.r.getD [])]) (r := []) (t := 9) (fz := (0, 0)) (by simp)) rfl (by simp [Value.oneCell']) (by omega) (by omega) (by omega) (fun w1 hw1 => hSb _ w1 hw1 (by simp) (by simp)) rfl (fun svT2 KT2 hownT2 => ?_)
    refine GA.one 7 rfl (by kernel_rfl) ?_
    refine GB.app (i := Tryd.t4) (sz := 1) (by_ := 1) Tryd.underlying54 rfl rfl rfl rfl rfl rfl rfl hownF (H' := ([⟨tb1, true, .row [S (x.r.getD [])] 9 (0, 0)⟩] : SH) ++ ([⟨tb2, true, .row [.bool x.r.isSome] 4 (0, 0)⟩] : SH) ++ ([⟨ca, true, .row [Pt tb 0] 63 (0, 0)⟩, ⟨cq, true, .row [S x.q] 9 (0, 0)⟩, ⟨cf, true, .row [.bool false] 4 (0, 0)⟩, ⟨cs, true, .row [S (x.r.getD [])] 9 (0, 0)⟩, ⟨ci, true, .row [.bool x.r.isSome] 4 (0, 0)⟩, ⟨tb, true, .row (treeR nb (mxP rs) (mxS rs)) 86 (0, 0)⟩] ++ Hn) ++ KT2) (List.Perm.trans (.of_eq (by simp)) ((perm_idx [([⟨tb1, true, .row [S (x.r.getD [])] 9 (0, 0)⟩] : SH), ([⟨tb2, true, .row [.bool x.r.isSome] 4 (0, 0)⟩] : SH), (([⟨ca, true, .row [Pt tb 0] 63 (0, 0)⟩, ⟨cq, true, .row [S x.q] 9 (0, 0)⟩, ⟨cf, true, .row [.bool false] 4 (0, 0)⟩, ⟨cs, true, .row [S (x.r.getD [])] 9 (0, 0)⟩, ⟨ci, true, .row [.bool x.r.isSome] 4 (0, 0)⟩, ⟨tb, true, .row (treeR nb (mxP rs) (mxS rs)) 86 (0, 0)⟩] ++ Hn) : SH), KB, KT2] [0, 1, 2, 3, 4] [3, 0, 1, 2, 4] (by decide)).trans (.of_eq (by simp)))) (src_row (b := tb2) (wf := true) (vs := [.bool x.r.isSome]) (r := []) (t := 4) (fz := (0, 0)) (by simp)) rfl (by simp [Value.oneCell']) (by omega) (by omega) (by omega) (fun w1 hw1 => hSb _ w1 hw1 (by simp) (by simp)) rfl (fun svF2 KB2 hownF2 => ?_)
    refine GA.p 8 rfl (by kernel_rfl) (fun w1 hw1 => hSb _ w1 hw1 (by simp) (by simp)) (fun _ => V.asg rfl) rfl ?_
    refine GA.p 9 rfl (by kernel_rfl) (fun w1 hw1 => hSb _ w1 hw1 (by simp) (by simp)) (fun _ => V.asg rfl) rfl ?_
    refine GA.done (by kernel_rfl) ?_
    refine J11 _ _ ⟨svT2, svF2, KT2, KB2, htkT ▸ hownT2, htkF ▸ hownF2, .of rfl, fun w1 h => ?_⟩
    have h2 : HF w (fun _ => False) ([⟨tb1, true, .row [S (x.r.getD [])] 9 (0, 0)⟩, ⟨tb2, true, .row [.bool x.r.isSome] 4 (0, 0)⟩] ++ (([⟨ca, true, .row [Pt tb 0] 63 (0, 0)⟩, ⟨cq, true, .row [S x.q] 9 (0, 0)⟩, ⟨cf, true, .row [.bool false] 4 (0, 0)⟩, ⟨cs, true, .row [S (x.r.getD [])] 9 (0, 0)⟩, ⟨ci, true, .row [.bool x.r.isSome] 4 (0, 0)⟩, ⟨tb, true, .row (treeR nb (mxP rs) (mxS rs)) 86 (0, 0)⟩] ++ Hn) ++ (KT2 ++ KB2))) w1 := h.perm (List.Perm.trans (.of_eq (by simp)) ((perm_idx [([⟨tb1, true, .row [S (x.r.getD [])] 9 (0, 0)⟩] : SH), ([⟨tb2, true, .row [.bool x.r.isSome] 4 (0, 0)⟩] : SH), (([⟨ca, true, .row [Pt tb 0] 63 (0, 0)⟩, ⟨cq, true, .row [S x.q] 9 (0, 0)⟩, ⟨cf, true, .row [.bool false] 4 (0, 0)⟩, ⟨cs, true, .row [S (x.r.getD [])] 9 (0, 0)⟩, ⟨ci, true, .row [.bool x.r.isSome] 4 (0, 0)⟩, ⟨tb, true, .row (treeR nb (mxP rs) (mxS rs)) 86 (0, 0)⟩] ++ Hn) : SH), KT2, KB2] [0, 1, 2, 3, 4] [0, 1, 2, 3, 4] (by decide)).trans (.of_eq (by simp))))
    exact fin11 _ _ _ _ h2
  rintro fr' H' ⟨svT2, svF2, KT2, KB2, hownT2, hownF2, hs11, hH11⟩
  refine GC.weak hs11 ?_
  clear hs11
  refine GC.turn hH11 ?_
  refine GC.inBlock ?_
  refine GC.reg ?_
  refine G.v (V.addI (r := ((i + 1 : Nat) : Int)) rfl rfl rfl (by omega) (by omega)) rfl ?_
  refine G.m1 ?_
  refine G.nil ?_
  exact ih (N - 1) _ _ (by omega) ⟨i + 1, svT2, svF2, KT2, KB2, by omega, hownT2, hownF2, .of rfl, rfl⟩
 refine GC.exit rfl ?_
 refine GC.seq ?_
 have hie : i = tl.length := by omega
 subst hie
 rw [List.take_length] at hownT hownF
 refine GC.reg ?_
 refine G.m1 ?_
 refine G.m1 ?_
 refine G.m2 ?_
 refine G.m2 ?_
 refine G.m2 ?_
 refine G.nil ?_
 exact GC.ret3 rfl rfl rfl rfl fun w' hw' => ⟨_, _, KT, KB, rfl, hownT, hownF, hw'.sub (List.sublist_append_right _ _)⟩
end Go.Proofs

/- bufApp: a path that is made anew only where it parts from the text. Printed by wip/mk_gs5.py. -/
namespace Go.Proofs
open Go Bw
set_option maxRecDepth 20000
/-- what has been written: 'out'; M: how much may be written -/
def BufSt (p : List UInt8) (M : Nat) (out : List UInt8) (sv : Value) (Hb : SH) : Prop :=
 ∃ (b m : Nat) (l : List UInt8), sv = .slice (some ⟨b, 0, none⟩) m l.length ∧ Hb = [⟨b, true, .row (bC l) 5 (0, 0)⟩] ∧ out.length ≤ M ∧
  ((m = 0 ∧ l.length = 128 ∧ M = p.length ∧ out = p.take out.length) ∨ (0 < m ∧ m = M ∧ M ≤ l.length ∧ l.take out.length = out))
theorem setL_bC {l : List UInt8} {i : Nat} {x : UInt8} : setL (bC l) (0 + i * 1) (.int .u8 (x.toNat : Int)) = bC (l.set i x) := by
 rw [setL_set, Nat.zero_add, Nat.mul_one]
 simp [bC, Lib.byteCells, List.map_set]
theorem take_set {l : List UInt8} {out : List UInt8} {x : UInt8} (h : l.take out.length = out) (hl : out.length < l.length) : (l.set out.length x).take (out ++ [x]).length = out ++ [x] := by
 rw [List.length_append, List.length_singleton, List.take_set, List.take_add_one, h, List.getElem?_eq_getElem hl]
 simp
theorem s39_any (w : World) (D : Nat → Prop) (vb M : Nat) (p out : List UInt8) (ch : UInt8) (sv : Value) (Hb : SH) (hH : HF w D (⟨vb, true, .row [sv] 44 (0, 0)⟩ :: Hb) w) (hB : BufSt p M out sv Hb) (hlt : out.length < M) (hp : p.length ≤ 5000) :
  Calls Tryd.prog 60 #[Pt vb 0, S p, I (out.length : Nat), .int .u8 (ch.toNat : Int)] w fun e w' => e = .returned (.tuple #[]) ∧ ∃ sv' Hb', BufSt p M (out ++ [ch]) sv' Hb' ∧ (∀ x ∈ Hb', x.w = true) ∧ HF w D (⟨vb, true, .row [sv'] 44 (0, 0)⟩ :: Hb') w' := by
 refine enter D (⟨vb, true, .row [sv] 44 (0, 0)⟩ :: Hb) Tryd.func60 rfl Tryd.ntmps60 rfl rfl hH fun c hc => ?_
 subst hc
 obtain ⟨b, m, l, rfl, rfl, hoM, hcase⟩ := hB
 refine GC.seq ?_
 refine GC.reg ?_
 refine G.m1 ?_
 refine G.v (V.nc rfl) rfl ?_
 refine G.v (V.ld (b := vb) (off := 0) (wf := true) (l := [.slice (some ⟨b, 0, none⟩) m l.length]) (T := 44) (fz := (0, 0)) (v := .slice (some ⟨b, 0, none⟩) m l.length) Tryd.isAgg44 rfl (.head _) rfl) rfl ?_
 refine G.m2 ?_
 refine G.nil ?_
 refine GC.seq ?_
 refine GC.seq ?_
 refine GC.reg ?_
 refine G.m1 ?_
 refine G.v (V.lenL Tryd.underlying44 rfl) rfl ?_
 refine G.v (V.eqI rfl rfl) rfl ?_
 refine G.nil ?_
 refine GC.join (fun fr' H' => ∃ (b2 : Nat) (l2 : List UInt8), M ≤ l2.length ∧ 0 < M ∧ l2.take out.length = out ∧ Sub [(0, Pt vb 0), (1, S p), (2, I (out.length : Nat)), (3, .int .u8 (ch.toNat : Int)), (8, .slice (some ⟨b2, 0, none⟩) M l2.length)] fr' ∧ ⟨vb, true, .row [.slice (some ⟨b2, 0, none⟩) M l2.length] 44 (0, 0)⟩ :: [⟨b2, true, .row (bC l2) 5 (0, 0)⟩] = H') (fun J15 => ?_) ?_
 ·refine GC.condD rfl (fun h15 => ?_) (fun h15 => ?_)
  ·refine GC.seq ?_
   refine GC.seq ?_
   obtain ⟨hm, hl, rfl, hout⟩ : m = 0 ∧ l.length = 128 ∧ M = p.length ∧ out = p.take out.length := by
    rcases hcase with h | h
    ·exact h
    ·omega
   subst hm
   obtain ⟨x, hx⟩ : ∃ x, p[out.length]? = some x := ⟨_, List.getElem?_eq_getElem hlt⟩
   refine GC.reg ?_
   refine G.m1 ?_
   refine G.m1 ?_
   refine G.v (V.idx (i := out.length) (b := x) Tryd.underlying9 rfl rfl hx) rfl ?_
   refine G.m1 ?_
   refine G.v (V.eqI rfl rfl) rfl ?_
   refine G.nil ?_
   refine GC.condD rfl (fun h20 => ?_) (fun h20 => ?_)
   ·exact GC.ret0 rfl fun w' hw' => ⟨rfl, _, _, ⟨b, 0, l, rfl, rfl, by simp; omega, .inl ⟨rfl, hl, rfl, by rw [List.length_append, List.length_singleton, List.take_add_one, hx, ← hout, UInt8.toNat_inj.1 (show x.toNat = ch.toNat by omega)]; rfl⟩⟩, by simp, hw'⟩
   refine GC.skip ?_
   refine GC.seq ?_
   refine GC.reg ?_
   refine G.m1 ?_
   refine G.v (V.lenS Tryd.underlying9 rfl) rfl ?_
   refine G.m2 ?_
   refine G.nil ?_
   refine GC.seq ?_
   refine GC.seq ?_
   refine GC.reg ?_
   refine G.m1 ?_
   refine G.m1 ?_
   refine G.v (V.capL Tryd.underlying44 rfl) rfl ?_
   refine G.v (V.gt rfl rfl) rfl ?_
   refine G.nil ?_
   refine GC.join (fun fr' H' => ∃ (b2 : Nat) (l2 : List UInt8), p.length ≤ l2.length ∧ Sub [(0, Pt vb 0), (1, S p), (2, I (out.length : Nat)), (3, .int .u8 (ch.toNat : Int)), (8, .slice (some ⟨b, 0, none⟩) 0 l.length), (9, I (p.length : Nat))] fr' ∧ (∀ w1, HF w D H' w1 → HF w D (⟨vb, true, .row [.slice (some ⟨b2, 0, none⟩) p.length l2.length] 44 (0, 0)⟩ :: [⟨b2, true, .row (bC l2) 5 (0, 0)⟩]) w1)) (fun J26 => ?_) ?_
   ·refine GC.condD rfl (fun h26 => ?_) (fun h26 => ?_)
    ·refine GC.reg ?_
     refine G.m1 ?_
     refine G.m1 ?_
     refine G.new (kb := .row (bC (List.replicate p.length 0)) 5 (0, 0)) (v := fun b => .slice (some ⟨b, 0, none⟩) p.length p.length) (fun a w1 ha hw1 => mkB (i5 := Tryd.t5) Tryd.underlying44 rfl rfl rfl rfl ha rfl rfl (Nat.le_refl _) (by omega)) rfl (fun b2 hb2 => ?_)
     refine G.v (V.nc rfl) rfl ?_
     refine G.st Tryd.sizeOf44 rfl rfl rfl (.s .z) rfl rfl ?_
     refine G.nil ?_
     have e : (List.replicate p.length (0 : UInt8)).length = p.length := List.length_replicate
     refine J26 _ _ ⟨b2, List.replicate p.length 0, by rw [e]; exact Nat.le_refl _, .of rfl, fun w1 h => ?_⟩
     rw [e]
     have h2 := (h.perm (List.Perm.swap _ _ _))
     exact h2.sub (by simp [setL])
    refine GC.reg ?_
    refine G.m1 ?_
    refine G.m1 ?_
    refine G.v (V.nc rfl) rfl ?_
    refine G.v (V.ld (b := vb) (off := 0) (wf := true) (T := 44) (fz := (0, 0)) (v := .slice (some ⟨b, 0, none⟩) 0 l.length) Tryd.isAgg44 rfl (.head _) rfl) rfl ?_
    refine G.m1 ?_
    refine G.v (V.slTH (i := p.length) Tryd.underlying44 Tryd.sizeOf5 rfl rfl (by omega)) rfl ?_
    refine G.v (V.nc rfl) rfl ?_
    refine G.st Tryd.sizeOf44 rfl rfl rfl .z rfl rfl ?_
    refine G.nil ?_
    exact J26 _ _ ⟨b, l, by omega, .of rfl, fun w1 h => h⟩
   rintro fr' H' ⟨b2, l2, hM, hs26, hH2⟩
   refine GC.weak hs26 ?_
   clear hs26
   refine GC.turn hH2 ?_
   refine GC.seq ?_
   refine GC.reg ?_
   refine G.m1 ?_
   refine G.v (V.nc rfl) rfl ?_
   refine G.v (V.ld (b := vb) (off := 0) (wf := true) (l := [.slice (some ⟨b2, 0, none⟩) p.length l2.length]) (T := 44) (fz := (0, 0)) (v := .slice (some ⟨b2, 0, none⟩) p.length l2.length) Tryd.isAgg44 rfl (.head _) rfl) rfl ?_
   refine G.m2 ?_
   refine G.nil ?_
   refine GC.reg ?_
   refine G.m1 ?_
   refine G.m1 ?_
   refine G.m1 ?_
   refine G.v (V.slH (j := out.length) Tryd.underlying9 rfl rfl (by omega)) rfl ?_
   rw [← hout]
   refine G.copyS (i := 1) (l := l2) Tryd.underlying44 rfl rfl rfl (.s .z) (by omega) (by omega) rfl ?_
   refine G.nil ?_
   have e : (out ++ l2.drop out.length).length = l2.length := by simp; omega
   exact J15 _ _ ⟨b2, out ++ l2.drop out.length, by rw [e]; exact hM, by omega, by simp, by rw [e]; exact .of rfl, by rw [e]; rfl⟩
  refine GC.skip ?_
  obtain ⟨h1, h2, h3, h4⟩ : 0 < m ∧ m = M ∧ M ≤ l.length ∧ l.take out.length = out := by
   rcases hcase with h | h
   ·omega
   ·exact h
  subst h2
  exact J15 _ _ ⟨b, l, h3, h1, h4, .of rfl, rfl⟩
 rintro fr' H' ⟨b2, l2, hM, hM0, htk, hs15, rfl⟩
 refine GC.weak hs15 ?_
 clear hs15
 refine GC.reg ?_
 refine G.m1 ?_
 refine G.m1 ?_
 refine G.m1 ?_
 refine G.v (V.ia (i := out.length) Tryd.underlying44 Tryd.sizeOf5 rfl rfl hlt) rfl ?_
 refine G.st (b := b2) (off := 0 + out.length * 1) (l := bC l2) (T := 5) (fz := (0, 0)) Tryd.sizeOf5 rfl rfl rfl (.s .z) (by rw [nth_eq, Nat.zero_add, Nat.mul_one, List.getElem?_eq_getElem (by rw [bC_len]; omega)]; rfl) rfl ?_
 rw [setL_bC]
 refine G.nil ?_
 exact GC.end0 rfl fun w' hw' => ⟨rfl, _, _, ⟨b2, M, l2.set out.length ch, by rw [List.length_set], rfl, by simp; omega, .inr ⟨hM0, rfl, by rw [List.length_set]; exact hM, take_set htk (by omega)⟩⟩, by simp, hw'⟩
end Go.Proofs
