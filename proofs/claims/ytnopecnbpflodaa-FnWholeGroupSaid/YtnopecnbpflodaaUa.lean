/- Found cells, one by one. -/
import Derived.Test.YtnopecnbpflodaaGc
import Derived.Test.YtnopecnbpflodaaEc
import Derived.Test.YtnopecnbpflodaaKa
/- the written form of a value, and that it is resolved again. No program in sight. -/
namespace Gt
open Gs Tr
end Gt

/- Escaped. Printed by wip/mk_gm1.py. -/
set_option maxRecDepth 20000
namespace Go.Proofs
open Go Bw
open Gt
section
variable {P : Program} {c : Cx} {n : Nat} {fr : SF} {H : SH} {ty t u : TypeId} {x y : Operand}
end
end Go.Proofs

/- one value behind /a/: what the tree of one route finds. -/
namespace Go.Proofs
open Go Bw Gt
theorem takeW {e : List UInt8} (h : (47 : UInt8) ∉ e) : e.takeWhile (· ≠ 47) = e := by
  have := List.takeWhile_append_of_pos (p := fun x : UInt8 => decide (x ≠ 47)) (l₁ := e) (l₂ := []) (fun x hx => decide_eq_true (fun h1 => h (h1 ▸ hx)))
  simpa using this
end Go.Proofs

/- FnGinUnescaped. Printed by wip/mk_gm3.py. -/
set_option maxRecDepth 20000
namespace Go.Proofs
open Go Bw
open Gt
theorem Fnds.one {a : Res} {cells : List Value} {H : SH} (h : Fnds [a] cells H) : ∃ pa, cells = fndV a pa ∧ Own 32 2 pa a.ps.length (flatP a.ps) H := by
 generalize hl2 : [a] = l2 at h
 cases h with
 | nil => cases hl2
 | @snoc rs c3 H3 Ha r2 pa h ho2 =>
  obtain ⟨rfl, rfl⟩ : rs = [] ∧ r2 = a := by
   rcases rs with _ | ⟨x, rs⟩
   ·simp at hl2; exact ⟨rfl, hl2.symm⟩
   ·simp at hl2
  generalize hl3 : ([] : List Res) = l3 at h
  cases h with
  | nil => exact ⟨pa, rfl, ho2⟩
  | snoc h ho => simp at hl3
end Go.Proofs
