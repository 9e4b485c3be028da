/- Lemmas of the walk and plain facts (HuK1 .. HuK1). -/
import Derived.Test.YtdjnbehdiohggaaDoorP06
import Derived.Test.YtdjnbehdiohggaaDoorP01
/- More rules: an array's elements, an array as a slice. -/
set_option maxRecDepth 20000
namespace Bw
open Go Go.Proofs
variable {P : Program} {c : Cx} {n : Nat} {k : List Item} {fr : SF} {H : SH} {ty t e : TypeId} {kd : IntKind}
theorem V.iaA {x y : Operand} {b off s len i : Nat} (hU : P.underlying t = some (.array len e)) (hs : ∀ w, (Go.sizeOf e).run P w = .ok s w) (hx : ev fr x = some (Pt b off)) (hy : ev fr y = some (.int kd (i : Int))) (hi : i < len) :
  Val P c n (.indexAddr t x y) ty fr H (Pt b (off + i * s)) := by
 intro a w ha hw dst pos aft g
 by_cases h0 : i * s = 0
 ·simp [execOp, ha.eval hx, ha.eval hy, Instr.indexAt, Instr.sureAddr, asIntOf, underlying, hU, hs, hi, Addr.add, h0]
 ·simp [execOp, ha.eval hx, ha.eval hy, Instr.indexAt, Instr.sureAddr, asIntOf, underlying, hU, hs, hi, Addr.add, h0]
theorem V.slAr {x : Operand} {b off s len : Nat} (hU : P.underlying t = some (.array len e)) (hs : ∀ w, (Go.sizeOf e).run P w = .ok s w) (hx : ev fr x = some (Pt b off)) :
  Val P c n (.slice t x none none none) ty fr H (.slice (some ⟨b, off, none⟩) len len) := by
 intro a w ha hw dst pos aft g
 simp [execOp, ha.eval hx, Instr.sliceAt, Instr.sureAddr, Instr.sliceBounds, underlying, hU, hs, Addr.add]
theorem V.cvW {s d : TypeId} {x : Operand} {kd kd' : IntKind} {i j : Int} {ud : TypeDesc} (hs : P.underlying s = some ud) (hd : P.underlying d = some (.int kd')) (hx : ev fr x = some (.int kd i)) (hw : kd'.wrap i = j) : Val P c n (.convert s d x) ty fr H (.int kd' j) := hw ▸ V.cvI hs hd hx
end Bw
