/- Lemmas of the walk and plain facts (BwMap .. HuF). -/
import Derived.Test.YtdjnbehdiohggaaDoorP00
import Derived.MapKept
import Derived.Test.YtdjnbehdiohggaaDoorProg
import Derived.KernelRfl
import Derived.Test.YtdjnbehdiohggaaDoorP01
/- The kit's rules for maps keyed by texts, and for ranging over them. No program in sight. -/
namespace Bw
open Go
variable {P : Program} {c : Cx} {n : Nat} {k : List Item} {fr : SF} {H : SH} {ops : Array Oper} {rest : List Oper} {ty : TypeId} {pos : String} {aft : Array Edge}
abbrev KV := List (List UInt8 × Value)
def mkEL (i : Nat) : KV → List MapEntry
  | [] => []
  | (k, v) :: r => ⟨S k, v, i⟩ :: mkEL (i + 1) r
/-- the map's object -/
def mkM (kv : KV) : Obj := .map (mkEL 0 kv).toArray kv.length
def kvGet : KV → List UInt8 → Option Value
  | [], _ => none
  | (k, v) :: r, x => if k = x then some v else kvGet r x
def kvIdx : KV → List UInt8 → Nat → Option (Nat × Value)
  | [], _, _ => none
  | (k, v) :: r, x, i => if k = x then some (i, v) else kvIdx r x (i + 1)
theorem bytes_beq (a b : List UInt8) : ((⟨a.toArray⟩ : ByteArray) == ⟨b.toArray⟩) = decide (a = b) := by
  rw [Bool.eq_iff_iff, decide_eq_true_eq]
  constructor
  · intro h
    have h2 : (⟨a.toArray⟩ : ByteArray).data = (⟨b.toArray⟩ : ByteArray).data := congrArg ByteArray.data ((MapKept.bytes_beq _ _).1 h)
    simpa using congrArg Array.toList h2
  · rintro rfl
    exact (MapKept.bytes_beq _ _).2 rfl
theorem findNow_mk (x : List UInt8) : ∀ (kv : KV) (i j : Nat), Instr.findNow .string (S x) (mkEL j kv) i = some (kvIdx kv x i)
  | [], i, j => rfl
  | (k, v) :: r, i, j => by
    simp only [mkEL, Instr.findNow, Instr.sameNow, bytes_beq, kvIdx]
    by_cases h : x = k
    · subst h; simp
    · have h' : ¬ k = x := fun e => h e.symm
      simp [h, h', findNow_mk x r (i + 1) (j + 1)]
theorem kvIdx_get : ∀ (kv : KV) (x : List UInt8) (i : Nat), (kvIdx kv x i).map (·.2) = kvGet kv x
  | [], x, i => rfl
  | (k, v) :: r, x, i => by
    simp only [kvIdx, kvGet]
    by_cases h : k = x
    · simp [h]
    · simp [h, kvIdx_get r x (i + 1)]
theorem run_findKey (kv : KV) (x : List UInt8) {K : TypeId} (hK : P.underlying K = some .string) (w : World) :
    (Instr.findKey K (S x) (mkEL 0 kv)).run P w = .ok (kvIdx kv x 0) w := by
  simp [Instr.findKey, underlying, hK, findNow_mk]
theorem run_checkKey (b : Bool) (x : List UInt8) {K : TypeId} (hK : P.underlying K = some .string) (w : World) : (Instr.checkKey b 10000 K (S x)).run P w = .ok () w := by
  have h : ∀ d, (Instr.checkKey b (d + 1) K (S x)).run P w = .ok () w := fun d => by simp [Instr.checkKey, underlying, hK]
  exact h 9999
/-- m[k] -/
theorem run_lookup (kv : KV) (x : List UInt8) {T K E : TypeId} {z : Value} (hT : P.underlying T = some (.map K E)) (hK : P.underlying K = some .string) (hz : ∀ w, (zeroValue E).run P w = .ok z w) {w : World} {b : Nat} (hb : w.heap[b]? = some (mkM kv)) :
    (Instr.lookup T (.map (some b)) (S x) false).run P w = .ok ((kvGet kv x).getD z) w := by
  have hg : (getObj b).run P w = .ok (mkM kv) w := by simp [getObj, Sem.run, hb, mkM]
  simp only [mkM] at hg
  have h2 := kvIdx_get kv x 0
  simp only [Instr.lookup, Sem.run_bind, underlying, run_program, Result.andThen_ok, hT, hg, Sem.run_pure, run_checkKey _ _ hK, run_findKey kv x hK]
  cases hi : kvIdx kv x 0 with
  | none => rw [hi] at h2; simp at h2; simp [hz, ← h2]
  | some p => rw [hi] at h2; simp at h2; simp [← h2]
theorem V.lk {T K E : TypeId} {x y : Operand} {b : Nat} {wf : Bool} {kv : KV} {l : List UInt8} {z : Value} (hT : P.underlying T = some (.map K E)) (hK : P.underlying K = some .string) (hz : ∀ w, (zeroValue E).run P w = .ok z w) (hx : ev fr x = some (.map (some b))) (hy : ev fr y = some (S l))
    (hm : ⟨b, wf, .obj (mkM kv)⟩ ∈ H) : Val P c n (.lookup T x y false) ty fr H ((kvGet kv l).getD z) := by
  intro a w ha hw dst pos aft g
  simp [execOp, ha.eval hx, ha.eval hy, run_lookup kv l hT hK hz (hw.has _ hm)]
/-! ### m[k] = v -/
theorem HF.setObj {w0 D w} (h : HF w0 D H w) {i b : Nat} {o : Obj} (hi : At i ⟨b, true, .obj o⟩ H) (o' : Obj) : HF w0 D (putE (.obj o') i H) { w with heap := w.heap.setIfInBounds b o' } :=
  h.upd hi rfl (.obj o') (by simp) (by
    have := h.lt hi.mem
    show (w.heap.setIfInBounds b o')[b]? = some o'
    rw [Array.getElem?_setIfInBounds_self_of_lt this]) (fun x hx => by
    show (w.heap.setIfInBounds b o')[x]? = _
    rw [Array.getElem?_setIfInBounds_ne (fun e => hx e.symm)]) rfl rfl rfl
/-! ### for k := range m -/
end Bw

/- The places of fields, the order of evaluation: facts of the dump. Written by wip/facts.py. -/
namespace Go.Proofs
open Go Bw
theorem mixed : Tryd.prog.follows .mixedOrders = true := by kernel_rfl
theorem F32_0 : FF Tryd.prog 32 0 0 := .mk Tryd.underlying32 rfl Tryd.sizeOf5  -- Kind
theorem F32_1 : FF Tryd.prog 32 1 1 := .mk Tryd.underlying32 rfl Tryd.sizeOf9  -- Name
theorem F75_0 : FF Tryd.prog 75 0 0 := .mk Tryd.underlying75 rfl Tryd.sizeOf5  -- kind
theorem F86_0 : FF Tryd.prog 86 0 0 := .mk Tryd.underlying86 rfl Tryd.sizeOf83  -- root
theorem F86_1 : FF Tryd.prog 86 1 1 := .mk Tryd.underlying86 rfl Tryd.sizeOf84  -- maxParams
theorem F86_2 : FF Tryd.prog 86 2 2 := .mk Tryd.underlying86 rfl Tryd.sizeOf84  -- maxSections
theorem F94_0 : FF Tryd.prog 94 0 0 := .mk Tryd.underlying94 rfl Tryd.sizeOf9  -- path
theorem F94_1 : FF Tryd.prog 94 1 1 := .mk Tryd.underlying94 rfl Tryd.sizeOf9  -- indices
theorem F94_2 : FF Tryd.prog 94 2 2 := .mk Tryd.underlying94 rfl Tryd.sizeOf4  -- wildChild
theorem F94_3 : FF Tryd.prog 94 3 3 := .mk Tryd.underlying94 rfl Tryd.sizeOf88  -- nType
theorem F94_4 : FF Tryd.prog 94 4 4 := .mk Tryd.underlying94 rfl Tryd.sizeOf89  -- priority
theorem F94_5 : FF Tryd.prog 94 5 5 := .mk Tryd.underlying94 rfl Tryd.sizeOf90  -- children
theorem F94_6 : FF Tryd.prog 94 6 6 := .mk Tryd.underlying94 rfl Tryd.sizeOf92  -- handlers
theorem F94_7 : FF Tryd.prog 94 7 7 := .mk Tryd.underlying94 rfl Tryd.sizeOf9  -- fullPath
theorem F120_0 : FF Tryd.prog 120 0 0 := .mk Tryd.underlying120 rfl Tryd.sizeOf84  -- From
theorem F120_1 : FF Tryd.prog 120 1 1 := .mk Tryd.underlying120 rfl Tryd.sizeOf84  -- To
end Go.Proofs
