/- Facts on fields; rules for rows, for maps, and for regions that are drawn in any order. -/
import Derived.Test.YtnopecnbpflodaaKa
import Derived.MapKept
import Derived.Test.YtnopecnbpflodaaProg
import Derived.KernelRfl
import Derived.Test.YtnopecnbpflodaaKp
import Derived.Laws.Small
import Derived.Lib.BufferWrite
import Derived.Laws.BytesArg
import Derived.Laws.IdiomStrings
import Derived.Lib.AppendStr
/- The kit's rules for maps keyed by texts, and for ranging over them. No program in sight. -/
namespace Bw
open Go
variable {P : Program} {c : Cx} {n : Nat} {k : List Item} {fr : SF} {H : SH} {ops : Array Oper} {rest : List Oper} {ty : TypeId} {pos : String} {aft : Array Edge}
abbrev KV := List (List UInt8 × Value)
def mkEL (i : Nat) : KV → List MapEntry
  | [] => []
  | (k, v) :: r => ⟨S k, v, i⟩ :: mkEL (i + 1) r
/-- the map's object -/
def mkM (kv : KV) : Obj := .map (mkEL 0 kv).toArray kv.length
def kvGet : KV → List UInt8 → Option Value
  | [], _ => none
  | (k, v) :: r, x => if k = x then some v else kvGet r x
def kvIdx : KV → List UInt8 → Nat → Option (Nat × Value)
  | [], _, _ => none
  | (k, v) :: r, x, i => if k = x then some (i, v) else kvIdx r x (i + 1)
theorem bytes_beq (a b : List UInt8) : ((⟨a.toArray⟩ : ByteArray) == ⟨b.toArray⟩) = decide (a = b) := by
  rw [Bool.eq_iff_iff, decide_eq_true_eq]
  constructor
  · intro h
    have h2 : (⟨a.toArray⟩ : ByteArray).data = (⟨b.toArray⟩ : ByteArray).data := congrArg ByteArray.data ((MapKept.bytes_beq _ _).1 h)
    simpa using congrArg Array.toList h2
  · rintro rfl
    exact (MapKept.bytes_beq _ _).2 rfl
theorem findNow_mk (x : List UInt8) : ∀ (kv : KV) (i j : Nat), Instr.findNow .string (S x) (mkEL j kv) i = some (kvIdx kv x i)
  | [], i, j => rfl
  | (k, v) :: r, i, j => by
    simp only [mkEL, Instr.findNow, Instr.sameNow, bytes_beq, kvIdx]
    by_cases h : x = k
    · subst h; simp
    · have h' : ¬ k = x := fun e => h e.symm
      simp [h, h', findNow_mk x r (i + 1) (j + 1)]
theorem kvIdx_get : ∀ (kv : KV) (x : List UInt8) (i : Nat), (kvIdx kv x i).map (·.2) = kvGet kv x
  | [], x, i => rfl
  | (k, v) :: r, x, i => by
    simp only [kvIdx, kvGet]
    by_cases h : k = x
    · simp [h]
    · simp [h, kvIdx_get r x (i + 1)]
theorem run_findKey (kv : KV) (x : List UInt8) {K : TypeId} (hK : P.underlying K = some .string) (w : World) :
    (Instr.findKey K (S x) (mkEL 0 kv)).run P w = .ok (kvIdx kv x 0) w := by
  simp [Instr.findKey, underlying, hK, findNow_mk]
theorem run_checkKey (b : Bool) (x : List UInt8) {K : TypeId} (hK : P.underlying K = some .string) (w : World) : (Instr.checkKey b 10000 K (S x)).run P w = .ok () w := by
  have h : ∀ d, (Instr.checkKey b (d + 1) K (S x)).run P w = .ok () w := fun d => by simp [Instr.checkKey, underlying, hK]
  exact h 9999
/-- m[k] -/
theorem run_lookup (kv : KV) (x : List UInt8) {T K E : TypeId} {z : Value} (hT : P.underlying T = some (.map K E)) (hK : P.underlying K = some .string) (hz : ∀ w, (zeroValue E).run P w = .ok z w) {w : World} {b : Nat} (hb : w.heap[b]? = some (mkM kv)) :
    (Instr.lookup T (.map (some b)) (S x) false).run P w = .ok ((kvGet kv x).getD z) w := by
  have hg : (getObj b).run P w = .ok (mkM kv) w := by simp [getObj, Sem.run, hb, mkM]
  simp only [mkM] at hg
  have h2 := kvIdx_get kv x 0
  simp only [Instr.lookup, Sem.run_bind, underlying, run_program, Result.andThen_ok, hT, hg, Sem.run_pure, run_checkKey _ _ hK, run_findKey kv x hK]
  cases hi : kvIdx kv x 0 with
  | none => rw [hi] at h2; simp at h2; simp [hz, ← h2]
  | some p => rw [hi] at h2; simp at h2; simp [← h2]
theorem V.lk {T K E : TypeId} {x y : Operand} {b : Nat} {wf : Bool} {kv : KV} {l : List UInt8} {z : Value} (hT : P.underlying T = some (.map K E)) (hK : P.underlying K = some .string) (hz : ∀ w, (zeroValue E).run P w = .ok z w) (hx : ev fr x = some (.map (some b))) (hy : ev fr y = some (S l))
    (hm : ⟨b, wf, .obj (mkM kv)⟩ ∈ H) : Val P c n (.lookup T x y false) ty fr H ((kvGet kv l).getD z) := by
  intro a w ha hw dst pos aft g
  simp [execOp, ha.eval hx, ha.eval hy, run_lookup kv l hT hK hz (hw.has _ hm)]
/-! ### m[k] = v -/
/-! ### for k := range m -/
end Bw

/- The places of fields, the order of evaluation: facts of the dump. Written by wip/facts.py. -/
namespace Go.Proofs
open Go Bw
theorem mixed : Try.prog.follows .mixedOrders = true := by kernel_rfl
theorem F30_0 : FF Try.prog 30 0 0 := .mk Try.underlying30 rfl Try.sizeOf3  -- Route
theorem F30_1 : FF Try.prog 30 1 1 := .mk Try.underlying30 rfl Try.sizeOf28  -- Params
theorem F30_2 : FF Try.prog 30 2 2 := .mk Try.underlying30 rfl Try.sizeOf9  -- Full
theorem F50_0 : FF Try.prog 50 0 0 := .mk Try.underlying50 rfl Try.sizeOf5  -- Kind
theorem F50_1 : FF Try.prog 50 1 1 := .mk Try.underlying50 rfl Try.sizeOf9  -- Name
theorem F55_0 : FF Try.prog 55 0 0 := .mk Try.underlying55 rfl Try.sizeOf3  -- Route
theorem F92_0 : FF Try.prog 92 0 0 := .mk Try.underlying92 rfl Try.sizeOf89  -- root
theorem F92_1 : FF Try.prog 92 1 1 := .mk Try.underlying92 rfl Try.sizeOf90  -- maxParams
theorem F92_2 : FF Try.prog 92 2 2 := .mk Try.underlying92 rfl Try.sizeOf90  -- maxSections
theorem F100_0 : FF Try.prog 100 0 0 := .mk Try.underlying100 rfl Try.sizeOf9  -- Key
theorem F100_1 : FF Try.prog 100 1 1 := .mk Try.underlying100 rfl Try.sizeOf9  -- Value
theorem F102_0 : FF Try.prog 102 0 0 := .mk Try.underlying102 rfl Try.sizeOf5  -- kind
theorem F102_1 : FF Try.prog 102 1 1 := .mk Try.underlying102 rfl Try.sizeOf5  -- c
theorem F107_0 : FF Try.prog 107 0 0 := .mk Try.underlying107 rfl Try.sizeOf9  -- path
theorem F107_1 : FF Try.prog 107 1 1 := .mk Try.underlying107 rfl Try.sizeOf9  -- indices
theorem F107_2 : FF Try.prog 107 2 2 := .mk Try.underlying107 rfl Try.sizeOf4  -- wildChild
theorem F107_3 : FF Try.prog 107 3 3 := .mk Try.underlying107 rfl Try.sizeOf103  -- nType
theorem F107_4 : FF Try.prog 107 4 4 := .mk Try.underlying107 rfl Try.sizeOf104  -- priority
theorem F107_5 : FF Try.prog 107 5 5 := .mk Try.underlying107 rfl Try.sizeOf105  -- children
theorem F107_6 : FF Try.prog 107 6 6 := .mk Try.underlying107 rfl Try.sizeOf94  -- handlers
theorem F107_7 : FF Try.prog 107 7 7 := .mk Try.underlying107 rfl Try.sizeOf9  -- fullPath
theorem F114_0 : FF Try.prog 114 0 0 := .mk Try.underlying114 rfl Try.sizeOf94  -- handlers
theorem F114_1 : FF Try.prog 114 1 1 := .mk Try.underlying114 rfl Try.sizeOf112  -- params
theorem F114_2 : FF Try.prog 114 2 2 := .mk Try.underlying114 rfl Try.sizeOf4  -- tsr
theorem F114_3 : FF Try.prog 114 3 3 := .mk Try.underlying114 rfl Try.sizeOf9  -- fullPath
theorem F126_0 : FF Try.prog 126 0 0 := .mk Try.underlying126 rfl Try.sizeOf9  -- path
theorem F126_1 : FF Try.prog 126 1 1 := .mk Try.underlying126 rfl Try.sizeOf89  -- node
theorem F126_2 : FF Try.prog 126 2 2 := .mk Try.underlying126 rfl Try.sizeOf124  -- paramsCount
end Go.Proofs

/- Small functions: counting, the common beginning. Printed by wip/mk_gu1.py. -/
set_option maxRecDepth 20000
namespace Go.Proofs
open Go Bw
theorem count_byte_le (c : UInt8) (s : List UInt8) (i : Nat) : (s.take i).count c ≤ i := Nat.le_trans List.count_le_length (by simp; omega)
theorem f85_any (w : World) (s : List UInt8) (ch : UInt8) (hs : s.length ≤ 1000000000000) : Calls Try.prog 85 #[S s, S [ch]] w fun e w' => e = .returned (I (s.count ch : Nat)) ∧ HF w (fun _ => False) [] w' := by
 refine enter (fun _ => False) [] Try.func85 rfl Try.ntmps85 rfl rfl (HF.start w _) fun c hc => ?_
 subst hc
 refine GC.seq ?_
 refine GC.reg ?_
 refine G.m2 ?_
 refine G.nil ?_
 refine GC.seq ?_
 refine GC.reg ?_
 refine G.m2 ?_
 refine G.nil ?_
 refine GC.seq ?_
 refine GC.seq ?_
 refine GC.reg ?_
 refine G.m1 ?_
 refine G.v (V.lenS Try.underlying9 rfl) rfl ?_
 refine G.v (V.eqI rfl rfl) rfl ?_
 refine G.nil ?_
 refine GC.condF rfl ?_
 refine GC.skip ?_
 refine GC.seq ?_
 refine GC.seq ?_
 refine GC.reg ?_
 refine G.m2 ?_
 refine G.nil ?_
 refine GC.block ?_
 refine GC.loopJ (fun N fr' H' => ∃ i, i + N = s.length ∧ Sub [(0, S s), (1, S [ch]), (5, I ((s.take i).count ch : Nat)), (6, I ((i : Nat) : Int))] fr' ∧ H' = []) s.length
  ⟨0, by omega, .of rfl, rfl⟩ ?_
 rintro N fr' H' ⟨i, hi, hs, rfl⟩ ih
 refine GC.weak hs ?_
 clear hs
 refine GC.seq ?_
 refine GC.seq ?_
 refine GC.reg ?_
 refine G.m1 ?_
 refine G.m1 ?_
 refine G.v (V.lenS Try.underlying9 rfl) rfl ?_
 refine G.v (V.addI (r := ((i + 1 : Nat) : Int)) rfl rfl rfl (by omega) (by omega)) rfl ?_
 refine G.m1 ?_
 refine G.v (V.lenS Try.underlying9 rfl) rfl ?_
 refine G.v (V.le rfl rfl) rfl ?_
 refine G.nil ?_
 refine GC.condD rfl (fun h24 => ?_) (fun h24 => ?_)
 ·refine GC.skip ?_
  refine GC.block ?_
  refine GC.seq ?_
  have hlt : i < s.length := by omega
  obtain ⟨b, hb⟩ : ∃ b, s[i]? = some b := ⟨_, List.getElem?_eq_getElem hlt⟩
  have hct := Gs.cnt_take (c := ch) hb
  have hle := count_byte_le ch s i
  have hsl : (s.take (i + 1)).drop i = [b] := by
   rw [List.drop_take, List.drop_eq_getElem_cons hlt]
   rw [List.getElem?_eq_getElem hlt] at hb
   simp [Option.some.inj hb]
  refine GC.reg ?_
  refine G.m1 ?_
  refine G.m1 ?_
  refine G.m1 ?_
  refine G.m1 ?_
  refine G.v (V.lenS Try.underlying9 rfl) rfl ?_
  refine G.v (V.addI (r := ((i + 1 : Nat) : Int)) rfl rfl rfl (by omega) (by omega)) rfl ?_
  refine G.v (V.slLHe (i := i) (j := i + 1) Try.underlying9 rfl rfl rfl (by omega) (by omega) hsl) rfl ?_
  refine G.m1 ?_
  refine G.v (V.eqS rfl rfl) rfl ?_
  refine G.nil ?_
  refine GC.join (fun fr' H' => Sub [(0, S s), (1, S [ch]), (5, I ((s.take (i + 1)).count ch : Nat)), (6, I ((i + 1 : Nat) : Int))] fr' ∧ H' = []) (fun J33 => ?_) ?_
  ·refine GC.condD rfl (fun h33 => ?_) (fun h33 => ?_)
   ·refine GC.seq ?_
    refine GC.reg ?_
    refine G.m1 ?_
    refine G.v (V.addI (r := (((s.take i).count ch + 1 : Nat) : Int)) rfl rfl rfl (by omega) (by omega)) rfl ?_
    refine G.m2 ?_
    refine G.nil ?_
    refine GC.reg ?_
    refine G.m1 ?_
    refine G.m1 ?_
    refine G.v (V.lenS Try.underlying9 rfl) rfl ?_
    refine G.v (V.addI (r := ((i + 1 : Nat) : Int)) rfl rfl rfl (by omega) (by omega)) rfl ?_
    refine G.m2 ?_
    refine G.nil ?_
    have e : b = ch := by simpa using h33
    rw [if_pos e] at hct
    rw [← hct]
    exact J33 _ _ ⟨.of rfl, rfl⟩
   refine GC.reg ?_
   refine G.m1 ?_
   refine G.v (V.addI (r := ((i + 1 : Nat) : Int)) rfl rfl rfl (by omega) (by omega)) rfl ?_
   refine G.m2 ?_
   refine G.nil ?_
   have e : b ≠ ch := by simpa using h33
   rw [if_neg e] at hct
   have hct2 : (s.take (i + 1)).count ch = (s.take i).count ch := hct
   rw [← hct2]
   exact J33 _ _ ⟨.of rfl, rfl⟩
  rintro fr' H' ⟨hs33, rfl⟩
  refine GC.weak hs33 ?_
  clear hs33
  refine GC.inBlock ?_
  exact ih (N - 1) _ _ (by omega) ⟨i + 1, by omega, .of rfl, rfl⟩
 refine GC.exit rfl ?_
 refine GC.seq ?_
 refine GC.reg ?_
 refine G.m1 ?_
 refine G.m2 ?_
 refine G.nil ?_
 have hie : i = s.length := by omega
 exact GC.ret1 rfl rfl fun w' hw' => ⟨by rw [hie, List.take_length], hw'⟩
theorem f86_any (w : World) (n : Nat) (hn : n ≤ 65535) : Calls Try.prog 86 #[I (n : Nat)] w fun e w' => e = .returned (.int .u16 (n : Int)) ∧ HF w (fun _ => False) [] w' := by
 refine enter (fun _ => False) [] Try.func86 rfl Try.ntmps86 rfl rfl (HF.start w _) fun c hc => ?_
 subst hc
 have hwr : IntKind.u16.wrap (n : Int) = (n : Int) := by
  unfold IntKind.wrap
  simp [IntKind.bits, IntKind.signed]
  omega
 refine GC.seq ?_
 refine GC.reg ?_
 refine G.m2 ?_
 refine G.nil ?_
 refine GC.seq ?_
 refine GC.seq ?_
 refine GC.reg ?_
 refine G.m1 ?_
 refine G.v (V.gt rfl rfl) rfl ?_
 refine G.nil ?_
 refine GC.condD rfl (fun h4 => absurd h4 (by omega)) (fun h4 => ?_)
 refine GC.skip ?_
 refine GC.seq ?_
 refine GC.reg ?_
 refine G.m1 ?_
 refine G.v (V.cvI Try.underlying3 Try.underlying90 rfl) rfl ?_
 rw [hwr]
 refine G.m2 ?_
 refine G.nil ?_
 exact GC.ret1 rfl rfl fun w' hw' => ⟨rfl, hw'⟩
theorem f73_any (w : World) (s : List UInt8) (hs : s.length ≤ 20000) : Calls Try.prog 73 #[S s] w fun e w' => e = .returned (.int .u16 ((s.count 58 + s.count 42 : Nat) : Int)) ∧ HF w (fun _ => False) [] w' := by
 refine enter (fun _ => False) [] Try.func73 rfl Try.ntmps73 rfl rfl (HF.start w _) fun c hc => ?_
 subst hc
 have h1 := List.count_le_length (a := (58 : UInt8)) (l := s)
 have h2 := List.count_le_length (a := (42 : UInt8)) (l := s)
 refine GC.seq ?_
 refine GC.reg ?_
 refine G.m2 ?_
 refine G.nil ?_
 refine GC.seq ?_
 refine GC.reg ?_
 refine G.m1 ?_
 refine G.callP Try.call85 rfl rfl (fun w1 hw1 => f85_any w1 s 58 (by omega)) ?_
 refine G.m2 ?_
 refine G.nil ?_
 refine GC.seq ?_
 refine GC.reg ?_
 refine G.m1 ?_
 refine G.callP Try.call85 rfl rfl (fun w1 hw1 => f85_any w1 s 42 (by omega)) ?_
 refine G.m2 ?_
 refine G.nil ?_
 refine GC.seq ?_
 refine GC.reg ?_
 refine G.m1 ?_
 refine G.m1 ?_
 refine G.v (V.addI (r := ((s.count 58 + s.count 42 : Nat) : Int)) rfl rfl (by omega) (by omega) (by omega)) rfl ?_
 refine G.callP Try.call86 rfl rfl (fun w1 hw1 => f86_any w1 _ (by omega)) ?_
 refine G.m2 ?_
 refine G.nil ?_
 exact GC.ret1 rfl rfl fun w' hw' => ⟨rfl, hw'⟩
theorem f74_any (w : World) (s : List UInt8) (hs : s.length ≤ 20000) : Calls Try.prog 74 #[S s] w fun e w' => e = .returned (.int .u16 ((s.count 47 : Nat) : Int)) ∧ HF w (fun _ => False) [] w' := by
 refine enter (fun _ => False) [] Try.func74 rfl Try.ntmps74 rfl rfl (HF.start w _) fun c hc => ?_
 subst hc
 have h1 := List.count_le_length (a := (47 : UInt8)) (l := s)
 refine GC.seq ?_
 refine GC.reg ?_
 refine G.m2 ?_
 refine G.nil ?_
 refine GC.seq ?_
 refine GC.reg ?_
 refine G.m1 ?_
 refine G.callP Try.call85 rfl rfl (fun w1 hw1 => f85_any w1 s 47 (by omega)) ?_
 refine G.callP Try.call86 rfl rfl (fun w1 hw1 => f86_any w1 _ (by omega)) ?_
 refine G.m2 ?_
 refine G.nil ?_
 exact GC.ret1 rfl rfl fun w' hw' => ⟨rfl, hw'⟩
theorem _root_.Bw.V.minI {P : Program} {c : Cx} {n : Nat} {fr : SF} {H : SH} {ty t u : TypeId} {x y : Operand} {i j : Nat} (hx : ev fr x = some (I (i : Int))) (hy : ev fr y = some (I (j : Int))) : Val P c n (.call ⟨.builtin .min, #[x, y], #[t, u]⟩) ty fr H (I ((min i j : Nat) : Int)) := by
 intro a w ha hw dst pos aft g
 have h := Go.run_min_int2 (P := P) (w := w) #[t, u] ty .i64 .i64 (i : Int) (j : Int)
 have e : (if ((j : Int) < (i : Int)) then (j : Int) else (i : Int)) = ((min i j : Nat) : Int) := by
  split <;> omega
 rw [e] at h
 simp [execOp, resolve, invoke, builtin, ha.eval hx, ha.eval hy, h]
theorem f80_any (w : World) (a b : List UInt8) (ha : a.length ≤ 1000000000000) : Calls Try.prog 80 #[S a, S b] w fun e w' => e = .returned (I (Gs.lcp a b : Nat)) ∧ HF w (fun _ => False) [] w' := by
 refine enter (fun _ => False) [] Try.func80 rfl Try.ntmps80 rfl rfl (HF.start w _) fun c hc => ?_
 subst hc
 have hle := Gs.lcp_le a b
 refine GC.seq ?_
 refine GC.reg ?_
 refine G.m2 ?_
 refine G.nil ?_
 refine GC.seq ?_
 refine GC.reg ?_
 refine G.m2 ?_
 refine G.nil ?_
 refine GC.seq ?_
 refine GC.reg ?_
 refine G.m1 ?_
 refine G.v (V.lenS Try.underlying9 rfl) rfl ?_
 refine G.m1 ?_
 refine G.v (V.lenS Try.underlying9 rfl) rfl ?_
 refine G.v (V.minI rfl rfl) rfl ?_
 refine G.m2 ?_
 refine G.nil ?_
 refine GC.seq ?_
 refine GC.block ?_
 refine GC.loopJ (fun N fr' H' => ∃ i, i + N = Gs.lcp a b ∧ Sub [(0, S a), (1, S b), (5, I ((i : Nat) : Int)), (6, I ((min a.length b.length : Nat) : Int))] fr' ∧ H' = []) (Gs.lcp a b)
  ⟨0, by omega, .of rfl, rfl⟩ ?_
 rintro N fr' H' ⟨i, hi, hs, rfl⟩ ih
 refine GC.weak hs ?_
 clear hs
 refine GC.seq ?_
 refine GC.seq ?_
 refine GC.join (fun fr' H' => ∃ t : Bool, (t = true → i + 1 ≤ Gs.lcp a b) ∧ (t = false → i = Gs.lcp a b) ∧ Sub [(0, S a), (1, S b), (5, I ((i : Nat) : Int)), (6, I ((min a.length b.length : Nat) : Int)), (23, .bool t)] fr' ∧ H' = []) (fun J3 => ?_) ?_
 ·refine GC.regQ mixed (by kernel_rfl) ?_
  refine GQ.v (V.mv rfl) rfl ?_
  refine GQ.v (V.mv rfl) rfl ?_
  refine GQ.v (V.lt rfl rfl) rfl ?_
  refine GQ.v (V.mv rfl) rfl ?_
  refine GQ.bc 15 rfl (fun h15 => ?_) (fun h15 => ?_)
  ·have hlm : i < min a.length b.length := by have := of_decide_eq_true h15; omega
   obtain ⟨x, hx⟩ : ∃ x, a[i]? = some x := ⟨_, List.getElem?_eq_getElem (by omega)⟩
   obtain ⟨y, hy⟩ : ∃ y, b[i]? = some y := ⟨_, List.getElem?_eq_getElem (by omega)⟩
   have hst := Gs.lcp_lt (i := i) (by omega) hx hy
   refine GQ.vg rfl rfl (V.mv rfl) rfl ?_
   refine GQ.vg rfl rfl (V.mv rfl) rfl ?_
   refine GQ.vg rfl rfl (V.idx (i := i) (b := x) Try.underlying9 rfl rfl hx) rfl ?_
   refine GQ.vg rfl rfl (V.mv rfl) rfl ?_
   refine GQ.vg rfl rfl (V.mv rfl) rfl ?_
   refine GQ.vg rfl rfl (V.idx (i := i) (b := y) Try.underlying9 rfl rfl hy) rfl ?_
   refine GQ.vg rfl rfl (V.eqI rfl rfl) rfl ?_
   refine GQ.v (V.pickT rfl rfl) rfl ?_
   refine GQ.nil ?_
   exact J3 _ _ ⟨_, fun h => hst.1 (UInt8.toNat_inj.1 (by have := of_decide_eq_true h; omega)), fun h => hst.2 (fun e => absurd h (by rw [e]; simp)), .of rfl, rfl⟩
  ·refine GQ.sg rfl rfl rfl rfl rfl rfl ?_
   refine GQ.sg rfl rfl rfl rfl rfl rfl ?_
   refine GQ.sg rfl rfl rfl rfl rfl rfl ?_
   refine GQ.sg rfl rfl rfl rfl rfl rfl ?_
   refine GQ.sg rfl rfl rfl rfl rfl rfl ?_
   refine GQ.sg rfl rfl rfl rfl rfl rfl ?_
   refine GQ.sg rfl rfl rfl rfl rfl rfl ?_
   refine GQ.v (V.pickF rfl rfl) rfl ?_
   refine GQ.nil ?_
   exact J3 _ _ ⟨false, fun h => (by cases h), fun _ => Gs.lcp_end (by omega) (by have := of_decide_eq_false h15; omega), .of rfl, rfl⟩
 rintro fr' H' ⟨t, ht1, ht2, hs3, rfl⟩
 refine GC.weak hs3 ?_
 clear hs3
 refine GC.cond rfl (fun h23 => ?_) (fun h23 => ?_)
 ·refine GC.skip ?_
  refine GC.block ?_
  refine GC.reg ?_
  refine G.m1 ?_
  refine G.v (V.addI (r := ((i + 1 : Nat) : Int)) rfl rfl rfl (by omega) (by omega)) rfl ?_
  refine G.m2 ?_
  refine G.nil ?_
  refine GC.inBlock ?_
  exact ih (N - 1) _ _ (by have := ht1 h23; omega) ⟨i + 1, by have := ht1 h23; omega, .of rfl, rfl⟩
 refine GC.exit rfl ?_
 refine GC.seq ?_
 refine GC.reg ?_
 refine G.m1 ?_
 refine G.m2 ?_
 refine G.nil ?_
 have hie : i = Gs.lcp a b := ht2 (by simpa using h23)
 exact GC.ret1 rfl rfl fun w' hw' => ⟨by rw [hie], hw'⟩
end Go.Proofs

/- Rows of bytes: made, copied to, read as a string. -/
set_option maxRecDepth 20000
namespace Bw
open Go Go.Proofs
variable {P : Program} {c : Cx} {n : Nat} {k : List Item} {fr : SF} {H : SH} {ops : Array Oper} {rest : List Oper} {ty t : TypeId} {pos : String} {aft : Array Edge}
theorem V.cvBS {src dst e : TypeId} {x : Operand} {b m cap : Nat} {l : List UInt8} {T : TypeId} {wf : Bool} (hs : P.underlying src = some (.slice e)) (he : P.underlying e = some (.int .u8)) (hd : P.underlying dst = some .string) (hx : ev fr x = some (.slice (some ⟨b, 0, none⟩) m cap))
  (hm : ⟨b, wf, .row (bC l) T (0, 0)⟩ ∈ H) (hl : m ≤ l.length) : Val P c n (.convert src dst x) ty fr H (S (l.take m)) := by
 intro a w ha hw ds pos aft g
 have hcell : ∀ i, i < m → w.cell? ⟨b, 0 + i, none⟩ = some (.int .u8 (((l.take m).map fun x => (x.toNat : Int)).getD i 0)) := fun i hi => by
  refine cell_row hw hm ?_
  have hil : i < l.length := by omega
  rw [nth_eq, Nat.zero_add]
  simp only [bC, Lib.byteCells, List.getElem?_map, List.getElem?_eq_getElem hil, Option.map_some, List.getD_eq_getElem?_getD, List.getElem?_take_of_lt hi, Option.getD_some]
 have h := run_convert_bytes_arg (P := P) w src e hs he b 0 m cap ((l.take m).map fun x => (x.toNat : Int)) (by simp; omega) hcell dst hd
 have e2 : strOfNums ((l.take m).map fun x => (x.toNat : Int)) = ⟨(l.take m).toArray⟩ := by
  have h0 : ((fun n : Int => UInt8.ofNat n.toNat) ∘ fun x : UInt8 => (x.toNat : Int)) = id := by
   funext x; simp
  simp [strOfNums, List.map_map, h0]
 rw [e2] at h
 simp [execOp, ha.eval hx, h]
end Bw

/- The router's node in memory: shapes. No program in sight. -/
namespace Bw
open Go
abbrev AL := List (List UInt8 × Nat)
def kvP (l : AL) : KV := l.map fun p => (p.1, Pt p.2 0)
/-- the map of the other methods: nil, or a block -/
def MapAt (w : World) : Option Nat → AL → Prop
  | none, l => l = []
  | some b, l => w.heap[b]? = some (mkM (kvP l))
theorem MapAt.of {w w' : World} {mp : Option Nat} {l : AL} (hkv : MapAt w mp l) (h : ∀ b, mp = some b → w'.heap[b]? = w.heap[b]?) : MapAt w' mp l := by
  cases mp with
  | none => exact hkv
  | some b => simp only [MapAt] at *; rw [h b rfl]; exact hkv
theorem MapAt.old {w w' : World} {H : SH} {mp : Option Nat} {l : AL} (hkv : MapAt w mp l) (h : HF w (fun _ => False) H w') : MapAt w' mp l := by
  cases mp with
  | none => exact hkv
  | some b => exact h.old hkv id
variable {P : Program} {c : Cx} {n : Nat} {k : List Item} {fr : SF} {H : SH} {ty : TypeId}
theorem cells_int (k : IntKind) (i : Int) : (Value.int k i).cells = #[.int k i] := rfl
theorem cells_bool (b : Bool) : (Value.bool b).cells = #[.bool b] := rfl
theorem cells_str (s : ByteArray) : (Value.string s).cells = #[.string s] := rfl
theorem cells_ptr (p : Option Addr) : (Value.pointer p).cells = #[.pointer p] := rfl
theorem cells_sl (p : Option Addr) (l c : Nat) : (Value.slice p l c).cells = #[.slice p l c] := rfl
theorem cells_agg (a : Array Value) : (Value.agg a).cells = a := rfl
def evp (fr : SF) : List (Nat × Operand) → Option (List (Nat × Value))
  | [] => some []
  | (i, x) :: r => match ev fr x, evp fr r with
    | some v, some vs => some ((i, v) :: vs)
    | _, _ => none
theorem Fr.evps {fr : SF} {n : Nat} {a : Act} (ha : Fr n fr a) : ∀ {xs : List (Nat × Operand)} {vs : List (Nat × Value)}, evp fr xs = some vs → xs.map (fun p => (p.1, a.eval p.2)) = vs
  | [], vs, h => by simp [evp] at h; simp [h]
  | (i, x) :: r, vs, h => by
    simp only [evp] at h
    split at h
    · rename_i v ws hv hws
      simp only [Option.some.injEq] at h
      subst h
      simp [ha.eval hv, ha.evps hws]
    · cases h
theorem V.bd {t : TypeId} {ps : List (Nat × Operand)} {vs : List (Nat × Value)} {v : Value} (he : evp fr ps = some vs) (hr : ∀ w, (Instr.build t vs.toArray).run P w = .ok v w) : Val P c n (.build t ps.toArray) ty fr H v := by
  intro a w ha hw dst pos aft g
  have := ha.evps he
  simp [execOp, this, hr]
end Bw

/- More rules: bytes of a string in a new row, bytes put behind bytes, the greater number. -/
set_option maxRecDepth 20000
namespace Bw
open Go Go.Proofs
variable {P : Program} {c : Cx} {n : Nat} {k : List Item} {fr : SF} {H : SH} {ops : Array Oper} {rest : List Oper} {ty t : TypeId} {pos : String} {aft : Array Edge}
theorem G.cvSB {src dst e : TypeId} {x : Operand} {d : Nat} {l : List UInt8} (hs : P.underlying src = some .string) (hdt : P.underlying dst = some (.slice e)) (he : P.underlying e = some (.int .u8)) (hx : ev fr x = some (S l)) (hd : Nat.blt d n = true)
  (hk : ∀ b cp (z : List UInt8) fz, c.w0.heap.size ≤ b → l.length ≤ cp → G P c n k ops rest ((d, .slice (some ⟨b, 0, none⟩) l.length cp) :: fr) (⟨b, true, .row (bC (l ++ z)) e fz⟩ :: H)) : G P c n k ops (⟨some d, .convert src dst x, ty, pos, aft, none⟩ :: rest) fr H := by
 intro hf a w ha hw
 refine wpList_step fun K hK => ?_
 have hsz : (⟨l.toArray⟩ : ByteArray).size = l.length := List.size_toArray
 have h := run_bytes_of_string (P := P) w src dst e ⟨l.toArray⟩ hs hdt he
 have hcap := grownCap_ge w (⟨l.toArray⟩ : ByteArray).size 0 e
 rw [hsz] at h hcap
 generalize grownCap w l.length 0 e = cp at h hcap
 have hrow : bytesRow ⟨l.toArray⟩ cp = (bC (l ++ List.replicate (cp - l.length) 0)).toArray := by
  simp [bytesRow, bC, Lib.byteCells, hsz]
 rw [hrow] at h
 generalize hfz : ((bC (l ++ List.replicate (cp - l.length) 0)).toArray.size, (bC (l ++ List.replicate (cp - l.length) 0)).toArray.size + 1) = fz at h
 have hrun : (execOp a.eval ⟨some d, .convert src dst x, ty, pos, aft, none⟩).run P w = .ok (.value (.slice (some ⟨w.heap.size, 0, none⟩) l.length cp)) (w.drew.alloc (.cells (bC (l ++ List.replicate (cp - l.length) 0)).toArray e fz)) := by
  simp [execOp, ha.eval hx, h]
 simp only [Region.wanted, if_true, Oper.wp, hrun, Oper.upon]
 have hw2 : HF c.w0 c.D H w.drew := hw.drew _
 exact hK _ _ (hk w.heap.size cp (List.replicate (cp - l.length) 0) fz hw.size (by omega) hf _ _ (ha.put hd _) (hw2.push (.row (bC (l ++ List.replicate (cp - l.length) 0)) e fz)))
theorem GC.ret3 {t u s : Nat} {v x y : Value} (hr : c.fn.results = #[.tmp t, .tmp u, .tmp s]) (hv : look t fr = some v) (hx : look u fr = some x) (hy : look s fr = some y) (hR : ∀ w, HF c.w0 c.D H w → c.R (.returned (.tuple #[v, x, y])) w) : GC P c n (.code .ret :: k) fr H := by
 intro hf a w ha hw b hb hk cs
 refine ⟨.returned _, w, _, hR w hw, .one step_ret, hb, rfl, ha.defers, hk, c.fn, by simpa [Frame.at, hb] using hf, ?_⟩
 have h1 := ha.at_ t v hv
 have h2 := ha.at_ u x hx
 have h3 := ha.at_ s y hy
 simp [results, hr, Frame.at, h1, h2, h3]
theorem V.neL {t u e : TypeId} {x : Operand} {p : Option Addr} {l cp : Nat} (hU : P.underlying t = some (.slice e)) (hx : ev fr x = some (.slice p l cp)) : Val P c n (.binOp .neq t x (.const (.slice none 0 0)) u) ty fr H (.bool (!p.isNone)) := by
 intro a w ha hw dst pos aft g
 have h1 : (Op.equal t (.slice p l cp) (.slice none 0 0)).run P w = .ok p.isNone w := eqIn_sl 9999 p l cp hU
 have hk : ∀ v : Value, a.eval (.const v) = v := fun _ => rfl
 simp [execOp, ha.eval hx, hk, eqGuard, binOp, h1]
theorem G.gd {P : Program} {c : Cx} {n : Nat} {k : List Item} {fr : SF} {H : SH} {ops : Array Oper} {rest : List Oper} {op : Op} {ty : TypeId} {d : Option Tmp} {j t : Nat} {b : Bool} {pos : String} {aft : Array Edge} (hj : (ops[j]?).bind (·.dst) = some t) (hb : look t fr = some (.bool b))
  (h : G P c n k ops (⟨d, op, ty, pos, aft, none⟩ :: rest) fr H) : G P c n k ops (⟨d, op, ty, pos, aft, some (j, b)⟩ :: rest) fr H := by
 intro hf a w ha hw
 have h1 := h hf a w ha hw
 have hy : yielded ops a.tmps j = some b := by simp [yielded, hj, ha.at_ t _ hb]
 have w1 : Region.wanted ⟨d, op, ty, pos, aft, some (j, b)⟩ (yielded ops a.tmps) = true := by simp [Region.wanted, hy]
 have w0 : Region.wanted ⟨d, op, ty, pos, aft, none⟩ (yielded ops a.tmps) = true := rfl
 unfold wpList at h1 ⊢
 rw [if_pos w0] at h1
 rw [if_pos w1]
 exact h1
theorem V.maxI {t u : TypeId} {x y : Operand} {kd : IntKind} {i j : Nat} (hx : ev fr x = some (.int kd (i : Int))) (hy : ev fr y = some (.int kd (j : Int))) : Val P c n (.call ⟨.builtin .max, #[x, y], #[t, u]⟩) ty fr H (.int kd ((max i j : Nat) : Int)) := by
 intro a w ha hw dst pos aft g
 have h := Go.run_max_int2 (P := P) (w := w) #[t, u] ty kd kd (i : Int) (j : Int)
 have e : (if ((j : Int) > (i : Int)) then (j : Int) else (i : Int)) = ((max i j : Nat) : Int) := by
  split <;> omega
 rw [e] at h
 simp [execOp, resolve, invoke, builtin, ha.eval hx, ha.eval hy, h]
end Bw

/- More rules: a panic, calls that may panic, an iface of a string. No program in sight. -/
set_option maxRecDepth 20000
namespace Bw
open Go
variable {P : Program} {c : Cx} {n : Nat} {k : List Item} {fr : SF} {H : SH} {ops : Array Oper} {rest : List Oper} {ty : TypeId} {pos : String} {aft : Array Edge}
theorem run_pan {P : Program} (t : TypeId) (v : Value) (w : World) : (Instr.panic (.iface t v)).run P w = .halt (.panic (.iface t v)) w := rfl
/-- the end: a panic -/
theorem G.panic {x : Operand} {t : TypeId} {v : Value} {d : Option Tmp} (hx : ev fr x = some (.iface t v)) (hR : ∀ w, HF c.w0 c.D H w → c.R (.panicked [{ v := .iface t v, recovered := false }]) w) :
  G P c n k ops (⟨d, .panic x, ty, pos, aft, none⟩ :: rest) fr H := by
 intro hf a w ha hw
 refine wpList_step fun K hK => ?_
 have h1 : (execOp a.eval ⟨d, .panic x, ty, pos, aft, none⟩).run P w = .halt (.panic (.iface t v)) w := by
  simp [execOp, ha.eval hx, run_pan]
 simp only [Region.wanted, if_true, Oper.wp, h1, Oper.upon]
 exact ⟨ha.defers, hR w hw⟩
theorem V.miS {t : TypeId} {x : Operand} {l : List UInt8} (hU : P.underlying t = some .string) (hx : ev fr x = some (S l)) : Val P c n (.makeInterface t x) ty fr H (.iface t (S l)) := by
 intro a w ha hw dst pos aft g
 simp [execOp, ha.eval hx, Instr.makeInterface, underlying, hU, S]
/-- a panic of one entry -/
def onePanic (e : Ending) : Prop := ∃ t v, e = .panicked [{ v := .iface t v, recovered := false }]
/-- a call that turns the entries H1 and leaves the others; it may panic, and then the caller does -/
theorem G.callE {H1 Hk : SH} {g : FuncId} {xs : List Operand} {vs : List Value} {tys : Array TypeId} {d : Nat} (J : Value → SH → Prop) (X : SH → Prop) (hp : H.Perm (H1 ++ Hk)) (ha : ∀ e ∈ H1, e.w = true)
  (hg : ∀ (args : Array Value) w, (callFunc g args).run P w = .ok (.enter g args) w) (he : evs fr xs = some vs) (hd : Nat.blt d n = true)
  (hc : ∀ w, HF w (fun b => ∃ e ∈ H1, e.b = b) H1 w →
   Calls P g vs.toArray w (fun e w' => ∃ H1', (∀ x ∈ H1', x.w = true) ∧ HF w (fun b => ∃ e ∈ H1, e.b = b) H1' w' ∧ ((∃ v, e = .returned v ∧ J v H1') ∨ (onePanic e ∧ X H1'))))
  (hk : ∀ v H1', J v H1' → G P c n k ops rest ((d, v) :: fr) (H1' ++ Hk)) (hR : ∀ H1' e w', X H1' → onePanic e → HF c.w0 c.D (H1' ++ Hk) w' → c.R e w') :
  G P c n k ops (⟨some d, .call ⟨.value (.func g), xs.toArray, tys⟩, ty, pos, aft, none⟩ :: rest) fr H := by
 intro hf a w haa hw
 refine wpList_step fun K' hK' => ?_
 simp only [Region.wanted, if_true, Oper.wp, run_callN haa hg he, Oper.upon]
 have hh := hw.perm hp
 have hnd := List.pairwise_append.1 hh.nd
 refine (hc w (hh.loc (fun e he => List.mem_append_left _ he) hnd.1)).mono fun e w' ⟨H1', h1, h2, h3⟩ => ?_
 have hb := hw.back hp ha h1 h2
 rcases h3 with ⟨v, rfl, hJ⟩ | ⟨⟨t, v, rfl⟩, hX⟩
 ·exact hK' _ _ (hk v H1' hJ hf _ _ (haa.put hd v) hb)
 ·exact ⟨haa.defers, hR H1' _ _ hX ⟨t, v, rfl⟩ hb⟩
end Bw

/- zzIndex, zzCut. Printed by wip/mk_gu2.py. -/
set_option maxRecDepth 20000
namespace Go.Proofs
open Go Bw
/-- where a text is first found -/
def Idx (s p : List UInt8) (r : Int) : Prop := (r = -1 ∧ ∀ i, i + p.length ≤ s.length → (s.take (i + p.length)).drop i ≠ p) ∨ (∃ i : Nat, r = i ∧ i + p.length ≤ s.length ∧ (s.take (i + p.length)).drop i = p ∧ ∀ j, j < i → (s.take (j + p.length)).drop j ≠ p)
theorem idx_uniq {s p : List UInt8} {r r' : Int} (h : Idx s p r) (h' : Idx s p r') : r = r' := by
 rcases h with ⟨rfl, h⟩ | ⟨i, rfl, h1, h2, h3⟩ <;> rcases h' with ⟨rfl, h'⟩ | ⟨j, rfl, h1', h2', h3'⟩
 ·rfl
 ·exact absurd h2' (h j h1')
 ·exact absurd h2 (h' i h1)
 ·rcases Nat.lt_trichotomy i j with h | h | h
  ·exact absurd h2 (h3' i h)
  ·rw [h]
  ·exact absurd h2' (h3 j h)
theorem idx_ex (s p : List UInt8) : ∃ r, Idx s p r := by
 by_cases h : ∃ i, i + p.length ≤ s.length ∧ (s.take (i + p.length)).drop i = p
 ·obtain ⟨i, hi⟩ := h
  induction i using Nat.strongRecOn with
  | _ i ih =>
   by_cases h2 : ∃ j, j < i ∧ (s.take (j + p.length)).drop j = p
   ·obtain ⟨j, h3, h4⟩ := h2
    exact ih j h3 ⟨by omega, h4⟩
   ·exact ⟨i, .inr ⟨i, rfl, hi.1, hi.2, fun j hj e => h2 ⟨j, hj, e⟩⟩⟩
 ·exact ⟨-1, .inl ⟨rfl, fun i hi e => h ⟨i, hi, e⟩⟩⟩
theorem f84_any (w : World) (s p : List UInt8) (hs : s.length ≤ 1000000000000) (hp : p.length ≤ 1000000000000) : Calls Try.prog 84 #[S s, S p] w fun e w' => ∃ r, Idx s p r ∧ e = .returned (I r) ∧ HF w (fun _ => False) [] w' := by
 refine enter (fun _ => False) [] Try.func84 rfl Try.ntmps84 rfl rfl (HF.start w _) fun c hc => ?_
 subst hc
 refine GC.seq ?_
 refine GC.reg ?_
 refine G.m2 ?_
 refine G.nil ?_
 refine GC.seq ?_
 refine GC.seq ?_
 refine GC.reg ?_
 refine G.m2 ?_
 refine G.nil ?_
 refine GC.block ?_
 refine GC.loopJ (fun N fr' H' => ∃ i, i + N = s.length + 1 ∧ (∀ j, j < i → j + p.length ≤ s.length → (s.take (j + p.length)).drop j ≠ p) ∧ Sub [(0, S s), (1, S p), (5, I ((i : Nat) : Int))] fr' ∧ H' = []) (s.length + 1)
  ⟨0, by omega, fun j h => by omega, .of rfl, rfl⟩ ?_
 rintro N fr' H' ⟨i, hi, hall, hs, rfl⟩ ih
 refine GC.weak hs ?_
 clear hs
 refine GC.seq ?_
 refine GC.seq ?_
 refine GC.reg ?_
 refine G.m1 ?_
 refine G.m1 ?_
 refine G.v (V.lenS Try.underlying9 rfl) rfl ?_
 refine G.v (V.addI (r := ((i + p.length : Nat) : Int)) rfl rfl (by omega) (by omega) (by omega)) rfl ?_
 refine G.m1 ?_
 refine G.v (V.lenS Try.underlying9 rfl) rfl ?_
 refine G.v (V.le rfl rfl) rfl ?_
 refine G.nil ?_
 refine GC.condD rfl (fun h12 => ?_) (fun h12 => ?_)
 ·refine GC.skip ?_
  refine GC.seq ?_
  refine GC.block ?_
  refine GC.seq ?_
  have hle : i + p.length ≤ s.length := by omega
  refine GC.reg ?_
  refine G.m1 ?_
  refine G.m1 ?_
  refine G.m1 ?_
  refine G.m1 ?_
  refine G.v (V.lenS Try.underlying9 rfl) rfl ?_
  refine G.v (V.addI (r := ((i + p.length : Nat) : Int)) rfl rfl (by omega) (by omega) (by omega)) rfl ?_
  refine G.v (V.slLH (i := i) (j := i + p.length) Try.underlying9 rfl rfl rfl (by omega) (by omega)) rfl ?_
  refine G.m1 ?_
  refine G.v (V.eqS rfl rfl) rfl ?_
  refine G.nil ?_
  refine GC.condD rfl (fun h23 => ?_) (fun h23 => ?_)
  ·refine GC.seq ?_
   refine GC.reg ?_
   refine G.m1 ?_
   refine G.m2 ?_
   refine G.nil ?_
   exact GC.ret1 rfl rfl fun w' hw' => ⟨_, .inr ⟨i, rfl, hle, by simpa using h23, fun j hj => hall j hj (by omega)⟩, rfl, hw'⟩
  refine GC.skip ?_
  refine GC.inBlock ?_
  refine GC.reg ?_
  refine G.m1 ?_
  refine G.v (V.addI (r := ((i + 1 : Nat) : Int)) rfl rfl rfl (by omega) (by omega)) rfl ?_
  refine G.m2 ?_
  refine G.nil ?_
  refine ih (N - 1) _ _ (by omega) ⟨i + 1, by omega, fun j hj hjl => ?_, .of rfl, rfl⟩
  by_cases e : j = i
  ·subst e; simpa using h23
  ·exact hall j (by omega) hjl
 refine GC.exit rfl ?_
 refine GC.seq ?_
 refine GC.reg ?_
 refine G.m2 ?_
 refine G.nil ?_
 exact GC.ret1 rfl rfl fun w' hw' => ⟨_, .inl ⟨rfl, fun j hj => hall j (by omega) hj⟩, rfl, hw'⟩
theorem f83_any (w : World) (s p : List UInt8) (hs : s.length ≤ 1000000000000) (hp : p.length ≤ 1000000000000) : Calls Try.prog 83 #[S s, S p] w fun e w' => ∃ a b t, a <+: s ∧ e = .returned (.tuple #[S a, S b, .bool t]) ∧ HF w (fun _ => False) [] w' := by
 refine enter (fun _ => False) [] Try.func83 rfl Try.ntmps83 rfl rfl (HF.start w _) fun c hc => ?_
 subst hc
 refine GC.seq ?_
 refine GC.reg ?_
 refine G.m2 ?_
 refine G.m2 ?_
 refine G.m2 ?_
 refine G.nil ?_
 refine GC.seq ?_
 refine GC.seq ?_
 refine GC.reg ?_
 refine G.m1 ?_
 refine G.m1 ?_
 refine G.callW (fun v H2 => ∃ r, Idx s p r ∧ v = I r ∧ H2 = []) Try.call84 rfl rfl (fun w1 hw1 => (f84_any w1 s p hs hp).mono fun e w' ⟨r, h1, h2, h3⟩ => ⟨_, _, h2, hw1.after0 h3 (fun e he => by cases he), r, h1, rfl, rfl⟩) ?_
 rintro v H2 ⟨r, hr, rfl, rfl⟩
 refine G.m2 ?_
 refine G.nil ?_
 refine GC.seq ?_
 refine GC.reg ?_
 refine G.m1 ?_
 refine G.v (V.ge rfl rfl) rfl ?_
 refine G.nil ?_
 refine GC.condD rfl (fun h12 => ?_) (fun h12 => ?_)
 ·refine GC.seq ?_
  obtain ⟨i, rfl, hi, hip⟩ : ∃ i : Nat, r = i ∧ i + p.length ≤ s.length ∧ (s.take (i + p.length)).drop i = p := by
   rcases hr with ⟨h, _⟩ | h
   ·omega
   ·obtain ⟨i, h1, h2, h3, _⟩ := h
    exact ⟨i, h1, h2, h3⟩
  refine GC.regQ mixed (by kernel_rfl) ?_
  refine GQ.v (V.mv rfl) rfl ?_
  refine GQ.v (V.mv rfl) rfl ?_
  refine GQ.v (V.slH (j := i) Try.underlying9 rfl rfl (by omega)) rfl ?_
  refine GQ.v (V.mv rfl) rfl ?_
  refine GQ.v (V.mv rfl) rfl ?_
  refine GQ.v (V.mv rfl) rfl ?_
  refine GQ.v (V.lenS Try.underlying9 rfl) rfl ?_
  refine GQ.v (V.addI (r := ((i + p.length : Nat) : Int)) rfl rfl (by omega) (by omega) (by omega)) rfl ?_
  refine GQ.v (V.slL (i := i + p.length) Try.underlying9 rfl rfl (by omega)) rfl ?_
  refine GQ.v (V.asg rfl) rfl ?_
  refine GQ.v (V.asg rfl) rfl ?_
  refine GQ.v (V.asg rfl) rfl ?_
  refine GQ.nil ?_
  exact GC.ret3 rfl rfl rfl rfl fun w' hw' => ⟨_, _, _, List.take_prefix _ _, rfl, hw'⟩
 refine GC.skip ?_
 refine GC.seq ?_
 refine GC.reg ?_
 refine G.m1 ?_
 refine G.m2 ?_
 refine G.m2 ?_
 refine G.m2 ?_
 refine G.nil ?_
 exact GC.ret3 rfl rfl rfl rfl fun w' hw' => ⟨_, _, _, List.prefix_refl _, rfl, hw'⟩
end Go.Proofs

/- A region that draws its order, whose head's loads stand under a condition on the world (which the head's other operations keep), and whose tail stands in one order behind all of the head. No program in sight. -/
set_option maxRecDepth 20000
namespace Bw
open Go
section
variable {P : Program} {ops : Array Oper} {md : Region.Mode} {S : World → Prop} {Q : Exit → Act → World → Prop}
def hdS (P : Program) (md : Region.Mode) (ops : Array Oper) (Q : Exit → Act → World → Prop) (S : World → Prop) (m : Nat) (E : Array Bool → Act → World → Prop) : Nat → Array Bool → Act → World → Prop
 | 0, l, a, w => E l a w
 | f + 1, l, a, w => Region.ready md ops l ≠ [] ∧ ∀ i, i ∈ Region.ready md ops l → i < m ∧ wpOp P ops Q i (fun a' w' => S w' ∧ hdS P md ops Q S m E f (l.setIfInBounds i true) a' w') a w
theorem hdS_any {m g : Nat} {E : Array Bool → Act → World → Prop} (hE : ∀ l a w, E l a w → wpAny P md ops Q g l a w) (f : Nat) :
  ∀ l a w, hdS P md ops Q S m E f l a w → wpAny P md ops Q (f + g) l a w := by
 induction f with
 | zero => intro l a w h; rw [Nat.zero_add]; exact hE l a w h
 | succ f ih =>
  intro l a w h
  have e : f + 1 + g = (f + g) + 1 := by omega
  rw [e]
  refine ⟨fun h0 => absurd h0 h.1, fun i hi => ?_⟩
  exact wpOp_mono (fun a' w' h' => ih _ a' w' h'.2) (h.2 i hi).2
theorem hdS_first {m i : Nat} {oi : Oper} {v : Value} {E : Array Bool → Act → World → Prop} (hi : ops[i]? = some oi) (hsel : ∀ (j : Nat) (o : Oper) cs b, ops[j]? = some o → o.op ≠ .select cs b)
  (hQ : ∀ c a w, Q (.panic c) (a.put oi.dst v) w → Q (.panic c) a w)
  (hs : Region.sinkB md ops m = true) (hc : Region.chainB md ops m = true) (hm : m < ops.size) (him : i < m) (hE : ∀ l a w, E l a w → ∀ j, j ∈ Region.ready md ops l → m ≤ j) (f : Nat) :
  ∀ l a w, HeadInv md ops m l → (∀ j oj, ops[j]? = some oj → j ≠ i → l.getD j true = false → (∀ e ∈ oj.after, Region.binds md e = true → e.on ≠ i) → oi.apart ops oj = true) →
   i ∈ Region.ready md ops l → YieldsIf P ops S oi v a → S w → hdS P md ops Q S m E f (l.setIfInBounds i true) (a.put oi.dst v) w → hdS P md ops Q S m E (f + 1) l a w := by
 induction f with
 | zero =>
  intro l a w inv hfree hr hy hS hk
  have hun := (mem_ready.1 hr).1
  refine ⟨List.ne_nil_of_mem hr, fun j hj => ?_⟩
  have hjm : j < m := by
   rcases Nat.lt_or_ge j m with h | h
   ·exact h
   ·exact absurd hj (tail_waits hs hc hm inv _ i rfl him hun j h)
  refine ⟨hjm, ?_⟩
  rcases Nat.decEq j i with hne | rfl
  ·have := hE _ _ _ hk j (ready_mono hj hne); omega
  ·exact hy.wpOp hi hS ⟨hS, hk⟩
 | succ f ih =>
  intro l a w inv hfree hr hy hS hk
  have hun := (mem_ready.1 hr).1
  refine ⟨List.ne_nil_of_mem hr, fun j hj => ?_⟩
  have hjm : j < m := by
   rcases Nat.lt_or_ge j m with h | h
   ·exact h
   ·exact absurd hj (tail_waits hs hc hm inv _ i rfl him hun j h)
  refine ⟨hjm, ?_⟩
  rcases Nat.decEq j i with hne | rfl
  ·have hj1 := (hk.2 j (ready_mono hj hne)).2
   obtain ⟨hjun, oj, hoj, hall⟩ := mem_ready.1 hj
   have hnot : ∀ e ∈ oj.after, Region.binds md e = true → e.on ≠ i := fun e he hb heq => by
    have h1 := hall e he hb
    rw [heq, getD_both hun] at h1
    cases h1
   have h2 := wpOp_putIf hoj (hfree j oj hoj hne hjun hnot) (fun cs b => hsel i oi cs b hi) (fun cs b => hsel j oj cs b hoj) hQ hy hj1
   refine wpOp_mono (fun a' w' h3 => ⟨h3.2.1, ih (l.setIfInBounds j true) a' w' (inv.set hj hjm) (fun x ox hx hxi hun' hno => hfree x ox hx hxi ?_ hno) (ready_mono hr (Ne.symm hne)) h3.1 h3.2.1 ?_⟩) h2
   ·rcases Nat.decEq j x with h | rfl
    ·rwa [getD_set_ne true h] at hun'
    ·exact hjun
   ·have h4 := h3.2.2
    rwa [Array.setIfInBounds_comm _ _ (Ne.symm hne)] at h4
  ·exact hy.wpOp hi hS ⟨hS, hk⟩
end
variable {P : Program} {c : Cx} {n : Nat} {k : List Item} {fr : SF} {H : SH} {ops : Array Oper} {rest tail : List Oper} {ty : TypeId} {pos : String} {aft : Array Edge} {S : World → Prop} {m fuel : Nat} {listed : Array Bool}
/-- what is left is the tail -/
def tlE (P : Program) (c : Cx) (k : List Item) (ops : Array Oper) (m : Nat) (tail : List Oper) (l : Array Bool) (a : Act) (w : World) : Prop :=
 Region.seqB .any ops (ops.size - m) m l = true ∧ wpList P ops (Qk P c k) tail a w
def GM (P : Program) (c : Cx) (n : Nat) (k : List Item) (ops : Array Oper) (S : World → Prop) (m : Nat) (tail : List Oper) (fuel : Nat) (listed : Array Bool) (fr : SF) (H : SH) : Prop :=
 P.funcs[c.f]? = some c.fn → ∀ a w, Fr n fr a → HF c.w0 c.D H w → HeadInv .any ops m listed → hdS P .any ops (Qk P c k) S m (tlE P c k ops m tail) fuel listed a w
def GMB (P : Program) (c : Cx) (n : Nat) (k : List Item) (ops : Array Oper) (S : World → Prop) (m : Nat) (tail : List Oper) (fuel : Nat) (listed : Array Bool) (o : Oper) (fr : SF) (H : SH) : Prop :=
 P.funcs[c.f]? = some c.fn → ∀ a w, Fr n fr a → HF c.w0 c.D H w → HeadInv .any ops m listed → o.guard = none ∧ o.wp P a w (fun a' w' => S w' ∧ hdS P .any ops (Qk P c k) S m (tlE P c k ops m tail) fuel listed a' w') (Qk P c k)
/-- the parts of the condition on the region, each asked once -/
def okM (ops : Array Oper) (m : Nat) : Bool := Region.noSelect ops && decide (m < ops.size) && Region.sinkB .any ops m && Region.chainB .any ops m
theorem inv0 {l : List Oper} (m : Nat) : HeadInv .any l.toArray m (Array.replicate l.toArray.size false) :=
 ⟨by simp, fun j oj _ hl => (by rw [getD_replicate_false] at hl; cases hl), fun t _ ht => getD_in (by simpa using ht) (getD_replicate_false _ _)⟩
theorem GC.regM {id : Nat} {l : List Oper} (m : Nat) (S : World → Prop) (hm : P.follows .mixedOrders = true) (hB : Nat.ble m l.length = true) (h : GM P c n k l.toArray S m (l.drop m) m (Array.replicate l.toArray.size false) fr H) :
  GC P c n (.code (.region id l.toArray true) :: k) fr H := by
 intro hf a w ha hw
 refine Runs.of_wp hf (wp_region_any hm ?_)
 have h1 := h hf a _ ha (hw.drew (w.drawn + 1)) (inv0 m)
 have h2 := hdS_any (g := l.toArray.size - m) (fun li a w ⟨hq, hl⟩ => by
  have hdl : (l.drop m).length = l.toArray.size - m := by simp
  have h3 := wpAny_of_seq (P := P) (md := .any) (Q' := Qk P c k) (l.drop m) m li a w (fun j => by simp) (by rw [hdl]; exact hq) hl
  rw [hdl] at h3; exact h3) m _ a _ h1
 have e : m + (l.toArray.size - m) = l.toArray.size := by have := Nat.le_of_ble_eq_true hB; simp; omega
 rw [e] at h2
 exact h2
theorem GM.take {i d : Nat} {op : Op} {v : Value} (hi : ops[i]? = some ⟨some d, op, ty, pos, aft, none⟩) (hok : okM ops m = true) (hB : (Region.free .any ops listed i && (Region.ready .any ops listed).contains i && Nat.blt i m) = true)
  (hS : ∀ w, HF c.w0 c.D H w → S w) (hv : ∀ a w, Fr n fr a → S w → ∀ dst pos aft g, (execOp a.eval ⟨dst, op, ty, pos, aft, g⟩).run P w = .ok (.value v) w) (hd : Nat.blt d n = true)
  (h : GM P c n k ops S m tail fuel (listed.setIfInBounds i true) ((d, v) :: fr) H) : GM P c n k ops S m tail (fuel + 1) listed fr H := by
 intro hf a w ha hw inv
 simp only [Bool.and_eq_true, okM, decide_eq_true_eq] at hB hok
 have him : i < m := by simpa [Nat.blt_eq] using hB.2
 have hr : i ∈ Region.ready .any ops listed := by simpa using hB.1.2
 exact hdS_first hi (Region.noSelect_spec hok.1.1.1) (fun ch a' w' hq => ⟨hq.1, hq.2⟩) hok.1.2 hok.2 hok.1.1.2 him (fun l a w hE => seqB_ready hE.1) fuel listed a w inv (Region.free_spec hi hB.1.1) hr (.inl ⟨by simp [Region.wanted], fun w' hS' => hv a w' ha hS' _ _ _ _⟩) (hS w hw) (h hf _ _ (ha.put hd v) hw (inv.set hr him))
theorem GM.p (i : Nat) {d : Nat} {op : Op} {v : Value} (hi : ops[i]? = some ⟨some d, op, ty, pos, aft, none⟩) (hok : okM ops m = true) (hB : (Region.free .any ops listed i && (Region.ready .any ops listed).contains i && Nat.blt i m) = true)
  (hS : ∀ w, HF c.w0 c.D H w → S w) (hv : ∀ (w0 : World), Val P ⟨c.f, c.fn, c.R, w0, fun _ => False⟩ n op ty fr [] v) (hd : Nat.blt d n = true)
  (h : GM P c n k ops S m tail fuel (listed.setIfInBounds i true) ((d, v) :: fr) H) : GM P c n k ops S m tail (fuel + 1) listed fr H :=
 GM.take hi hok hB hS (fun a w ha _ dst pos aft g => hv w a w ha (HF.start w _) dst pos aft g) hd h
theorem GM.ld (i : Nat) {d : Nat} {t : TypeId} {x : Operand} {b off : Nat} {v : Value} (hi : ops[i]? = some ⟨some d, .load t x, ty, pos, aft, none⟩) (hok : okM ops m = true) (hB : (Region.free .any ops listed i && (Region.ready .any ops listed).contains i && Nat.blt i m) = true)
  (hS : ∀ w, HF c.w0 c.D H w → S w) (hA : ∀ w, (isAgg t).run P w = .ok false w) (hx : ev fr x = some (Pt b off)) (hc : ∀ w, S w → w.cell? ⟨b, off, none⟩ = some v) (hd : Nat.blt d n = true)
  (h : GM P c n k ops S m tail fuel (listed.setIfInBounds i true) ((d, v) :: fr) H) : GM P c n k ops S m tail (fuel + 1) listed fr H :=
 GM.take hi hok hB hS (fun a w ha hS dst pos aft g => by simp [execOp, ha.eval hx, Instr.loadAt, Instr.sureAddr, loadVar, hA, run_load, hc w hS]) hd h
theorem GM.one (i : Nat) {o : Oper} (hi : ops[i]? = some o) (hr : (match Region.ready .any ops listed with | [j] => Nat.beq j i && Nat.blt i m | _ => false) = true) (h : GMB P c n k ops S m tail fuel (listed.setIfInBounds i true) o fr H) : GM P c n k ops S m tail (fuel + 1) listed fr H := by
 have hr' : Region.ready .any ops listed = [i] ∧ i < m := by
  split at hr
  ·rename_i j e
   simp only [Bool.and_eq_true] at hr
   have e2 := Nat.eq_of_beq_eq_true hr.1
   subst e2
   exact ⟨e, by simpa [Nat.blt_eq] using hr.2⟩
  ·cases hr
 intro hf a w ha hw inv
 refine ⟨by rw [hr'.1]; simp, fun j hj => ?_⟩
 rw [hr'.1, List.mem_singleton] at hj
 subst hj
 refine ⟨hr'.2, ?_⟩
 obtain ⟨h1, h2⟩ := h hf a w ha hw (inv.set (by rw [hr'.1]; simp) hr'.2)
 unfold wpOp
 simp only [hi]
 have : Region.wanted o (yielded ops a.tmps) = true := by simp [Region.wanted, h1]
 rw [if_pos this]
 exact .inl h2
theorem GM.tl (hq : Region.seqB .any ops (ops.size - m) m listed = true) (h : G P c n k ops tail fr H) : GM P c n k ops S m tail 0 listed fr H := fun hf a w ha hw _ => ⟨hq, h hf a w ha hw⟩
theorem GM.turn {H' : SH} (hs : ∀ w, HF c.w0 c.D H w → HF c.w0 c.D H' w) (h : GM P c n k ops S m tail fuel listed fr H') : GM P c n k ops S m tail fuel listed fr H := fun hf a w ha hw inv => h hf a w ha (hs w hw) inv
theorem GMB.eff {op : Op} {d : Nat} {A : Type} {H' : A → SH} {v : A → Value} (hr : ∀ a w, Fr n fr a → HF c.w0 c.D H w → ∃ x w', (execOp a.eval ⟨some d, op, ty, pos, aft, none⟩).run P w = .ok (.value (v x)) w' ∧ HF c.w0 c.D (H' x) w') (hS : ∀ x w, HF c.w0 c.D (H' x) w → S w)
  (hd : Nat.blt d n = true) (hk : ∀ x, GM P c n k ops S m tail fuel listed ((d, v x) :: fr) (H' x)) : GMB P c n k ops S m tail fuel listed ⟨some d, op, ty, pos, aft, none⟩ fr H := by
 intro hf a w ha hw inv
 obtain ⟨x, w', h1, h2⟩ := hr a w ha hw
 refine ⟨rfl, ?_⟩
 simp only [Oper.wp, h1, Oper.upon]
 exact ⟨hS x _ h2, hk x hf _ _ (ha.put hd _) h2 inv⟩
theorem GMB.v {op : Op} {v : Value} {d : Nat} (hv : Val P c n op ty fr H v) (hS : ∀ w, HF c.w0 c.D H w → S w) (hd : Nat.blt d n = true) (hk : GM P c n k ops S m tail fuel listed ((d, v) :: fr) H) : GMB P c n k ops S m tail fuel listed ⟨some d, op, ty, pos, aft, none⟩ fr H :=
 GMB.eff (A := Unit) (H' := fun _ => H) (v := fun _ => v) (fun a w ha hw => ⟨(), w, hv a w ha hw _ _ _ _, hw⟩) (fun _ => hS) hd (fun _ => hk)
theorem GMB.new {op : Op} {d : Nat} {kb : Blk} {v : Nat → Value} (hr : ∀ a w, Fr n fr a → HF c.w0 c.D H w → (execOp a.eval ⟨some d, op, ty, pos, aft, none⟩).run P w = .ok (.value (v w.heap.size)) { w with heap := w.heap.push kb.den })
  (hS : ∀ w, HF c.w0 c.D H w → S w) (hd : Nat.blt d n = true) (hk : ∀ b, GM P c n k ops S m tail fuel listed ((d, v b) :: fr) (⟨b, true, kb⟩ :: H)) : GMB P c n k ops S m tail fuel listed ⟨some d, op, ty, pos, aft, none⟩ fr H :=
 GMB.eff (A := Nat) (H' := fun b => ⟨b, true, kb⟩ :: H) (v := v) (fun a w ha hw => ⟨_, _, hr a w ha hw, hw.push kb⟩) (fun _b w hw => hS w (hw.sub (List.sublist_cons_self _ _))) hd hk
theorem GMB.bs {T e d z : Nat} {xs : List (Nat × Operand)} {vl : List (Nat × Value)} {vs : List Value} (hb : ∀ w, (Instr.buildSlice T z vl.toArray).run P w = .ok (.slice (some ⟨w.heap.size, 0, none⟩) z z) { w with heap := w.heap.push (.cells vs.toArray e) })
  (hx : evp fr xs = some vl) (hS : ∀ w, HF c.w0 c.D H w → S w) (hd : Nat.blt d n = true)
  (hk : ∀ b, GM P c n k ops S m tail fuel listed ((d, .slice (some ⟨b, 0, none⟩) z z) :: fr) (⟨b, true, .row vs e (0, 0)⟩ :: H)) : GMB P c n k ops S m tail fuel listed ⟨some d, .buildSlice T z xs.toArray, ty, pos, aft, none⟩ fr H := by
 refine GMB.new (kb := .row vs e (0, 0)) (v := fun b => .slice (some ⟨b, 0, none⟩) z z) (fun a w ha hw => ?_) hS hd hk
 have h1 := ha.evps hx
 have h2 := hb w
 simp only [execOp]
 have e2 : (xs.toArray.map fun p => (p.1, a.eval p.2)) = vl.toArray := by rw [← h1]; simp
 simp [Blk.den] at *
 simp [h1, h2]
theorem GMB.al {t : TypeId} {z : Value} {d : Nat} {l : List Value} (hz : ∀ w, (zeroValue t).run P w = .ok z w) (hl : z.cells.toList = l) (hS : ∀ w, HF c.w0 c.D H w → S w) (hd : Nat.blt d n = true)
  (hk : ∀ b, GM P c n k ops S m tail fuel listed ((d, Pt b 0) :: fr) (⟨b, true, .row l t (0, 0)⟩ :: H)) : GMB P c n k ops S m tail fuel listed ⟨some d, .alloc t, ty, pos, aft, none⟩ fr H := by
 refine GMB.new (kb := .row l t (0, 0)) (v := fun b => Pt b 0) (fun a w ha hw => ?_) hS hd hk
 subst hl
 simp [execOp, Instr.alloc, hz, newVar, newRow, Blk.den]
theorem GMB.bx {t : TypeId} {x : Operand} {v : Value} {d : Nat} {l : List Value} (hx : ev fr x = some v) (hl : v.cells.toList = l) (hS : ∀ w, HF c.w0 c.D H w → S w) (hd : Nat.blt d n = true)
  (hk : ∀ b, GM P c n k ops S m tail fuel listed ((d, Pt b 0) :: fr) (⟨b, true, .row l t (0, 0)⟩ :: H)) : GMB P c n k ops S m tail fuel listed ⟨some d, .box t x, ty, pos, aft, none⟩ fr H := by
 refine GMB.new (kb := .row l t (0, 0)) (v := fun b => Pt b 0) (fun a w ha hw => ?_) hS hd hk
 subst hl
 simp [execOp, ha.eval hx, Instr.box, newVar, newRow, Blk.den]
theorem GMB.app {T e sz by_ : Nat} {i : TypeInfo} {z : Value} {x y : Operand} {sv : Value} {n0 : Nat} {xs vs : List Value} {Hs H' : SH} {ad : Addr} {m1 mc d : Nat}
  (hT : P.underlying T = some (.slice e)) (hi : P.info? e = some i) (hz : i.zero = some z) (hsz : i.size = sz) (hby : i.bytes = by_) (hzs : z.cells.size = sz)
  (hx : ev fr x = some sv) (hy : ev fr y = some (.slice (some ad) m1 mc)) (hown : Own e sz sv n0 xs Hs) (hperm : H.Perm (Hs ++ H'))
  (hsrc : ∀ w, HF c.w0 c.D H w → ∀ j u, vs[j]? = some u → w.cell? (ad.add j) = some u) (hvl : vs.length = m1 * sz) (h1 : ∀ u ∈ vs, u.oneCell' = true) (hm : 0 < m1) (hbd : (n0 + m1) * by_ ≤ 140737488355328) (h63 : n0 + m1 ≤ 9223372036854775807)
  (hS : ∀ w, HF c.w0 c.D H' w → S w) (hd : Nat.blt d n = true)
  (hk : ∀ sv' Hs', Own e sz sv' (n0 + m1) (xs ++ vs) Hs' → GM P c n k ops S m tail fuel listed ((d, sv') :: fr) (H' ++ Hs')) :
  GMB P c n k ops S m tail fuel listed ⟨some d, .call ⟨.builtin .append, #[x, y], #[T, T]⟩, ty, pos, aft, none⟩ fr H := by
 refine GMB.eff (A := { p : Value × SH // Own e sz p.1 (n0 + m1) (xs ++ vs) p.2 }) (H' := fun p => H' ++ p.1.2) (v := fun p => p.1.1) (fun a w ha hw => ?_) (fun p w hw => hS w (hw.sub (List.sublist_append_left _ _))) hd (fun p => hk _ _ p.2)
 obtain ⟨sv', Hs', w', g1, g2, g3⟩ := app_run (d := d) (ty := ty) (pos := pos) (aft := aft) hT hi hz hsz hby hzs hx hy hown hperm hsrc hvl h1 hm hbd h63 a w ha hw
 exact ⟨⟨(sv', Hs'), g1⟩, w', g2, g3⟩
end Bw
