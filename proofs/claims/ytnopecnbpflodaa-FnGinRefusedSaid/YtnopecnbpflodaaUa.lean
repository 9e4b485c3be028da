/- A value that is written with percent signs comes back as it was. -/
import Derived.Test.YtnopecnbpflodaaGc
import Derived.Test.YtnopecnbpflodaaEc
/- the written form of a value, and that it is resolved again. No program in sight. -/
namespace Gt
open Gs Tr
def alnum (c : UInt8) : Bool := decide ((97 ≤ c.toNat ∧ c.toNat ≤ 122) ∨ (65 ≤ c.toNat ∧ c.toNat ≤ 90) ∨ (48 ≤ c.toNat ∧ c.toNat ≤ 57))
def dig (n : Nat) : UInt8 := if n < 10 then UInt8.ofNat (48 + n) else UInt8.ofNat (55 + n)
def escb (c : UInt8) : List UInt8 := if alnum c then [c] else [37, dig (c.toNat / 16), dig (c.toNat % 16)]
def esc (v : List UInt8) : List UInt8 := v.flatMap escb
theorem dig_hex : ∀ n : Fin 16, hexV (dig n.val) = some n.val := by decide
theorem dig_ne : ∀ n : Fin 16, dig n.val ≠ 47 := by decide
theorem hexV_dig {n : Nat} (h : n < 16) : hexV (dig n) = some n := dig_hex ⟨n, h⟩
theorem dig_ne47 {n : Nat} (h : n < 16) : dig n ≠ 47 := dig_ne ⟨n, h⟩
theorem ofNat_dm (c : UInt8) : UInt8.ofNat (c.toNat / 16 * 16 + c.toNat % 16) = c := by
  have : c.toNat / 16 * 16 + c.toNat % 16 = c.toNat := by omega
  rw [this]; simp
theorem alnum_ne {c : UInt8} (h : alnum c = true) : c ≠ 43 ∧ c ≠ 37 ∧ c ≠ 47 := by
  have h1 := of_decide_eq_true h
  refine ⟨fun e => ?_, fun e => ?_, fun e => ?_⟩ <;> subst e <;> revert h1 <;> decide
theorem unesc_esc : ∀ (v : List UInt8) (g : Nat) (out : List UInt8), (esc v).length < g → unesc g (esc v) out = some (out ++ v)
  | [], g + 1, out, _ => by simp [esc, unesc]
  | c :: v, 0, _, h => by omega
  | c :: v, g + 1, out, h => by
    have hd := c.toNat_lt
    have e1 : esc (c :: v) = escb c ++ esc v := by simp [esc]
    rw [e1] at h ⊢
    unfold escb at h ⊢
    by_cases ha : alnum c = true
    · rw [if_pos ha] at h ⊢
      obtain ⟨h1, h2, _⟩ := alnum_ne ha
      simp only [List.cons_append, List.nil_append, unesc, if_neg h1, if_pos h2]
      rw [unesc_esc v g (out ++ [c]) (by simp at h; omega)]
      simp
    · rw [if_neg ha] at h ⊢
      simp only [List.cons_append, List.nil_append, unesc, if_neg (show (37 : UInt8) ≠ 43 by decide), if_neg (show ¬ ((37 : UInt8) ≠ 37) by decide), hexV_dig (show c.toNat / 16 < 16 by omega), hexV_dig (show c.toNat % 16 < 16 by omega), ofNat_dm]
      rw [unesc_esc v g (out ++ [c]) (by simp at h; omega)]
      simp
theorem unV_esc (v : List UInt8) : unV true (esc v) = v := by
  simp [unV, unesc_esc v _ [] (Nat.lt_succ_self _)]
theorem esc_slash (v : List UInt8) : (47 : UInt8) ∉ esc v := by
  intro h
  obtain ⟨c, _, hc⟩ := List.mem_flatMap.1 h
  have hd := c.toNat_lt
  unfold escb at hc
  split at hc
  · rename_i ha
    exact (alnum_ne ha).2.2 (List.mem_singleton.1 hc).symm
  · simp only [List.mem_cons, List.not_mem_nil, or_false] at hc
    rcases hc with e | e | e
    · exact absurd e (by decide)
    · exact dig_ne47 (show c.toNat / 16 < 16 by omega) e.symm
    · exact dig_ne47 (show c.toNat % 16 < 16 by omega) e.symm
theorem esc_len (v : List UInt8) : (esc v).length ≤ 3 * v.length ∧ v.length ≤ (esc v).length := by
  induction v with
  | nil => simp [esc]
  | cons c v ih =>
    have e1 : esc (c :: v) = escb c ++ esc v := by simp [esc]
    have e2 : 1 ≤ (escb c).length ∧ (escb c).length ≤ 3 := by unfold escb; split <;> simp
    rw [e1, List.length_append, List.length_cons]
    omega
theorem esc_app (a b : List UInt8) : esc (a ++ b) = esc a ++ esc b := by simp [esc]
end Gt

/- Escaped. Printed by wip/mk_gm1.py. -/
set_option maxRecDepth 20000
namespace Go.Proofs
open Go Bw

open Gt
section
variable {P : Program} {c : Cx} {n : Nat} {fr : SF} {H : SH} {ty t u : TypeId} {x y : Operand}
theorem V.shr4 {a : Nat} (_h : a < 256) (hx : ev fr x = some (.int .u8 (a : Int))) : Val P c n (.binOp .shr t x (.const (.int .u64 4)) u) ty fr H (.int .u8 ((a / 16 : Nat) : Int)) := by
  intro a1 w ha hw dst pos aft g
  have h1 := ha.eval hx
  have h2 : a1.eval (.const (.int .u64 4)) = .int .u64 4 := rfl
  simp [execOp, h1, h2, eqGuard, binOp, Op.shift]
  have h3 : (2 : Int) ^ (min 4 IntKind.u8.bits) = 16 := rfl
  rw [h3, Int.fdiv_eq_ediv_of_nonneg _ (by omega)]
theorem fin15 : ∀ a : Fin 256, (a.val &&& 15) = a.val % 16 := by decide
theorem V.and15 {a : Nat} (h : a < 256) (hx : ev fr x = some (.int .u8 (a : Int))) : Val P c n (.binOp .and t x (.const (.int .u8 15)) u) ty fr H (.int .u8 ((a % 16 : Nat) : Int)) := by
  intro a1 w ha hw dst pos aft g
  have h2 : a1.eval (.const (.int .u8 15)) = .int .u8 15 := rfl
  have e3 := fin15 ⟨a, h⟩
  simp only at e3
  have e4 : IntKind.u8.wrap ((a % 16 : Nat) : Int) = ((a % 16 : Nat) : Int) := by
    unfold IntKind.wrap
    simp [IntKind.bits, IntKind.signed]
    omega
  simp only [execOp, ha.eval hx, h2, eqGuard, binOp, Op.intBits]
  have e5 : (2 : Nat) ^ IntKind.u8.bits = 256 := rfl
  have e6 : a % 2 ^ IntKind.u8.bits &&& 15 % 2 ^ IntKind.u8.bits = a % 16 := by
    rw [e5, Nat.mod_eq_of_lt h, ← e3]
  simp [e6]
  simpa using e4
end
theorem BS3 {P : Program} {T e : Nat} {z a b d : Value} (hT : P.underlying T = some (.slice e)) (hs : ∀ w, (Go.sizeOf e).run P w = .ok 1 w) (hz : ∀ w, (zeroValue e).run P w = .ok z w) (ha : a.oneCell' = true) (hb : b.oneCell' = true) (hd : d.oneCell' = true) (w : World) :
    (Instr.buildSlice T 3 [(0, a), (1, b), (2, d)].toArray).run P w = .ok (.slice (some ⟨w.heap.size, 0, none⟩) 3 3) { w with heap := w.heap.push (.cells [a, b, d].toArray e) } := by
  have hc : a.cells = #[a] := by cases a <;> first | rfl | (simp [Value.oneCell'] at ha)
  have hc2 : b.cells = #[b] := by cases b <;> first | rfl | (simp [Value.oneCell'] at hb)
  have hc3 : d.cells = #[d] := by cases d <;> first | rfl | (simp [Value.oneCell'] at hd)
  have h1 : Array.range 3 = #[0, 1, 2] := rfl
  simp [Instr.buildSlice, underlying, hT, hs, hz, Instr.fill, hc, hc2, hc3, newRow, h1]
theorem digF : ∀ n : Fin 16, (([48, 49, 50, 51, 52, 53, 54, 55, 56, 57, 65, 66, 67, 68, 69, 70] : List UInt8)[n.val]?) = some (dig n.val) := by decide
theorem dig_at {n : Nat} (h : n < 16) : (([48, 49, 50, 51, 52, 53, 54, 55, 56, 57, 65, 66, 67, 68, 69, 70] : List UInt8)[n]?) = some (dig n) := digF ⟨n, h⟩
theorem f16_any (w : World) (s : List UInt8) (hs : s.length ≤ 1000000) : Calls Try.prog 16 #[S s] w fun e w' => e = .returned (S (esc s)) ∧ HF w (fun _ => False) [] w' := by
  refine enter (fun _ => False) [] Try.func16 rfl Try.ntmps16 rfl rfl (HF.start w _) fun c hc => ?_
  subst hc
  refine GC.seq ?_
  refine GC.reg ?_  -- region 0, ginmore.go:39
  refine G.v (V.asg rfl) rfl ?_
  refine G.nil ?_
  refine GC.seq ?_
  refine GC.reg ?_  -- region 1, ginmore.go:41
  refine G.v (V.asg rfl) rfl ?_
  refine G.nil ?_
  refine GC.seq ?_
  refine GC.seq ?_
  refine GC.reg ?_  -- region 2, ginmore.go:42
  refine G.v (V.mv rfl) rfl ?_
  refine G.v (V.lenS Try.underlying9 rfl) rfl ?_
  refine G.v (V.mv rfl) rfl ?_
  refine G.nil ?_
  refine GC.block ?_
  refine GC.loopJ (fun N fr' H' => ∃ i out sv Hs, i + N = s.length ∧ Own 5 1 sv out.length (bC out) Hs ∧ out = esc (s.take i) ∧ Sub [(0, S s), (3, sv), (7, I (s.length : Nat)), (8, I (i : Nat))] fr' ∧ Hs = H') s.length
    ⟨0, [], .slice none 0 0, [], by omega, Own.nil, rfl, .cons rfl (.cons rfl (.cons rfl (.cons rfl .nil))), rfl⟩ ?_
  rintro N fr' H' ⟨i, out, sv, Hs, hi, hown, hout, hs2, rfl⟩ ih
  refine GC.weak hs2 ?_
  clear hs2
  refine GC.seq ?_
  refine GC.reg ?_  -- region 3, ginmore.go:42
  refine G.v (V.lt rfl rfl) rfl ?_
  refine G.nil ?_
  refine GC.seq ?_
  refine GC.condD rfl (fun h9 => ?_) (fun h9 => ?_)
  · refine GC.skip ?_
    refine GC.seq ?_
    refine GC.block ?_
    refine GC.seq ?_
    refine GC.reg ?_  -- region 4, ginmore.go:42
    refine G.v (V.mv rfl) rfl ?_
    refine G.v (V.asg rfl) rfl ?_
    refine G.nil ?_
    refine GC.seq ?_
    have hil : i < s.length := by omega
    obtain ⟨x, hx⟩ : ∃ x, s[i]? = some x := ⟨_, List.getElem?_eq_getElem hil⟩
    have hxl := x.toNat_lt
    have htk : s.take (i + 1) = s.take i ++ [x] := by
      rw [List.take_add_one, hx]; rfl
    have hlen := (esc_len (s.take i)).1
    have hol : out.length ≤ 3000000 := by
      rw [hout]; rw [List.length_take] at hlen; omega
    refine GC.reg ?_  -- region 5, ginmore.go:43
    refine G.v (V.mv rfl) rfl ?_
    refine G.v (V.mv rfl) rfl ?_
    refine G.v (V.idx (i := i) (b := x) Try.underlying9 rfl rfl hx) rfl ?_
    refine G.v (V.asg rfl) rfl ?_
    refine G.nil ?_
    refine GC.seq ?_
    refine GC.join (fun fr' H' => (∃ b, b = alnum x ∧ Sub [(0, S s), (3, sv), (7, I (s.length : Nat)), (8, I (i : Nat)), (5, .int .u8 (x.toNat : Int)), (35, .bool b)] fr') ∧ Hs = H') (fun J6 => ?_) ?_
    · refine GC.reg ?_  -- region 6, ginmore.go:44
      refine G.v (V.mv rfl) rfl ?_
      refine G.v (V.ge rfl rfl) rfl ?_
      refine G.v (V.mv rfl) rfl ?_
      refine G.bc 16 rfl (fun h16 => ?_) (fun h16 => ?_)
      · refine G.vg rfl rfl (V.mv rfl) rfl ?_
        refine G.vg rfl rfl (V.le rfl rfl) rfl ?_
        refine G.v (V.pickT rfl rfl) rfl ?_
        refine G.v (V.mv rfl) rfl ?_
        refine G.bc 20 rfl (fun h20 => ?_) (fun h20 => ?_)
        · refine G.sg rfl rfl rfl rfl rfl rfl ?_
          refine G.sg rfl rfl rfl rfl rfl rfl ?_
          refine G.sg rfl rfl rfl rfl rfl rfl ?_
          refine G.sgU rfl rfl rfl rfl rfl ?_
          refine G.sgU rfl rfl rfl rfl rfl ?_
          refine G.sg rfl rfl rfl rfl rfl rfl ?_
          refine G.v (V.pickT rfl rfl) rfl ?_
          refine G.v (V.mv rfl) rfl ?_
          refine G.sg rfl rfl rfl rfl rfl rfl ?_
          refine G.sg rfl rfl rfl rfl rfl rfl ?_
          refine G.sg rfl rfl rfl rfl rfl rfl ?_
          refine G.sgU rfl rfl rfl rfl rfl ?_
          refine G.sgU rfl rfl rfl rfl rfl ?_
          refine G.sg rfl rfl rfl rfl rfl rfl ?_
          refine G.v (V.pickT rfl rfl) rfl ?_
          refine G.nil ?_
          refine J6 _ _ ⟨⟨_, ?_, .cons rfl (.cons rfl (.cons rfl (.cons rfl (.cons rfl (.cons rfl .nil)))))⟩, rfl⟩
          simp only [decide_eq_true_eq] at *
          unfold alnum
          first | exact (decide_eq_true (by omega)).symm | exact (decide_eq_false (by omega)).symm | exact decide_eq_decide.2 (by omega)
        · refine G.vg rfl rfl (V.mv rfl) rfl ?_
          refine G.vg rfl rfl (V.ge rfl rfl) rfl ?_
          refine G.vg rfl rfl (V.mv rfl) rfl ?_
          refine G.bc 23 rfl (fun h23 => ?_) (fun h23 => ?_)
          · refine G.vg rfl rfl (V.mv rfl) rfl ?_
            refine G.vg rfl rfl (V.le rfl rfl) rfl ?_
            refine G.vg rfl rfl (V.pickT rfl rfl) rfl ?_
            refine G.v (V.pickF rfl rfl) rfl ?_
            refine G.v (V.mv rfl) rfl ?_
            refine G.bc 28 rfl (fun h28 => ?_) (fun h28 => ?_)
            · refine G.sg rfl rfl rfl rfl rfl rfl ?_
              refine G.sg rfl rfl rfl rfl rfl rfl ?_
              refine G.sg rfl rfl rfl rfl rfl rfl ?_
              refine G.sgU rfl rfl rfl rfl rfl ?_
              refine G.sgU rfl rfl rfl rfl rfl ?_
              refine G.sg rfl rfl rfl rfl rfl rfl ?_
              refine G.v (V.pickT rfl rfl) rfl ?_
              refine G.nil ?_
              refine J6 _ _ ⟨⟨_, ?_, .cons rfl (.cons rfl (.cons rfl (.cons rfl (.cons rfl (.cons rfl .nil)))))⟩, rfl⟩
              simp only [decide_eq_true_eq, decide_eq_false_iff_not] at *
              unfold alnum
              first | exact (decide_eq_true (by omega)).symm | exact (decide_eq_false (by omega)).symm | exact decide_eq_decide.2 (by omega)
            · refine G.vg rfl rfl (V.mv rfl) rfl ?_
              refine G.vg rfl rfl (V.ge rfl rfl) rfl ?_
              refine G.vg rfl rfl (V.mv rfl) rfl ?_
              refine G.bc 31 rfl (fun h31 => ?_) (fun h31 => ?_)
              · refine G.vg rfl rfl (V.mv rfl) rfl ?_
                refine G.vg rfl rfl (V.le rfl rfl) rfl ?_
                refine G.vg rfl rfl (V.pickT rfl rfl) rfl ?_
                refine G.v (V.pickF rfl rfl) rfl ?_
                refine G.nil ?_
                refine J6 _ _ ⟨⟨_, ?_, .cons rfl (.cons rfl (.cons rfl (.cons rfl (.cons rfl (.cons rfl .nil)))))⟩, rfl⟩
                simp only [decide_eq_true_eq, decide_eq_false_iff_not] at *
                unfold alnum
                first | exact (decide_eq_true (by omega)).symm | exact (decide_eq_false (by omega)).symm | exact decide_eq_decide.2 (by omega)
              · refine G.sg rfl rfl rfl rfl rfl rfl ?_
                refine G.sg rfl rfl rfl rfl rfl rfl ?_
                refine G.vg rfl rfl (V.pickF rfl rfl) rfl ?_
                refine G.v (V.pickF rfl rfl) rfl ?_
                refine G.nil ?_
                refine J6 _ _ ⟨⟨_, ?_, .cons rfl (.cons rfl (.cons rfl (.cons rfl (.cons rfl (.cons rfl .nil)))))⟩, rfl⟩
                simp only [decide_eq_true_eq, decide_eq_false_iff_not] at *
                unfold alnum
                first | exact (decide_eq_true (by omega)).symm | exact (decide_eq_false (by omega)).symm | exact decide_eq_decide.2 (by omega)
          · refine G.sg rfl rfl rfl rfl rfl rfl ?_
            refine G.sg rfl rfl rfl rfl rfl rfl ?_
            refine G.vg rfl rfl (V.pickF rfl rfl) rfl ?_
            refine G.v (V.pickF rfl rfl) rfl ?_
            refine G.v (V.mv rfl) rfl ?_
            refine G.vg rfl rfl (V.mv rfl) rfl ?_
            refine G.vg rfl rfl (V.ge rfl rfl) rfl ?_
            refine G.vg rfl rfl (V.mv rfl) rfl ?_
            refine G.bc 31 rfl (fun h31 => ?_) (fun h31 => ?_)
            · refine G.vg rfl rfl (V.mv rfl) rfl ?_
              refine G.vg rfl rfl (V.le rfl rfl) rfl ?_
              refine G.vg rfl rfl (V.pickT rfl rfl) rfl ?_
              refine G.v (V.pickF rfl rfl) rfl ?_
              refine G.nil ?_
              refine J6 _ _ ⟨⟨_, ?_, .cons rfl (.cons rfl (.cons rfl (.cons rfl (.cons rfl (.cons rfl .nil)))))⟩, rfl⟩
              simp only [decide_eq_true_eq, decide_eq_false_iff_not] at *
              unfold alnum
              first | exact (decide_eq_true (by omega)).symm | exact (decide_eq_false (by omega)).symm | exact decide_eq_decide.2 (by omega)
            · refine G.sg rfl rfl rfl rfl rfl rfl ?_
              refine G.sg rfl rfl rfl rfl rfl rfl ?_
              refine G.vg rfl rfl (V.pickF rfl rfl) rfl ?_
              refine G.v (V.pickF rfl rfl) rfl ?_
              refine G.nil ?_
              refine J6 _ _ ⟨⟨_, ?_, .cons rfl (.cons rfl (.cons rfl (.cons rfl (.cons rfl (.cons rfl .nil)))))⟩, rfl⟩
              simp only [decide_eq_true_eq, decide_eq_false_iff_not] at *
              unfold alnum
              first | exact (decide_eq_true (by omega)).symm | exact (decide_eq_false (by omega)).symm | exact decide_eq_decide.2 (by omega)
      · refine G.sg rfl rfl rfl rfl rfl rfl ?_
        refine G.sg rfl rfl rfl rfl rfl rfl ?_
        refine G.v (V.pickF rfl rfl) rfl ?_
        refine G.v (V.mv rfl) rfl ?_
        refine G.vg rfl rfl (V.mv rfl) rfl ?_
        refine G.vg rfl rfl (V.ge rfl rfl) rfl ?_
        refine G.vg rfl rfl (V.mv rfl) rfl ?_
        refine G.bc 23 rfl (fun h23 => ?_) (fun h23 => ?_)
        · refine G.vg rfl rfl (V.mv rfl) rfl ?_
          refine G.vg rfl rfl (V.le rfl rfl) rfl ?_
          refine G.vg rfl rfl (V.pickT rfl rfl) rfl ?_
          refine G.v (V.pickF rfl rfl) rfl ?_
          refine G.v (V.mv rfl) rfl ?_
          refine G.bc 28 rfl (fun h28 => ?_) (fun h28 => ?_)
          · refine G.sg rfl rfl rfl rfl rfl rfl ?_
            refine G.sg rfl rfl rfl rfl rfl rfl ?_
            refine G.sg rfl rfl rfl rfl rfl rfl ?_
            refine G.sgU rfl rfl rfl rfl rfl ?_
            refine G.sgU rfl rfl rfl rfl rfl ?_
            refine G.sg rfl rfl rfl rfl rfl rfl ?_
            refine G.v (V.pickT rfl rfl) rfl ?_
            refine G.nil ?_
            refine J6 _ _ ⟨⟨_, ?_, .cons rfl (.cons rfl (.cons rfl (.cons rfl (.cons rfl (.cons rfl .nil)))))⟩, rfl⟩
            simp only [decide_eq_true_eq, decide_eq_false_iff_not] at *
            unfold alnum
            first | exact (decide_eq_true (by omega)).symm | exact (decide_eq_false (by omega)).symm | exact decide_eq_decide.2 (by omega)
          · refine G.vg rfl rfl (V.mv rfl) rfl ?_
            refine G.vg rfl rfl (V.ge rfl rfl) rfl ?_
            refine G.vg rfl rfl (V.mv rfl) rfl ?_
            refine G.bc 31 rfl (fun h31 => ?_) (fun h31 => ?_)
            · refine G.vg rfl rfl (V.mv rfl) rfl ?_
              refine G.vg rfl rfl (V.le rfl rfl) rfl ?_
              refine G.vg rfl rfl (V.pickT rfl rfl) rfl ?_
              refine G.v (V.pickF rfl rfl) rfl ?_
              refine G.nil ?_
              refine J6 _ _ ⟨⟨_, ?_, .cons rfl (.cons rfl (.cons rfl (.cons rfl (.cons rfl (.cons rfl .nil)))))⟩, rfl⟩
              simp only [decide_eq_true_eq, decide_eq_false_iff_not] at *
              unfold alnum
              first | exact (decide_eq_true (by omega)).symm | exact (decide_eq_false (by omega)).symm | exact decide_eq_decide.2 (by omega)
            · refine G.sg rfl rfl rfl rfl rfl rfl ?_
              refine G.sg rfl rfl rfl rfl rfl rfl ?_
              refine G.vg rfl rfl (V.pickF rfl rfl) rfl ?_
              refine G.v (V.pickF rfl rfl) rfl ?_
              refine G.nil ?_
              refine J6 _ _ ⟨⟨_, ?_, .cons rfl (.cons rfl (.cons rfl (.cons rfl (.cons rfl (.cons rfl .nil)))))⟩, rfl⟩
              simp only [decide_eq_true_eq, decide_eq_false_iff_not] at *
              unfold alnum
              first | exact (decide_eq_true (by omega)).symm | exact (decide_eq_false (by omega)).symm | exact decide_eq_decide.2 (by omega)
        · refine G.sg rfl rfl rfl rfl rfl rfl ?_
          refine G.sg rfl rfl rfl rfl rfl rfl ?_
          refine G.vg rfl rfl (V.pickF rfl rfl) rfl ?_
          refine G.v (V.pickF rfl rfl) rfl ?_
          refine G.v (V.mv rfl) rfl ?_
          refine G.vg rfl rfl (V.mv rfl) rfl ?_
          refine G.vg rfl rfl (V.ge rfl rfl) rfl ?_
          refine G.vg rfl rfl (V.mv rfl) rfl ?_
          refine G.bc 31 rfl (fun h31 => ?_) (fun h31 => ?_)
          · refine G.vg rfl rfl (V.mv rfl) rfl ?_
            refine G.vg rfl rfl (V.le rfl rfl) rfl ?_
            refine G.vg rfl rfl (V.pickT rfl rfl) rfl ?_
            refine G.v (V.pickF rfl rfl) rfl ?_
            refine G.nil ?_
            refine J6 _ _ ⟨⟨_, ?_, .cons rfl (.cons rfl (.cons rfl (.cons rfl (.cons rfl (.cons rfl .nil)))))⟩, rfl⟩
            simp only [decide_eq_true_eq, decide_eq_false_iff_not] at *
            unfold alnum
            first | exact (decide_eq_true (by omega)).symm | exact (decide_eq_false (by omega)).symm | exact decide_eq_decide.2 (by omega)
          · refine G.sg rfl rfl rfl rfl rfl rfl ?_
            refine G.sg rfl rfl rfl rfl rfl rfl ?_
            refine G.vg rfl rfl (V.pickF rfl rfl) rfl ?_
            refine G.v (V.pickF rfl rfl) rfl ?_
            refine G.nil ?_
            refine J6 _ _ ⟨⟨_, ?_, .cons rfl (.cons rfl (.cons rfl (.cons rfl (.cons rfl (.cons rfl .nil)))))⟩, rfl⟩
            simp only [decide_eq_false_iff_not] at *
            unfold alnum
            first | exact (decide_eq_true (by omega)).symm | exact (decide_eq_false (by omega)).symm | exact decide_eq_decide.2 (by omega)
    rintro fr' H' ⟨⟨b6, hb6, hs6⟩, rfl⟩
    subst hb6
    refine GC.weak hs6 ?_
    clear hs6
    refine GC.cond rfl (fun h35 => ?_) (fun h35 => ?_)
    · refine GC.reg ?_  -- region 7, ginmore.go:45
      refine G.v (V.mv rfl) rfl ?_
      refine G.v (V.mv rfl) rfl ?_
      refine G.bs (BS.one Try.underlying68 Try.sizeOf5 Try.zeroValue5 (v := .int .u8 (x.toNat : Int)) rfl) rfl rfl (fun sb hsb => ?_)
      refine G.app (i := Try.t5) (sz := 1) (by_ := 1) Try.underlying68 rfl rfl rfl rfl rfl rfl rfl hown (H' := [⟨sb, true, .row [.int .u8 (x.toNat : Int)] 5 (0, 0)⟩]) (List.perm_append_comm (l₁ := ([⟨sb, true, .row [.int .u8 (x.toNat : Int)] 5 (0, 0)⟩] : SH))) (src_row (vs := [.int .u8 (x.toNat : Int)]) (r := []) (.head _)) rfl (by simp [Value.oneCell']) (by omega) (by omega) (by omega) rfl (fun sv2 Hs2 hown2 => ?_)
      refine G.v (V.asg rfl) rfl ?_
      refine G.nil ?_
      refine GC.turn (H' := Hs2) (fun w1 h1 => h1.sub (List.sublist_cons_self _ _)) ?_
      have hnew : out ++ [x] = esc (s.take (i + 1)) := by
        rw [htk, esc_app, ← hout]
        simp [esc, escb, h35]
      have hown3 : Own 5 1 sv2 (out ++ [x]).length (bC (out ++ [x])) Hs2 := by
        rw [List.length_append, bC_app]
        exact hown2
      refine GC.inBlock ?_
      refine GC.reg ?_  -- region 9, ginmore.go:42
      refine G.v (V.addI (r := ((i + 1 : Nat) : Int)) rfl rfl (by omega) (by omega) (by omega)) rfl ?_
      refine G.v (V.mv rfl) rfl ?_
      refine G.nil ?_
      exact ih (N - 1) _ _ (by omega) ⟨i + 1, out ++ [x], sv2, Hs2, by omega, hown3, hnew, .cons rfl (.cons rfl (.cons rfl (.cons rfl .nil))), rfl⟩
    refine GC.regM 8 (fun _ => True) mixed (by kernel_rfl) ?_  -- region 8, ginmore.go:47
    refine GM.p 0 rfl (by kernel_rfl) (by kernel_rfl) (fun _ _ => trivial) (fun _ => V.mv rfl) rfl ?_
    refine GM.p 1 rfl (by kernel_rfl) (by kernel_rfl) (fun _ _ => trivial) (fun _ => V.mv rfl) rfl ?_
    refine GM.p 2 rfl (by kernel_rfl) (by kernel_rfl) (fun _ _ => trivial) (fun _ => V.shr4 (a := x.toNat) hxl rfl) rfl ?_
    refine GM.p 3 rfl (by kernel_rfl) (by kernel_rfl) (fun _ _ => trivial) (fun _ => V.idx (i := x.toNat / 16) (b := dig (x.toNat / 16)) Try.underlying9 rfl rfl (dig_at (by omega))) rfl ?_
    refine GM.p 4 rfl (by kernel_rfl) (by kernel_rfl) (fun _ _ => trivial) (fun _ => V.mv rfl) rfl ?_
    refine GM.p 5 rfl (by kernel_rfl) (by kernel_rfl) (fun _ _ => trivial) (fun _ => V.and15 (a := x.toNat) hxl rfl) rfl ?_
    refine GM.p 6 rfl (by kernel_rfl) (by kernel_rfl) (fun _ _ => trivial) (fun _ => V.idx (i := x.toNat % 16) (b := dig (x.toNat % 16)) Try.underlying9 rfl rfl (dig_at (by omega))) rfl ?_
    refine GM.one 7 rfl (by kernel_rfl) ?_
    refine GMB.bs (vs := [.int .u8 37, .int .u8 ((dig (x.toNat / 16)).toNat : Int), .int .u8 ((dig (x.toNat % 16)).toNat : Int)]) (BS3 Try.underlying68 Try.sizeOf5 Try.zeroValue5 rfl rfl rfl) rfl (fun _ _ => trivial) rfl (fun sb => ?_)
    refine GM.tl (by kernel_rfl) ?_
    refine G.app (i := Try.t5) (sz := 1) (by_ := 1) Try.underlying68 rfl rfl rfl rfl rfl rfl rfl hown (H' := [⟨sb, true, .row [.int .u8 37, .int .u8 ((dig (x.toNat / 16)).toNat : Int), .int .u8 ((dig (x.toNat % 16)).toNat : Int)] 5 (0, 0)⟩]) (List.perm_append_comm (l₁ := ([⟨sb, true, .row [.int .u8 37, .int .u8 ((dig (x.toNat / 16)).toNat : Int), .int .u8 ((dig (x.toNat % 16)).toNat : Int)] 5 (0, 0)⟩] : SH))) (src_row (vs := [.int .u8 37, .int .u8 ((dig (x.toNat / 16)).toNat : Int), .int .u8 ((dig (x.toNat % 16)).toNat : Int)]) (r := []) (.head _)) rfl (by simp [Value.oneCell']) (by omega) (by omega) (by omega) rfl (fun sv2 Hs2 hown2 => ?_)
    refine G.v (V.asg rfl) rfl ?_
    refine G.nil ?_
    refine GC.turn (H' := Hs2) (fun w1 h1 => h1.sub (List.sublist_cons_self _ _)) ?_
    have hnew : out ++ [37, dig (x.toNat / 16), dig (x.toNat % 16)] = esc (s.take (i + 1)) := by
      rw [htk, esc_app, ← hout]
      simp [esc, escb, h35]
    have hown3 : Own 5 1 sv2 (out ++ [37, dig (x.toNat / 16), dig (x.toNat % 16)]).length (bC (out ++ [37, dig (x.toNat / 16), dig (x.toNat % 16)])) Hs2 := by
      rw [List.length_append, bC_app]
      exact hown2
    refine GC.inBlock ?_
    refine GC.reg ?_  -- region 9, ginmore.go:42
    refine G.v (V.addI (r := ((i + 1 : Nat) : Int)) rfl rfl (by omega) (by omega) (by omega)) rfl ?_
    refine G.v (V.mv rfl) rfl ?_
    refine G.nil ?_
    exact ih (N - 1) _ _ (by omega) ⟨i + 1, out ++ [37, dig (x.toNat / 16), dig (x.toNat % 16)], sv2, Hs2, by omega, hown3, hnew, .cons rfl (.cons rfl (.cons rfl (.cons rfl .nil))), rfl⟩
  refine GC.exit rfl ?_
  refine GC.seq ?_
  refine GC.reg ?_  -- region 10, ginmore.go:50
  refine G.v (V.mv rfl) rfl ?_
  refine G.v (V.cvOwn Try.underlying68 Try.underlying5 Try.underlying9 rfl hown (by simp)) rfl ?_
  refine G.v (V.asg rfl) rfl ?_
  refine G.nil ?_
  have hie : i = s.length := by omega
  refine GC.ret1 rfl rfl fun w' hw' => ⟨?_, hw'.sub (List.nil_sublist _)⟩
  rw [hout, hie, List.take_length]

end Go.Proofs

/- one value behind /a/: what the tree of one route finds. -/
namespace Go.Proofs
open Go Bw Gt
def uR (b : Bool) : List Tok := [.b 47, .b 97, .b 47, if b then .A [120] else .P [120]]
def uW (b : Bool) (v : List UInt8) : List UInt8 := if b then 47 :: v else v
def uT (b : Bool) : T0 := match addAll new ([uR b].map txt) 0 with
  | .inl t => t
  | .inr _ => new
theorem uT_eq (b : Bool) : addAll new ([uR b].map txt) 0 = .inl (uT b) := by cases b <;> rfl
theorem uR_good (b : Bool) : ∀ r ∈ [uR b], Gt.Good r := by
  intro r hr
  rw [List.mem_singleton.1 hr]
  cases b
  · exact ⟨by simp [uR, Ok, plainB, word], _, rfl⟩
  · exact ⟨by simp [uR, Ok, plainB, word], _, rfl⟩
theorem unV_slash (v : List UInt8) : unV true (47 :: esc v) = 47 :: v := by
  have := unesc_esc v ((esc v).length + 1) ([] ++ [47]) (Nat.lt_succ_self _)
  simp only [unV, if_true, List.length_cons, unesc, if_neg (show (47 : UInt8) ≠ 43 by decide), if_pos (show (47 : UInt8) ≠ 37 by decide)]
  rw [this]; rfl
theorem takeW {e : List UInt8} (h : (47 : UInt8) ∉ e) : e.takeWhile (· ≠ 47) = e := by
  have := List.takeWhile_append_of_pos (p := fun x : UInt8 => decide (x ≠ 47)) (l₁ := e) (l₂ := []) (fun x hx => decide_eq_true (fun h1 => h (h1 ▸ hx)))
  simpa using this
theorem uG (b : Bool) {v : List UInt8} (hv : v ≠ []) : getC (unV true) (mxP [uR b]) (mxS [uR b]) 3 (uT b) ([47, 97, 47] ++ esc v) [] [] = some ⟨some 1, [([120], uW b v)], false, txt (uR b)⟩ := by
  obtain ⟨x, e, hxe⟩ : ∃ x e, esc v = x :: e := by
    cases h : esc v with
    | nil => have := (esc_len v).2; rw [h] at this; exact absurd (List.length_eq_zero_iff.1 (Nat.le_zero.1 this)) hv
    | cons x e => exact ⟨x, e, rfl⟩
  have h47 := takeW (esc_slash v)
  have hun := unV_esc v
  have hun2 := unV_slash v
  rw [hxe] at h47 hun hun2 ⊢
  cases b
  · have e1 : uT false = Tr.node () [47, 97, 47] [] true 1 1 none [47] [Tr.node () [58, 120] [] false 2 1 (some 1) [47, 97, 47, 58, 120] []] := by rfl
    rw [e1]
    simp only [getC, Tr.path, Tr.idx, Tr.wild, Tr.kids, Tr.nt, Tr.h, Tr.full]
    have h48 : List.takeWhile (fun x : UInt8 => !decide (x = 47)) (x :: e) = x :: e := by simpa only [ne_eq, decide_not] using h47
    simp [idxOf, uR, mxP, txt, uW]
    rw [h48]
    simp [hun]
  · have e1 : uT true = Tr.node () [47, 97] [47] false 1 1 none [47] [Tr.node () [] [] true 3 1 none [47, 97, 47, 42, 120] [Tr.node () [47, 42, 120] [] false 3 1 (some 1) [47, 97, 47, 42, 120] []]] := by rfl
    rw [e1]
    simp only [getC, Tr.path, Tr.idx, Tr.wild, Tr.kids, Tr.nt, Tr.h, Tr.full]
    simp [idxOf, uR, mxP, txt, hun2, uW]
end Go.Proofs

/- FnGinUnescaped. Printed by wip/mk_gm3.py. -/
set_option maxRecDepth 20000
namespace Go.Proofs
open Go Bw

open Gt
theorem Fnds.one {a : Res} {cells : List Value} {H : SH} (h : Fnds [a] cells H) : ∃ pa, cells = fndV a pa ∧ Own 32 2 pa a.ps.length (flatP a.ps) H := by
  generalize hl2 : [a] = l2 at h
  cases h with
  | nil => cases hl2
  | @snoc rs c3 H3 Ha r2 pa h ho2 =>
    obtain ⟨rfl, rfl⟩ : rs = [] ∧ r2 = a := by
      rcases rs with _ | ⟨x, rs⟩
      · simp at hl2; exact ⟨rfl, hl2.symm⟩
      · simp at hl2
    generalize hl3 : ([] : List Res) = l3 at h
    cases h with
    | nil => exact ⟨pa, rfl, ho2⟩
    | snoc h ho => simp at hl3
/-- GinFind of one path, by a tree that is known -/
theorem f15_one (w : World) (rs : List (List Tok)) (sv : Value) (hg : ∀ r ∈ rs, Gt.Good r) (hl : ∀ r ∈ rs, (txt r).length ≤ 20000) (h92 : ∀ r ∈ rs, ∀ c ∈ txt r, c ≠ 92) (hn : rs.length ≤ 1000000) (hsv : Txts w sv (rs.map txt)) (p : List UInt8) (pv : Value) (hpv : Txts w pv [p]) (hpl : p.length ≤ 100000) (un : Bool) {t : T0} (ht : addAll new (rs.map txt) 0 = .inl t) {g : Nat} {r : Res} (hr : getC (unV un) (mxP rs) (mxS rs) g t p [] [] = some r) (hm : r.ps.length ≤ mxP rs) :
    Calls Try.prog 15 #[sv, pv, .bool un] w fun e w' => ∃ fb cap spare pa Ha, e = .returned (.tuple #[.slice (some ⟨fb, 0, none⟩) 1 cap, .bool true]) ∧ Own 32 2 pa r.ps.length (flatP r.ps) Ha ∧ HF w (fun _ => False) (⟨fb, true, .row (fndV r pa ++ spare) 30 (0, 0)⟩ :: Ha) w' := by
  refine (f15_any w rs sv hg hl h92 hn hsv [p] pv hpv (by simpa using hpl) (by simp) un (fun t' ht' p' hp' => ?_)).mono fun e w' h => ?_
  · rw [ht] at ht'
    cases ht'
    rw [List.mem_singleton.1 hp']
    exact ⟨_, _, hr, hm⟩
  · rcases h with ⟨j, h1, _⟩ | ⟨t', rr, fv, cells, Hf, Hq, h1, h2, h3, h4, h5, h6, h7⟩
    · rw [ht] at h1; cases h1
    · rw [ht] at h1
      cases h1
      obtain ⟨r1, rfl⟩ : ∃ r1, rr = [r1] := by
        match rr, h2 with
        | [r1], _ => exact ⟨r1, rfl⟩
      obtain ⟨g1, hg1⟩ := h3 0 _ r1 rfl rfl
      have e1 := getC_det hg1 hr
      subst e1
      obtain ⟨pa, rfl, ho⟩ := h6.one
      obtain ⟨fb, cap, spare, rfl, rfl⟩ := h5.at (i := 0) (by simp)
      exact ⟨fb, cap, spare, pa, Hq, h4, ho, h7⟩
theorem f3_any (w : World) (s : List UInt8) (b : Bool) : Calls Try.prog 3 #[S s, .bool b] w fun e w' => e = .returned (.bool true) ∧ HF w (fun _ => False) [] w' := by
  refine enter (fun _ => False) [] Try.func3 rfl Try.ntmps3 rfl rfl (HF.start w _) fun c hc => ?_
  subst hc
  refine GC.seq ?_
  refine GC.reg ?_  -- region 0, ginmore.go:106
  refine G.v (V.asg rfl) rfl ?_
  refine G.nil ?_
  refine GC.seq ?_
  refine GC.seq ?_
  refine GC.reg ?_  -- region 1, ginmore.go:107
  refine G.v (V.mv rfl) rfl ?_
  refine G.v (V.lenS Try.underlying9 rfl) rfl ?_
  refine G.v (V.gt rfl rfl) rfl ?_
  refine G.nil ?_
  refine GC.condD rfl (fun h11 => ?_) (fun h11 => ?_)
  · refine GC.seq ?_
    refine GC.reg ?_  -- region 2, ginmore.go:108
    refine G.v (V.asg rfl) rfl ?_
    refine G.nil ?_
    exact GC.ret1 rfl rfl fun w' hw' => ⟨rfl, hw'.sub (List.nil_sublist _)⟩
  refine GC.skip ?_
  refine GC.seq ?_
  refine GC.seq ?_
  refine GC.join (fun fr' H' => Sub [(0, S s), (1, .bool b), (18, .bool (decide (s = [] ∨ 200 < s.length)))] fr' ∧ H' = []) (fun J3 => ?_) ?_
  · refine GC.reg ?_  -- region 3, ginmore.go:110
    refine G.v (V.mv rfl) rfl ?_
    refine G.v (V.eqS rfl rfl) rfl ?_
    refine G.v (V.mv rfl) rfl ?_
    refine G.bc 14 rfl (fun h14 => ?_) (fun h14 => ?_)
    · refine G.sg rfl rfl rfl rfl rfl rfl ?_
      refine G.sg rfl rfl rfl rfl rfl rfl ?_
      refine G.sg rfl rfl rfl rfl rfl rfl ?_
      refine G.v (V.pickT rfl rfl) rfl ?_
      refine G.nil ?_
      refine J3 _ _ ⟨?_, rfl⟩
      have e : decide (s = [] ∨ 200 < s.length) = true := decide_eq_true (.inl (of_decide_eq_true h14))
      rw [e]
      exact .cons rfl (.cons rfl (.cons rfl .nil))
    · refine G.vg rfl rfl (V.mv rfl) rfl ?_
      refine G.vg rfl rfl (V.lenS Try.underlying9 rfl) rfl ?_
      refine G.vg rfl rfl (V.gt rfl rfl) rfl ?_
      refine G.v (V.pickF rfl rfl) rfl ?_
      refine G.nil ?_
      refine J3 _ _ ⟨?_, rfl⟩
      have e : decide ((200 : Int) < (s.length : Int)) = decide (s = [] ∨ 200 < s.length) := decide_eq_decide.2 ⟨fun h => .inr (by omega), fun h => h.elim (fun h => absurd h (of_decide_eq_false h14)) (by omega)⟩
      rw [← e]
      exact .cons rfl (.cons rfl (.cons rfl .nil))
  rintro fr' H' ⟨hs1, rfl⟩
  refine GC.weak hs1 ?_
  clear hs1
  refine GC.cond rfl (fun h18 => ?_) (fun h18 => ?_)
  · refine GC.seq ?_
    refine GC.reg ?_  -- region 4, ginmore.go:111
    refine G.callP (v := .bool true) Try.call14 rfl rfl (fun w1 _ => f14_any w1) ?_
    refine G.v (V.asg rfl) rfl ?_
    refine G.nil ?_
    exact GC.ret1 rfl rfl fun w' hw' => ⟨rfl, hw'.sub (List.nil_sublist _)⟩
  refine GC.skip ?_
  refine GC.seq ?_
  have hl : s ≠ [] ∧ s.length ≤ 200 := by
    have h18' := h18
    simp at h18'
    exact ⟨h18'.1, by omega⟩
  obtain ⟨hs0, hs200⟩ := hl
  have hel := esc_len s
  refine GC.reg ?_  -- region 5, ginmore.go:113
  refine G.v (V.mv rfl) rfl ?_
  refine G.v (V.asg rfl) rfl ?_
  refine G.v (V.asg rfl) rfl ?_
  refine G.nil ?_
  refine GC.seq ?_
  refine GC.seq ?_
  refine GC.reg ?_  -- region 6, ginmore.go:114
  refine G.v (V.mv rfl) rfl ?_
  refine G.nil ?_
  refine GC.join (fun fr' H' => Sub [(0, S s), (5, S (txt (uR b))), (6, S (uW b s))] fr' ∧ H' = []) (fun J21 => ?_) ?_
  · refine GC.cond rfl (fun h21 => ?_) (fun h21 => ?_)
    · refine GC.reg ?_  -- region 7, ginmore.go:115
      refine G.v (V.mv rfl) rfl ?_
      refine G.v (V.cat rfl rfl (by simp; omega)) rfl ?_
      refine G.v (V.asg rfl) rfl ?_
      refine G.v (V.asg rfl) rfl ?_
      refine G.nil ?_
      subst h21
      exact J21 _ _ ⟨.cons rfl (.cons rfl (.cons rfl .nil)), rfl⟩
    refine GC.skip ?_
    subst h21
    exact J21 _ _ ⟨.cons rfl (.cons rfl (.cons rfl .nil)), rfl⟩
  rintro fr' H' ⟨hs1, rfl⟩
  refine GC.weak hs1 ?_
  clear hs1
  refine GC.seq ?_
  refine GC.reg ?_  -- region 8, ginmore.go:117
  refine G.v (V.mv rfl) rfl ?_
  refine G.bs (BS.one Try.underlying26 Try.sizeOf9 Try.zeroValue9 (v := S (txt (uR b))) rfl) rfl rfl (fun ab hab => ?_)
  refine G.v (V.mv rfl) rfl ?_
  refine G.callP (v := S (esc s)) Try.call16 rfl rfl (fun w1 _ => f16_any w1 s (by omega)) ?_
  refine G.v (V.cat rfl rfl (by simp; omega)) rfl ?_
  refine G.bs (BS.one Try.underlying26 Try.sizeOf9 Try.zeroValue9 (v := S ([47, 97, 47] ++ esc s)) rfl) rfl rfl (fun pb hpb => ?_)
  refine G.callW (fun v H2 => ∃ fb cap spare pa Ha, v = .tuple #[.slice (some ⟨fb, 0, none⟩) 1 cap, .bool true] ∧ Own 32 2 pa 1 (flatP [([120], uW b s)]) Ha ∧ H2 = (⟨fb, true, .row (fndV ⟨some 1, [([120], uW b s)], false, txt (uR b)⟩ pa ++ spare) 30 (0, 0)⟩ :: Ha) ++ [⟨pb, true, .row [S ([47, 97, 47] ++ esc s)] 9 (0, 0)⟩, ⟨ab, true, .row [S (txt (uR b))] 9 (0, 0)⟩]) Try.call15 rfl rfl (fun w1 hw1 => ?_) ?_
  · refine (f15_one w1 [uR b] _ (uR_good b) (by cases b <;> decide) (by cases b <;> decide) (by simp) (Txts.row (l := [uR b].map txt) (z := []) (e := 9) (wf := true) (fz := (0, 0)) hw1 (.tail _ (.head _))) ([47, 97, 47] ++ esc s) _ (Txts.row (l := [[47, 97, 47] ++ esc s]) (z := []) (e := 9) (wf := true) (fz := (0, 0)) hw1 (.head _)) (by simp; omega) true (uT_eq b) (uG b hs0) (show 1 ≤ mxP [uR b] by cases b <;> decide)).mono fun e w' h => ?_
    obtain ⟨fb, cap, spare, pa, Ha, h1, h2, h3⟩ := h
    refine ⟨_, _, h1, hw1.after0 h3 (fun e0 he0 => ?_), fb, cap, spare, pa, Ha, rfl, h2, rfl⟩
    rcases List.mem_cons.1 he0 with rfl | he0
    · rfl
    · exact h2.w e0 he0
  rintro v H2 ⟨fb, cap, spare, pa, Ha, rfl, ho, rfl⟩
  obtain ⟨qb, cap2, spare2, rfl, rfl⟩ := ho.at (i := 0) (by decide)
  refine G.v (V.mv rfl) rfl ?_
  refine G.v (V.ex rfl rfl) rfl ?_
  refine G.v (V.ex rfl rfl) rfl ?_
  refine G.v (V.asg rfl) rfl ?_
  refine G.v (V.asg rfl) rfl ?_
  refine G.nil ?_
  refine GC.seq ?_
  refine GC.reg ?_  -- region 9, ginmore.go:118
  refine G.callP (v := .bool true) Try.call14 rfl rfl (fun w1 _ => f14_any w1) ?_
  refine G.v (V.mv rfl) rfl ?_
  refine G.bc 35 rfl (fun h35 => ?_) (fun h35 => ?_)
  · refine G.vg rfl rfl (V.mv rfl) rfl ?_
    refine G.v (V.pickT rfl rfl) rfl ?_
    refine G.v (V.mv rfl) rfl ?_
    refine G.bc 38 rfl (fun h38 => ?_) (fun h38 => ?_)
    · refine G.vg rfl rfl (V.mv rfl) rfl ?_
      refine G.vg rfl rfl (V.lenL Try.underlying23 rfl) rfl ?_
      refine G.vg rfl rfl (V.eqI rfl rfl) rfl ?_
      refine G.v (V.pickT rfl rfl) rfl ?_
      refine G.v (V.mv rfl) rfl ?_
      refine G.bc 43 rfl (fun h43 => ?_) (fun h43 => ?_)
      · refine G.vg rfl rfl (V.mv rfl) rfl ?_
        refine G.vg rfl rfl (V.ia (i := 0) Try.underlying23 Try.sizeOf30 rfl rfl (by omega)) rfl ?_
        refine G.vg rfl rfl (V.fa F30_0 rfl) rfl ?_
        refine G.vg rfl rfl (V.ld (b := fb) (off := 0 + 0 * 4 + 0) (wf := true) (l := (fndV ⟨some 1, [([120], uW b s)], false, txt (uR b)⟩ (.slice (some ⟨qb, 0, none⟩) 1 cap2) ++ spare)) (T := 30) (fz := (0, 0)) (v := I 1) Try.isAgg3 rfl (.head _) rfl) rfl ?_
        refine G.vg rfl rfl (V.eqI rfl rfl) rfl ?_
        refine G.v (V.pickT rfl rfl) rfl ?_
        refine G.v (V.mv rfl) rfl ?_
        refine G.bc 50 rfl (fun h50 => ?_) (fun h50 => ?_)
        · refine G.vg rfl rfl (V.mv rfl) rfl ?_
          refine G.vg rfl rfl (V.ia (i := 0) Try.underlying23 Try.sizeOf30 rfl rfl (by omega)) rfl ?_
          refine G.vg rfl rfl (V.fa F30_1 rfl) rfl ?_
          refine G.vg rfl rfl (V.ld (b := fb) (off := 0 + 0 * 4 + 1) (wf := true) (l := (fndV ⟨some 1, [([120], uW b s)], false, txt (uR b)⟩ (.slice (some ⟨qb, 0, none⟩) 1 cap2) ++ spare)) (T := 30) (fz := (0, 0)) (v := .slice (some ⟨qb, 0, none⟩) 1 cap2) Try.isAgg28 rfl (.head _) rfl) rfl ?_
          refine G.vg rfl rfl (V.lenL Try.underlying28 rfl) rfl ?_
          refine G.vg rfl rfl (V.eqI rfl rfl) rfl ?_
          refine G.v (V.pickT rfl rfl) rfl ?_
          refine G.v (V.mv rfl) rfl ?_
          refine G.bc 58 rfl (fun h58 => ?_) (fun h58 => ?_)
          · refine G.vg rfl rfl (V.mv rfl) rfl ?_
            refine G.vg rfl rfl (V.ia (i := 0) Try.underlying23 Try.sizeOf30 rfl rfl (by omega)) rfl ?_
            refine G.vg rfl rfl (V.fa F30_1 rfl) rfl ?_
            refine G.vg rfl rfl (V.ld (b := fb) (off := 0 + 0 * 4 + 1) (wf := true) (l := (fndV ⟨some 1, [([120], uW b s)], false, txt (uR b)⟩ (.slice (some ⟨qb, 0, none⟩) 1 cap2) ++ spare)) (T := 30) (fz := (0, 0)) (v := .slice (some ⟨qb, 0, none⟩) 1 cap2) Try.isAgg28 rfl (.head _) rfl) rfl ?_
            refine G.vg rfl rfl (V.ia (i := 0) Try.underlying28 Try.sizeOf32 rfl rfl (by omega)) rfl ?_
            refine G.vg rfl rfl (V.ldA (b := qb) (off := 0 + 0 * 2) (s := 2) (wf := true) (l := flatP [([120], uW b s)] ++ spare2) (T := 32) (fz := (0, 0)) (cs := [S [120], S (uW b s)]) Try.isAgg32 Try.sizeOf32 rfl (.tail _ (.head _)) rfl rfl) rfl ?_
            refine G.vg rfl rfl (V.mv rfl) rfl ?_
            refine G.vg rfl rfl (V.bd (vs := [(0, S [120]), (1, S (uW b s))]) rfl (fun w1 => bd_ip _ _ w1)) rfl ?_
            refine G.vg rfl rfl (V.eq32 rfl rfl) rfl ?_
            refine G.v (V.pickT rfl rfl) rfl ?_
            refine G.v (V.asg rfl) rfl ?_
            refine G.nil ?_
            refine GC.ret1 rfl rfl fun w' hw' => ⟨?_, hw'.sub (List.nil_sublist _)⟩
            simp
          · exact absurd h58 (by decide)
        · exact absurd h50 (by decide)
      · exact absurd h43 (by decide)
    · exact absurd h38 (by decide)
  · exact absurd h35 (by decide)

end Go.Proofs
