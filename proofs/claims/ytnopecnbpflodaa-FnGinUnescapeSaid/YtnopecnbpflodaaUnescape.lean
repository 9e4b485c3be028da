/- The law FnGinUnescape holds for every input: with the wish to unescape, a path finds the route that it finds without, and the values are resolved where they can be. -/
import Derived.Test.YtnopecnbpflodaaSa
import Derived.Test.YtnopecnbpflodaaKa
import Derived.Test.YtnopecnbpflodaaRowb
/- FnGinFind. Printed by wip/mk_gs2x.py. -/
set_option maxRecDepth 20000
namespace Go.Proofs
open Go Bw
open Gt
theorem U_id (v : Vs) : U (unV false) v = v := by
 unfold U
 rw [show (fun x : List UInt8 × List UInt8 => (x.1, unV false x.2)) = id from funext fun x => rfl, List.map_id]
theorem Prms.none (w : World) : Prms w (.slice none 0 0) [] := ⟨_, _, rfl, fun j x h => by simp at h⟩
theorem cells_of {w0 w : World} {D : Nat → Prop} {H : SH} (hw : HF w0 D H w) {b : Nat} {wf : Bool} {l : List Value} {T : TypeId} {fz : Nat × Nat} (off : Nat) (cs : List Value) (hm : (⟨b, wf, .row l T fz⟩ : Ent) ∈ H) (hc : ∀ (j : Nat) v, cs[j]? = some v → l[off + j]? = some v) : ∀ (j : Nat) v, cs[j]? = some v → w.cell? ⟨b, off + j, none⟩ = some v := fun j v hj =>
 cell_row hw hm (by rw [nth_eq]; exact hc j v hj)
theorem fnd_at (r : Res) (pa : Value) (sp : List Value) (j : Nat) (v : Value) (h : (fndV r pa)[j]? = some v) : (fndV r pa ++ sp)[0 + 0 * 4 + j]? = some v := by
 have hl := (List.getElem?_eq_some_iff.1 h).1
 have e : 0 + 0 * 4 + j = j := by omega
 rw [e, List.getElem?_append_left hl]; exact h
end Go.Proofs

/- FnGinMany. Printed by wip/mk_gs3x.py. -/
set_option maxRecDepth 20000
namespace Go.Proofs
open Go Bw
open Gt
theorem Fnds.at {rr : List Res} {cells : List Value} {Hq : SH} (h : Fnds rr cells Hq) : cells.length = rr.length * 4 ∧ ∀ (j : Nat) r, rr[j]? = some r → ∃ pa Ha, Own 32 2 pa r.ps.length (flatP r.ps) Ha ∧ (∀ x ∈ Ha, x ∈ Hq) ∧ ∀ (k : Nat) v, (fndV r pa)[k]? = some v → cells[j * 4 + k]? = some v := by
 induction h with
 | nil => exact ⟨rfl, fun j r hj => by simp at hj⟩
 | @snoc rs cells H Hq r pv h ho ih =>
  obtain ⟨h1, h2⟩ := ih
  have hf : (fndV r pv).length = 4 := rfl
  refine ⟨by rw [List.length_append, List.length_append, h1, hf, List.length_singleton]; omega, fun j x hj => ?_⟩
  by_cases hl : j < rs.length
  ·rw [List.getElem?_append_left hl] at hj
   obtain ⟨pa, Ha, h3, h4, h5⟩ := h2 j x hj
   refine ⟨pa, Ha, h3, fun y hy => List.mem_append_left _ (h4 y hy), fun k v hk => ?_⟩
   have h6 := h5 k v hk
   rw [List.getElem?_append_left (List.getElem?_eq_some_iff.1 h6).1]; exact h6
  ·rw [List.getElem?_append_right (by omega)] at hj
   have hj0 : j - rs.length = 0 := by
    have := (List.getElem?_eq_some_iff.1 hj).1
    rw [List.length_singleton] at this; omega
   rw [hj0] at hj
   cases hj
   refine ⟨pv, Hq, ho, fun y hy => List.mem_append_right _ hy, fun k v hk => ?_⟩
   have e : j * 4 + k = cells.length + k := by rw [h1]; omega
   rw [e, List.getElem?_append_right (by omega), Nat.add_sub_cancel_left]; exact hk
theorem own_slice {e sz n : Nat} {v : Value} {xs : List Value} {Hs : SH} (h : Own e sz v n xs Hs) : ∃ ad cp, v = .slice ad n cp := by
 cases h with
 | nil => exact ⟨_, _, rfl⟩
 | row _ _ _ => exact ⟨_, _, rfl⟩
end Go.Proofs

/- Texts with percent signs, as the reference reads them. Printed by wip/mk_gs7x.py. -/
set_option maxRecDepth 20000
namespace Go.Proofs
open Go Bw
open Gt
/-- what hexValue tells -/
def hexN (c : UInt8) : Nat := (hexV c).getD 16
theorem hexN_some {c : UInt8} (h : ¬ hexN c > 15) : hexV c = some (hexN c) := by
 unfold hexN at h ⊢
 cases hx : hexV c with
 | none => rw [hx] at h; simp at h
 | some x => rfl
theorem _root_.Bw.GMB.callP {P : Program} {c : Cx} {n : Nat} {k : List Item} {fr : SF} {H : SH} {ops : Array Oper} {tail : List Oper} {ty : TypeId} {pos : String} {aft : Array Edge} {S : World → Prop} {m fuel : Nat} {listed : Array Bool} {g : FuncId} {xs : List Operand} {vs : List Value} {tys : Array TypeId} {d : Nat} {v : Value} (hg : ∀ (args : Array Value) w, (callFunc g args).run P w = .ok (.enter g args) w) (he : evs fr xs = some vs) (hd : Nat.blt d n = true)
  (hS : ∀ w, HF c.w0 c.D H w → S w) (hc : ∀ w, HF c.w0 c.D H w → Calls P g vs.toArray w (fun e w' => e = .returned v ∧ HF w (fun _ => False) [] w')) (hk : GM P c n k ops S m tail fuel listed ((d, v) :: fr) H) :
  GMB P c n k ops S m tail fuel listed ⟨some d, .call ⟨.value (.func g), xs.toArray, tys⟩, ty, pos, aft, none⟩ fr H := by
 intro hf a w ha hw inv
 refine ⟨rfl, ?_⟩
 simp only [Oper.wp, run_callN ha hg he, Oper.upon]
 refine (hc w hw).mono fun e w' ⟨h1, h2⟩ => ?_
 subst h1
 have h3 : HF c.w0 c.D H w' := by
  have := hw.after0 h2 (fun e he => by cases he)
  simpa using this
 exact ⟨hS _ h3, hk hf _ _ (ha.put hd v) h3 inv⟩
theorem f60_any (w : World) (c : UInt8) : Calls Try.prog 60 #[.int .u8 (c.toNat : Int)] w fun e w' => e = .returned (.int .u8 (hexN c : Int)) ∧ HF w (fun _ => False) [] w' := by
 refine enter (fun _ => False) [] Try.func60 rfl Try.ntmps60 rfl rfl (HF.start w _) fun c hc => ?_
 subst hc
 have hc := c.toNat_lt
 have wr : ∀ n : Int, 0 ≤ n → n < 256 → IntKind.u8.wrap n = n := fun n h1 h2 => by
  unfold IntKind.wrap
  simp [IntKind.bits, IntKind.signed]
  omega
 refine GC.seq ?_
 refine GC.reg ?_
 refine G.m2 ?_
 refine G.nil ?_
 refine GC.seq ?_
 refine GC.block ?_
 refine GC.seq ?_
 refine GC.join (fun fr' H' => Sub [(0, .int .u8 (c.toNat : Int)), (3, .bool (decide (48 ≤ c.toNat ∧ c.toNat ≤ 57)))] fr' ∧ H' = []) (fun J1 => ?_) ?_
 ·refine GC.reg ?_
  refine G.m1 ?_
  refine G.v (V.ge rfl rfl) rfl ?_
  refine G.m1 ?_
  refine G.bc 6 rfl (fun h6 => ?_) (fun h6 => ?_)
  ·refine G.m5 ?_
   refine G.vg rfl rfl (V.le rfl rfl) rfl ?_
   refine G.m3 ?_
   refine G.m2 ?_
   refine G.nil ?_
   refine J1 _ _ ⟨?_, rfl⟩
   have h1 := of_decide_eq_true h6
   have e : decide ((c.toNat : Int) ≤ 57) = decide (48 ≤ c.toNat ∧ c.toNat ≤ 57) := decide_eq_decide.2 ⟨fun h => ⟨by omega, by omega⟩, fun h => by omega⟩
   rw [e]
   exact .of rfl
  ·refine G.s1 ?_
   refine G.s1 ?_
   refine G.m4 ?_
   refine G.m2 ?_
   refine G.nil ?_
   refine J1 _ _ ⟨?_, rfl⟩
   have h1 := of_decide_eq_false h6
   have e : decide (48 ≤ c.toNat ∧ c.toNat ≤ 57) = false := decide_eq_false fun h => h1 (by omega)
   rw [e]
   exact .of rfl
 rintro fr' H' ⟨hs1, rfl⟩
 refine GC.weak hs1 ?_
 clear hs1
 refine GC.condD rfl (fun h3 => ?_) (fun h3 => ?_)
 ·refine GC.seq ?_
  refine GC.reg ?_
  refine G.m1 ?_
  refine G.v (V.sub (i := (c.toNat : Int)) (j := 48) rfl rfl) rfl ?_
  rw [wr _ (by omega) (by omega)]
  refine G.m2 ?_
  refine G.nil ?_
  refine GC.ret1 rfl rfl fun w' hw' => ⟨?_, hw'⟩
  unfold hexN hexV
  rw [if_pos h3]
  have e : (c.toNat : Int) - 48 = ((c.toNat - 48 : Nat) : Int) := by omega
  rw [e]; rfl
 refine GC.seq ?_
 refine GC.join (fun fr' H' => Sub [(0, .int .u8 (c.toNat : Int)), (12, .bool (decide (97 ≤ c.toNat ∧ c.toNat ≤ 102)))] fr' ∧ H' = []) (fun J3 => ?_) ?_
 ·refine GC.reg ?_
  refine G.m1 ?_
  refine G.v (V.ge rfl rfl) rfl ?_
  refine G.m1 ?_
  refine G.bc 15 rfl (fun h15 => ?_) (fun h15 => ?_)
  ·refine G.m5 ?_
   refine G.vg rfl rfl (V.le rfl rfl) rfl ?_
   refine G.m3 ?_
   refine G.m2 ?_
   refine G.nil ?_
   refine J3 _ _ ⟨?_, rfl⟩
   have h1 := of_decide_eq_true h15
   have e : decide ((c.toNat : Int) ≤ 102) = decide (97 ≤ c.toNat ∧ c.toNat ≤ 102) := decide_eq_decide.2 ⟨fun h => ⟨by omega, by omega⟩, fun h => by omega⟩
   rw [e]
   exact .of rfl
  ·refine G.s1 ?_
   refine G.s1 ?_
   refine G.m4 ?_
   refine G.m2 ?_
   refine G.nil ?_
   refine J3 _ _ ⟨?_, rfl⟩
   have h1 := of_decide_eq_false h15
   have e : decide (97 ≤ c.toNat ∧ c.toNat ≤ 102) = false := decide_eq_false fun h => h1 (by omega)
   rw [e]
   exact .of rfl
 rintro fr' H' ⟨hs1, rfl⟩
 refine GC.weak hs1 ?_
 clear hs1
 refine GC.condD rfl (fun h12 => ?_) (fun h12 => ?_)
 ·refine GC.seq ?_
  refine GC.reg ?_
  refine G.m1 ?_
  refine G.v (V.sub (i := (c.toNat : Int)) (j := 97) rfl rfl) rfl ?_
  rw [wr _ (by omega) (by omega)]
  refine G.v (V.add (i := (c.toNat : Int) - 97) (j := 10) rfl rfl) rfl ?_
  rw [wr _ (by omega) (by omega)]
  refine G.m2 ?_
  refine G.nil ?_
  refine GC.ret1 rfl rfl fun w' hw' => ⟨?_, hw'⟩
  unfold hexN hexV
  rw [if_neg h3, if_pos h12]
  have e : (c.toNat : Int) - 97 + 10 = ((c.toNat - 87 : Nat) : Int) := by omega
  rw [e]; rfl
 refine GC.seq ?_
 refine GC.join (fun fr' H' => Sub [(0, .int .u8 (c.toNat : Int)), (22, .bool (decide (65 ≤ c.toNat ∧ c.toNat ≤ 70)))] fr' ∧ H' = []) (fun J5 => ?_) ?_
 ·refine GC.reg ?_
  refine G.m1 ?_
  refine G.v (V.ge rfl rfl) rfl ?_
  refine G.m1 ?_
  refine G.bc 25 rfl (fun h25 => ?_) (fun h25 => ?_)
  ·refine G.m5 ?_
   refine G.vg rfl rfl (V.le rfl rfl) rfl ?_
   refine G.m3 ?_
   refine G.m2 ?_
   refine G.nil ?_
   refine J5 _ _ ⟨?_, rfl⟩
   have h1 := of_decide_eq_true h25
   have e : decide ((c.toNat : Int) ≤ 70) = decide (65 ≤ c.toNat ∧ c.toNat ≤ 70) := decide_eq_decide.2 ⟨fun h => ⟨by omega, by omega⟩, fun h => by omega⟩
   rw [e]
   exact .of rfl
  ·refine G.s1 ?_
   refine G.s1 ?_
   refine G.m4 ?_
   refine G.m2 ?_
   refine G.nil ?_
   refine J5 _ _ ⟨?_, rfl⟩
   have h1 := of_decide_eq_false h25
   have e : decide (65 ≤ c.toNat ∧ c.toNat ≤ 70) = false := decide_eq_false fun h => h1 (by omega)
   rw [e]
   exact .of rfl
 rintro fr' H' ⟨hs1, rfl⟩
 refine GC.weak hs1 ?_
 clear hs1
 refine GC.condD rfl (fun h22 => ?_) (fun h22 => ?_)
 ·refine GC.seq ?_
  refine GC.reg ?_
  refine G.m1 ?_
  refine G.v (V.sub (i := (c.toNat : Int)) (j := 65) rfl rfl) rfl ?_
  rw [wr _ (by omega) (by omega)]
  refine G.v (V.add (i := (c.toNat : Int) - 65) (j := 10) rfl rfl) rfl ?_
  rw [wr _ (by omega) (by omega)]
  refine G.m2 ?_
  refine G.nil ?_
  refine GC.ret1 rfl rfl fun w' hw' => ⟨?_, hw'⟩
  unfold hexN hexV
  rw [if_neg h3, if_neg h12, if_pos h22]
  have e : (c.toNat : Int) - 65 + 10 = ((c.toNat - 55 : Nat) : Int) := by omega
  rw [e]; rfl
 refine GC.skip ?_
 refine GC.inBlock ?_
 refine GC.seq ?_
 refine GC.reg ?_
 refine G.m2 ?_
 refine G.nil ?_
 refine GC.ret1 rfl rfl fun w' hw' => ⟨?_, hw'⟩
 unfold hexN hexV
 rw [if_neg h3, if_neg h12, if_neg h22]; rfl
theorem f35_any (w : World) (s : List UInt8) (hs : s.length ≤ 1000000) : Calls Try.prog 35 #[S s] w fun e w' => e = .returned (S (unV true s)) ∧ HF w (fun _ => False) [] w' := by
 refine enter (fun _ => False) [] Try.func35 rfl Try.ntmps35 rfl rfl (HF.start w _) fun c hc => ?_
 subst hc
 obtain ⟨L, hL⟩ : ∃ L, L = unesc (s.length + 1) s [] := ⟨_, rfl⟩
 have hun0 : unV true s = L.getD s := by rw [hL]; rfl
 rw [hun0]
 refine GC.seq ?_
 refine GC.reg ?_
 refine G.m2 ?_
 refine G.nil ?_
 refine GC.seq ?_
 refine GC.reg ?_
 refine G.m2 ?_
 refine G.nil ?_
 refine GC.seq ?_
 refine GC.seq ?_
 refine GC.reg ?_
 refine G.m2 ?_
 refine G.nil ?_
 refine GC.block ?_
 refine GC.loopJ (fun N fr' H' => ∃ i out sv Hs g, i + N = s.length ∧ Own 5 1 sv out.length (bC out) Hs ∧ L = unesc (g + 1) (s.drop i) out ∧ s.length ≤ i + g ∧ out.length ≤ i ∧ Sub [(0, S s), (3, sv), (4, I (i : Nat))] fr' ∧ Hs = H') s.length
  ⟨0, [], .slice none 0 0, [], s.length, by omega, Own.nil, hL, by omega, by simp, .of rfl, rfl⟩ ?_
 rintro N fr' H' ⟨i, out, sv, Hs, g, hi, hown, hun, hg, hol, hs2, rfl⟩ ih
 refine GC.weak hs2 ?_
 clear hs2
 refine GC.seq ?_
 refine GC.seq ?_
 refine GC.reg ?_
 refine G.m1 ?_
 refine G.m1 ?_
 refine G.v (V.lenS Try.underlying9 rfl) rfl ?_
 refine G.v (V.lt rfl rfl) rfl ?_
 refine G.nil ?_
 refine GC.condD rfl (fun h8 => ?_) (fun h8 => ?_)
 ·refine GC.skip ?_
  refine GC.seq ?_
  refine GC.block ?_
  refine GC.seq ?_
  have hil : i < s.length := by omega
  obtain ⟨x, hx⟩ : ∃ x, s[i]? = some x := ⟨_, List.getElem?_eq_getElem hil⟩
  have hd := drop_cons hx
  obtain ⟨g, rfl⟩ : ∃ g2, g = g2 + 1 := ⟨g - 1, by omega⟩
  rw [hd] at hun
  unfold unesc at hun
  refine GC.reg ?_
  refine G.m1 ?_
  refine G.m1 ?_
  refine G.v (V.idx (i := i) (b := x) Try.underlying9 rfl rfl hx) rfl ?_
  refine G.nil ?_
  refine GC.block ?_
  refine GC.seq ?_
  refine GC.reg ?_
  refine G.v (V.eqI rfl rfl) rfl ?_
  refine G.m2 ?_
  refine G.nil ?_
  refine GC.condD rfl (fun h20 => ?_) (fun h20 => ?_)
  ·have hx43 : x = 43 := u_eq (k := 43) (by have := h20; omega) (by omega)
   rw [if_pos hx43] at hun
   refine GC.reg ?_
   refine G.m1 ?_
   refine G.bs (BS.one Try.underlying68 Try.sizeOf5 Try.zeroValue5 (v := .int .u8 (32 : Int)) rfl) rfl rfl (fun sb hsb => ?_)
   refine G.app (i := Try.t5) (sz := 1) (by_ := 1) Try.underlying68 rfl rfl rfl rfl rfl rfl rfl hown (H' := [⟨sb, true, .row [.int .u8 (32 : Int)] 5 (0, 0)⟩]) (List.perm_append_comm (l₁ := ([⟨sb, true, .row [.int .u8 (32 : Int)] 5 (0, 0)⟩] : SH))) (src_row (vs := [.int .u8 (32 : Int)]) (r := []) (.head _)) rfl (by simp [Value.oneCell']) (by omega) (by omega) (by omega) rfl (fun sv2 Hs2 hown2 => ?_)
   refine G.m2 ?_
   refine G.nil ?_
   refine GC.turn (H' := Hs2) (fun w1 h1 => h1.sub (List.sublist_cons_self _ _)) ?_
   have hown3 : Own 5 1 sv2 (out ++ [32]).length (bC (out ++ [32])) Hs2 := by
    rw [List.length_append, bC_app]
    exact hown2
   refine GC.inBlock ?_
   refine GC.inBlock ?_
   refine GC.reg ?_
   refine G.m1 ?_
   refine G.v (V.addI (r := ((i + 1 : Nat) : Int)) rfl rfl (by omega) (by omega) (by omega)) rfl ?_
   refine G.m2 ?_
   refine G.nil ?_
   exact ih (N - 1) _ _ (by omega) ⟨i + 1, out ++ [32], sv2, Hs2, g, by omega, hown3, hun, by omega, by simp; omega, .of rfl, rfl⟩
  refine GC.seq ?_
  have hx43 : x ≠ 43 := fun e => h20 (by rw [e]; rfl)
  rw [if_neg hx43] at hun
  refine GC.reg ?_
  refine G.v (V.eqI rfl rfl) rfl ?_
  refine G.m2 ?_
  refine G.nil ?_
  refine GC.condD rfl (fun h25 => ?_) (fun h25 => ?_)
  ·refine GC.seq ?_
   refine GC.seq ?_
   have hx37 : x = 37 := u_eq (k := 37) (by have := h25; omega) (by omega)
   rw [if_neg (fun h => h hx37)] at hun
   refine GC.join (fun fr' H' => Sub [(0, S s), (3, sv), (4, I (i : Nat)), (47, .bool (dec (¬ ∃ a b, s[i + 1]? = some a ∧ s[i + 2]? = some b ∧ ¬ hexN a > 15 ∧ ¬ hexN b > 15)))] fr' ∧ Hs = H') (fun J10 => ?_) ?_
   ·refine GC.reg ?_
    refine G.m1 ?_
    refine G.v (V.addI (r := ((i + 2 : Nat) : Int)) rfl rfl (by omega) (by omega) (by omega)) rfl ?_
    refine G.m1 ?_
    refine G.v (V.lenS Try.underlying9 rfl) rfl ?_
    refine G.v (V.ge rfl rfl) rfl ?_
    refine G.m1 ?_
    refine G.bc 32 rfl (fun h32 => ?_) (fun h32 => ?_)
    ·refine G.s1 ?_
     refine G.s1 ?_
     refine G.s1 ?_
     refine G.s1 ?_
     refine G.s1 ?_
     refine G.s1 ?_
     refine G.m3 ?_
     refine G.m1 ?_
     refine G.s1 ?_
     refine G.s1 ?_
     refine G.s1 ?_
     refine G.s1 ?_
     refine G.s1 ?_
     refine G.s1 ?_
     refine G.m3 ?_
     refine G.nil ?_
     refine J10 _ _ ⟨.cons rfl (.cons rfl (.cons rfl (.cons (rfl.trans (congrArg (fun b => some (Value.bool b)) ?_)) .nil))), rfl⟩
     exact dec_t fun ⟨a, b, _, h, _⟩ => by have := (List.getElem?_eq_some_iff.1 h).1; have := of_decide_eq_true h32; omega
    ·have hil2 : i + 2 < s.length := by have := of_decide_eq_false h32; omega
     obtain ⟨a, ha⟩ : ∃ a, s[i + 1]? = some a := ⟨_, List.getElem?_eq_getElem (by omega)⟩
     obtain ⟨b, hb⟩ : ∃ b, s[i + 2]? = some b := ⟨_, List.getElem?_eq_getElem hil2⟩
     refine G.m5 ?_
     refine G.m5 ?_
     refine G.vg rfl rfl (V.addI (r := ((i + 1 : Nat) : Int)) rfl rfl (by omega) (by omega) (by omega)) rfl ?_
     refine G.vg rfl rfl (V.idx (i := i + 1) (b := a) Try.underlying9 rfl rfl ha) rfl ?_
     refine G.gd rfl rfl ?_
     refine G.callP (v := .int .u8 (hexN a : Int)) Try.call60 rfl rfl (fun w1 hw1 => f60_any w1 a) ?_
     refine G.vg rfl rfl (V.gt rfl rfl) rfl ?_
     refine G.m4 ?_
     refine G.m1 ?_
     refine G.bc 40 rfl (fun h40 => ?_) (fun h40 => ?_)
     ·refine G.s1 ?_
      refine G.s1 ?_
      refine G.s1 ?_
      refine G.s1 ?_
      refine G.s1 ?_
      refine G.s1 ?_
      refine G.m3 ?_
      refine G.nil ?_
      refine J10 _ _ ⟨.cons rfl (.cons rfl (.cons rfl (.cons (rfl.trans (congrArg (fun b => some (Value.bool b)) ?_)) .nil))), rfl⟩
      refine dec_t fun ⟨a', b', h1, _, h2, _⟩ => ?_
      rw [ha] at h1
      cases h1
      have := of_decide_eq_true h40
      omega
     ·refine G.m5 ?_
      refine G.m5 ?_
      refine G.vg rfl rfl (V.addI (r := ((i + 2 : Nat) : Int)) rfl rfl (by omega) (by omega) (by omega)) rfl ?_
      refine G.vg rfl rfl (V.idx (i := i + 2) (b := b) Try.underlying9 rfl rfl hb) rfl ?_
      refine G.gd rfl rfl ?_
      refine G.callP (v := .int .u8 (hexN b : Int)) Try.call60 rfl rfl (fun w1 hw1 => f60_any w1 b) ?_
      refine G.vg rfl rfl (V.gt rfl rfl) rfl ?_
      refine G.m4 ?_
      refine G.nil ?_
      refine J10 _ _ ⟨.cons rfl (.cons rfl (.cons rfl (.cons (rfl.trans (congrArg (fun b => some (Value.bool b)) ?_)) .nil))), rfl⟩
      refine dec_d ⟨fun h ⟨a', b', _, h1, _, h2⟩ => ?_, fun h => Classical.byContradiction fun hn => h ⟨a, b, ha, hb, by have := of_decide_eq_false h40; omega, by omega⟩⟩
      rw [hb] at h1
      cases h1
      omega
   rintro fr' Hs ⟨hs10, rfl⟩
   refine GC.weak hs10 ?_
   clear hs10
   refine GC.cond rfl (fun h47 => ?_) (fun h47 => ?_)
   ·refine GC.seq ?_
    have hbad := dec_true.1 h47
    have hnone : L = none := by
     rw [hun]
     cases h1 : s.drop (i + 1) with
     | nil => rfl
     | cons a r =>
      cases r with
      | nil => rfl
      | cons b r =>
       have ha : s[i + 1]? = some a := by
        have e : (s.drop (i + 1))[0]? = some a := by rw [h1]; rfl
        rw [List.getElem?_drop] at e
        simpa using e
       have hb : s[i + 2]? = some b := by
        have e : (s.drop (i + 1))[1]? = some b := by rw [h1]; rfl
        rw [List.getElem?_drop] at e
        exact e
       dsimp only
       cases h2 : hexV a with
       | none => rfl
       | some xa =>
        cases h3 : hexV b with
        | none => rfl
        | some xb => exact absurd ⟨a, b, ha, hb, by unfold hexN; rw [h2]; have := hexV_lt h2; simp; omega, by unfold hexN; rw [h3]; have := hexV_lt h3; simp; omega⟩ hbad
    refine GC.reg ?_
    refine G.m1 ?_
    refine G.m2 ?_
    refine G.nil ?_
    refine GC.ret1 rfl rfl fun w' hw' => ⟨?_, hw'.sub (List.nil_sublist _)⟩
    rw [hnone]; rfl
   refine GC.skip ?_
   refine GC.seq ?_
   obtain ⟨a, b, ha, hb, h2, h3⟩ := Classical.byContradiction (dec_false.1 h47)
   have hil2 := (List.getElem?_eq_some_iff.1 hb).1
   rw [drop_cons ha, drop_cons hb] at hun
   dsimp only at hun
   have e1 := hexN_some h2
   have e2 := hexN_some h3
   obtain ⟨xa, hxa⟩ : ∃ xa, hexN a = xa := ⟨_, rfl⟩
   obtain ⟨xb, hxb⟩ : ∃ xb, hexN b = xb := ⟨_, rfl⟩
   rw [hxa] at e1
   rw [hxb] at e2
   rw [e1, e2] at hun
   dsimp only at hun
   have hxa16 := hexV_lt e1
   have hxb16 := hexV_lt e2
   have hown3 : ∀ sv2 Hs2, Own 5 1 sv2 (out.length + 1) (bC out ++ [.int .u8 ((xa * 16 + xb : Nat) : Int)]) Hs2 → Own 5 1 sv2 (out ++ [UInt8.ofNat (xa * 16 + xb)]).length (bC (out ++ [UInt8.ofNat (xa * 16 + xb)])) Hs2 := fun sv2 Hs2 hown2 => by
    have e3 : (bC [UInt8.ofNat (xa * 16 + xb)]) = [.int .u8 ((xa * 16 + xb : Nat) : Int)] := by
     have : (UInt8.ofNat (xa * 16 + xb)).toNat = xa * 16 + xb := by simp; omega
     simp only [bC, Lib.byteCells, List.map_cons, List.map_nil, this]
    rw [List.length_append, bC_app, e3]
    exact hown2
   refine GC.join (fun fr' H' => ∃ sv2 Hs2, Own 5 1 sv2 (out ++ [UInt8.ofNat (xa * 16 + xb)]).length (bC (out ++ [UInt8.ofNat (xa * 16 + xb)])) Hs2 ∧ Sub [(0, S s), (3, sv2), (4, I (i : Nat))] fr' ∧ Hs2 = H') (fun J12 => ?_) ?_
   ·refine GC.regM 14 (fun _ => True) mixed (by kernel_rfl) ?_
    refine GM.p 0 rfl (by kernel_rfl) (by kernel_rfl) (fun _ _ => trivial) (fun _ => V.mv rfl) rfl ?_
    refine GM.p 1 rfl (by kernel_rfl) (by kernel_rfl) (fun _ _ => trivial) (fun _ => V.mv rfl) rfl ?_
    refine GM.p 2 rfl (by kernel_rfl) (by kernel_rfl) (fun _ _ => trivial) (fun _ => V.mv rfl) rfl ?_
    refine GM.p 3 rfl (by kernel_rfl) (by kernel_rfl) (fun _ _ => trivial) (fun _ => V.addI (r := ((i + 1 : Nat) : Int)) rfl rfl (by omega) (by omega) (by omega)) rfl ?_
    refine GM.p 4 rfl (by kernel_rfl) (by kernel_rfl) (fun _ _ => trivial) (fun _ => V.idx (i := i + 1) (b := a) Try.underlying9 rfl rfl ha) rfl ?_
    refine GM.p 7 rfl (by kernel_rfl) (by kernel_rfl) (fun _ _ => trivial) (fun _ => V.mv rfl) rfl ?_
    refine GM.p 8 rfl (by kernel_rfl) (by kernel_rfl) (fun _ _ => trivial) (fun _ => V.mv rfl) rfl ?_
    refine GM.p 9 rfl (by kernel_rfl) (by kernel_rfl) (fun _ _ => trivial) (fun _ => V.addI (r := ((i + 2 : Nat) : Int)) rfl rfl (by omega) (by omega) (by omega)) rfl ?_
    refine GM.p 10 rfl (by kernel_rfl) (by kernel_rfl) (fun _ _ => trivial) (fun _ => V.idx (i := i + 2) (b := b) Try.underlying9 rfl rfl hb) rfl ?_
    refine GM.one 5 rfl (by kernel_rfl) ?_
    refine GMB.callP (v := .int .u8 (xa : Int)) Try.call60 rfl rfl (fun _ _ => trivial) (fun w1 hw1 => by rw [← hxa]; exact f60_any w1 a) ?_
    refine GM.p 6 rfl (by kernel_rfl) (by kernel_rfl) (fun _ _ => trivial) (fun _ => V.shl4 hxa16 rfl) rfl ?_
    refine GM.one 11 rfl (by kernel_rfl) ?_
    refine GMB.callP (v := .int .u8 (xb : Int)) Try.call60 rfl rfl (fun _ _ => trivial) (fun w1 hw1 => by rw [← hxb]; exact f60_any w1 b) ?_
    refine GM.p 12 rfl (by kernel_rfl) (by kernel_rfl) (fun _ _ => trivial) (fun _ => V.or4 hxa16 hxb16 rfl rfl) rfl ?_
    refine GM.one 13 rfl (by kernel_rfl) ?_
    refine GMB.bs (vl := [(0, .int .u8 ((xa * 16 + xb : Nat) : Int))]) (vs := [.int .u8 ((xa * 16 + xb : Nat) : Int)]) (BS.one Try.underlying68 Try.sizeOf5 Try.zeroValue5 rfl) rfl (fun _ _ => trivial) rfl (fun sb => ?_)
    refine GM.tl (by kernel_rfl) ?_
    refine G.app (i := Try.t5) (sz := 1) (by_ := 1) Try.underlying68 rfl rfl rfl rfl rfl rfl rfl hown (H' := [⟨sb, true, .row [.int .u8 ((xa * 16 + xb : Nat) : Int)] 5 (0, 0)⟩]) (List.perm_append_comm (l₁ := ([⟨sb, true, .row [.int .u8 ((xa * 16 + xb : Nat) : Int)] 5 (0, 0)⟩] : SH))) (src_row (vs := [.int .u8 ((xa * 16 + xb : Nat) : Int)]) (r := []) (.head _)) rfl (by simp [Value.oneCell']) (by omega) (by omega) (by omega) rfl (fun sv2 Hs2 hown2 => ?_)
    refine G.m2 ?_
    refine G.nil ?_
    refine GC.turn (H' := Hs2) (fun w1 h1 => h1.sub (List.sublist_cons_self _ _)) ?_
    exact J12 _ _ ⟨sv2, Hs2, hown3 sv2 Hs2 hown2, .of rfl, rfl⟩
   rintro fr' H' ⟨sv2, Hs2, hown3, hs12, rfl⟩
   refine GC.weak hs12 ?_
   clear hs12
   refine GC.reg ?_
   refine G.m1 ?_
   refine G.v (V.addI (r := ((i + 2 : Nat) : Int)) rfl rfl (by omega) (by omega) (by omega)) rfl ?_
   refine G.m2 ?_
   refine G.nil ?_
   refine GC.inBlock ?_
   refine GC.inBlock ?_
   refine GC.reg ?_
   refine G.m1 ?_
   refine G.v (V.addI (r := ((i + 3 : Nat) : Int)) rfl rfl (by omega) (by omega) (by omega)) rfl ?_
   refine G.m2 ?_
   refine G.nil ?_
   exact ih (N - 3) _ _ (by omega) ⟨i + 3, out ++ [UInt8.ofNat (xa * 16 + xb)], sv2, Hs2, g, by omega, hown3, hun, by omega, by simp; omega, .of rfl, rfl⟩
  have hx37 : x ≠ 37 := fun e => h25 (by rw [e]; rfl)
  rw [if_pos hx37] at hun
  refine GC.reg ?_
  refine G.m1 ?_
  refine G.m1 ?_
  refine G.m1 ?_
  refine G.v (V.idx (i := i) (b := x) Try.underlying9 rfl rfl hx) rfl ?_
  refine G.bs (BS.one Try.underlying68 Try.sizeOf5 Try.zeroValue5 (v := .int .u8 (x.toNat : Int)) rfl) rfl rfl (fun sb hsb => ?_)
  refine G.app (i := Try.t5) (sz := 1) (by_ := 1) Try.underlying68 rfl rfl rfl rfl rfl rfl rfl hown (H' := [⟨sb, true, .row [.int .u8 (x.toNat : Int)] 5 (0, 0)⟩]) (List.perm_append_comm (l₁ := ([⟨sb, true, .row [.int .u8 (x.toNat : Int)] 5 (0, 0)⟩] : SH))) (src_row (vs := [.int .u8 (x.toNat : Int)]) (r := []) (.head _)) rfl (by simp [Value.oneCell']) (by omega) (by omega) (by omega) rfl (fun sv2 Hs2 hown2 => ?_)
  refine G.m2 ?_
  refine G.nil ?_
  refine GC.turn (H' := Hs2) (fun w1 h1 => h1.sub (List.sublist_cons_self _ _)) ?_
  have hown3 : Own 5 1 sv2 (out ++ [x]).length (bC (out ++ [x])) Hs2 := by
   rw [List.length_append, bC_app]
   exact hown2
  refine GC.inBlock ?_
  refine GC.inBlock ?_
  refine GC.reg ?_
  refine G.m1 ?_
  refine G.v (V.addI (r := ((i + 1 : Nat) : Int)) rfl rfl (by omega) (by omega) (by omega)) rfl ?_
  refine G.m2 ?_
  refine G.nil ?_
  exact ih (N - 1) _ _ (by omega) ⟨i + 1, out ++ [x], sv2, Hs2, g, by omega, hown3, hun, by omega, by simp; omega, .of rfl, rfl⟩
 refine GC.exit rfl ?_
 refine GC.seq ?_
 refine GC.reg ?_
 refine G.m1 ?_
 refine G.v (V.cvOwn Try.underlying68 Try.underlying5 Try.underlying9 rfl hown (by simp)) rfl ?_
 refine G.m2 ?_
 refine G.nil ?_
 have hie : i = s.length := by omega
 refine GC.ret1 rfl rfl fun w' hw' => ⟨?_, hw'.sub (List.nil_sublist _)⟩
 rw [hun, hie, List.drop_length]; rfl
end Go.Proofs

/- FnGinUnescape. Printed by wip/mk_gs8x.py. -/
set_option maxRecDepth 20000
namespace Go.Proofs
open Go Bw
open Gt
theorem ne32_false {P : Program} {c : Cx} {n : Nat} {op : Op} {ty : TypeId} {fr : SF} {H : SH} {a b d e : List UInt8} (h : a = d) (h2 : b = e) (hv : Val P c n op ty fr H (.bool (!(decide (a = d) && decide (b = e))))) : Val P c n op ty fr H (.bool false) := by rw [decide_eq_true h, decide_eq_true h2] at hv; exact hv
/-- what is found with the wish to unescape, and without -/
theorem unesc_found {l : List (List Prt)} {path : List UInt8} {r r2 : Res} (h : FoundN l path (unV false) r) (h2 : FoundN l path (unV true) r2) : r.h = r2.h ∧ r.full = r2.full ∧ (r.h.getD 0 ≠ 0 → r2.ps = U (unV true) r.ps) := by
 rcases h with ⟨g1, g2, g3⟩ | ⟨m, a, v, g1, g2, g3, g4, g5, g6⟩
 ·rcases h2 with ⟨q1, q2, q3⟩ | ⟨m2, b, v2, q1, _⟩
  ·exact ⟨by rw [g2, q2], by rw [g3, q3], fun hh => absurd (by rw [g2]; rfl) hh⟩
  ·rw [g1] at q1; cases q1
 ·rcases h2 with ⟨q1, _⟩ | ⟨m2, b, v2, q1, q2, q3, q4, q5, q6⟩
  ·rw [g1] at q1; cases q1
  ·rw [g1] at q1
   cases q1
   rw [g2] at q2
   cases q2
   rw [g3] at q3
   cases q3
   exact ⟨by rw [g4, q4], by rw [g5, q5], fun _ => by rw [q6, g6, U_id]⟩
theorem flatP_two {ps : List (List UInt8 × List UInt8)} {j : Nat} {x : List UInt8 × List UInt8} (h : ps[j]? = some x) (sp : List Value) (k : Nat) (v : Value) (hk : [S x.1, S x.2][k]? = some v) : (flatP ps ++ sp)[0 + j * 2 + k]? = some v := by
 have h1 := flatP_get1 h
 have e : (flatP ps)[j * 2 + k]? = some v := by
  match k, hk with
  | 0, hk => cases hk; exact h1.1
  | 1, hk => cases hk; exact h1.2
  | k + 2, hk => simp at hk
 rw [Nat.zero_add, List.getElem?_append_left (List.getElem?_eq_some_iff.1 e).1]; exact e
theorem MT_len : ∀ (s : List Tok) (p : List UInt8) (v : Vs), MT s p = some v → ∀ x ∈ v, x.2.length ≤ p.length + 1
 | [], p, v, h, x, hx => by
  have h' : (if p = [] then some [] else none) = some v := h
  split at h'
  ·cases h'; cases hx
  ·cases h'
 | .b c :: s, p, v, h, x, hx => by
  have h' : (if p.head? = some c then MT s (p.drop 1) else none) = some v := h
  by_cases hc : p.head? = some c
  ·rw [if_pos hc] at h'
   have := MT_len s _ _ h' x hx
   rw [List.length_drop] at this
   omega
  ·rw [if_neg hc] at h'; cases h'
 | .P n :: s, p, v, h, x, hx => by
  have h' : (if sl p = 0 then none else (MT s (p.drop (sl p))).map ((n, p.take (sl p)) :: ·)) = some v := h
  by_cases hc : sl p = 0
  ·rw [if_pos hc] at h'; cases h'
  ·rw [if_neg hc] at h'
   obtain ⟨v', h1, rfl⟩ := Option.map_eq_some_iff.1 h'
   rcases List.mem_cons.1 hx with rfl | hx
   ·show (p.take (sl p)).length ≤ _
    rw [List.length_take]; omega
   ·have := MT_len s _ _ h1 x hx
    rw [List.length_drop] at this
    omega
 | .A n :: s, p, v, h, x, hx => by
  have h' : some [(n, 47 :: p)] = some v := h
  cases h'
  rw [List.mem_singleton.1 hx]
  simp
theorem told_len {l : List (List Prt)} {path : List UInt8} {r : Res} (h : Told l false path r) (hcl : ∀ a ∈ l, Gt.Clean a) : ∀ x ∈ r.ps, r.h.getD 0 ≠ 0 → x.2.length ≤ path.length + 1 := fun x hx h0 => by
 rcases h.2.2.1 with ⟨i, a, v, h1, _, _, h4, h5⟩ | ⟨h1, _⟩
 ·rw [h5, U_id] at hx
  rw [(hcl a (List.mem_of_getElem? h1)).match] at h4
  exact MT_len _ _ _ h4 x hx
 ·rw [h1] at h0; exact absurd rfl h0
theorem f9_any (w : World) (l : List (List Prt)) (sv : Value) (hsv : Tbl w sv l) (path : List UInt8) : Calls Try.prog 9 #[sv, S path] w fun e w' => e = .returned (.bool true) ∧ HF w (fun _ => False) [] w' := by
 refine enter (fun _ => False) [] Try.func9 rfl Try.ntmps9 rfl rfl (HF.start w _) fun c hc => ?_
 subst hc
 refine GC.seq ?_
 refine GC.reg ?_
 refine G.m2 ?_
 refine G.nil ?_
 refine GC.seq ?_
 refine GC.seq ?_
 refine GC.join (fun fr' H' => Sub [(0, sv), (1, S path), (18, .bool (dec (¬ Fits4 l ∨ (2147483647 : Int) < (path.length : Int))))] fr' ∧ H' = []) (fun J1 => ?_) ?_
 ·refine GC.reg ?_
  refine G.m1 ?_
  refine G.callP (v := .bool (dec (Fits4 l))) Try.call17 rfl rfl (fun w1 hw1 => f17_any w1 l _ (hsv.old hw1)) ?_
  refine G.v (V.not rfl) rfl ?_
  refine G.m1 ?_
  refine G.bc 14 rfl (fun h14 => ?_) (fun h14 => ?_)
  ·refine G.s1 ?_
   refine G.s1 ?_
   refine G.s1 ?_
   refine G.m3 ?_
   refine G.nil ?_
   refine J1 _ _ ⟨.cons rfl (.cons rfl (.cons (rfl.trans (congrArg (fun b => some (Value.bool b)) ?_)) .nil)), rfl⟩
   exact dec_t (.inl (dec_false.1 (by simpa using h14)))
  ·refine G.m5 ?_
   refine G.vg rfl rfl (V.lenS Try.underlying9 rfl) rfl ?_
   refine G.vg rfl rfl (V.gt rfl rfl) rfl ?_
   refine G.m4 ?_
   refine G.nil ?_
   refine J1 _ _ ⟨.cons rfl (.cons rfl (.cons (rfl.trans (congrArg (fun b => some (Value.bool b)) ?_)) .nil)), rfl⟩
   exact dec_d ⟨.inr, fun h => h.resolve_left (fun h => h (dec_true.1 (by simpa using h14)))⟩
 rintro fr' H' ⟨hs1, rfl⟩
 refine GC.weak hs1 ?_
 clear hs1
 refine GC.cond rfl (fun h18 => ?_) (fun h18 => ?_)
 ·refine GC.seq ?_
  refine GC.reg ?_
  refine G.m2 ?_
  refine G.nil ?_
  exact GC.ret1 rfl rfl fun w' hw' => ⟨rfl, hw'.sub (List.nil_sublist _)⟩
 refine GC.skip ?_
 refine GC.seq ?_
 refine GC.seq ?_
 obtain ⟨h4, hpl⟩ : Fits4 l ∧ path.length ≤ 2147483647 := by
  have := dec_false.1 h18
  exact ⟨Classical.byContradiction fun h => this (.inl h), by omega⟩
 refine GC.join (fun fr' H' => Sub [(0, sv), (1, S path), (27, .bool (dec (¬ FitsN l path ∨ OpenN l path)))] fr' ∧ H' = []) (fun J3 => ?_) ?_
 ·refine GC.reg ?_
  refine G.m1 ?_
  refine G.m1 ?_
  refine G.callP (v := .bool (dec (FitsN l path))) Try.call19 rfl rfl (fun w1 hw1 => f19_any w1 l _ (hsv.old hw1) h4 path (by omega)) ?_
  refine G.v (V.not rfl) rfl ?_
  refine G.m1 ?_
  refine G.bc 23 rfl (fun h23 => ?_) (fun h23 => ?_)
  ·refine G.s1 ?_
   refine G.s1 ?_
   refine G.s1 ?_
   refine G.m3 ?_
   refine G.nil ?_
   refine J3 _ _ ⟨.cons rfl (.cons rfl (.cons (rfl.trans (congrArg (fun b => some (Value.bool b)) ?_)) .nil)), rfl⟩
   exact dec_t (.inl (dec_false.1 (by simpa using h23)))
  ·refine G.m5 ?_
   refine G.m5 ?_
   have hft : FitsN l path := dec_true.1 (by simpa using h23)
   refine G.gd rfl rfl ?_
   refine G.callP (v := .bool (dec (OpenN l path))) Try.call30 rfl rfl (fun w1 hw1 => f30_any w1 l _ (hsv.old hw1) hft.2.1.clean (by have := hft.1; omega) path (by have := hft.2.2.2.2; omega)) ?_
   refine G.m4 ?_
   refine G.nil ?_
   refine J3 _ _ ⟨.cons rfl (.cons rfl (.cons (rfl.trans (congrArg (fun b => some (Value.bool b)) ?_)) .nil)), rfl⟩
   exact dec_c ⟨.inr, fun h => h.resolve_left (fun h => h (dec_true.1 (by simpa using h23)))⟩
 rintro fr' H' ⟨hs3, rfl⟩
 refine GC.weak hs3 ?_
 clear hs3
 refine GC.cond rfl (fun h27 => ?_) (fun h27 => ?_)
 ·refine GC.seq ?_
  refine GC.reg ?_
  refine G.callP (v := .bool true) Try.call14 rfl rfl (fun w1 _ => f14_any w1) ?_
  refine G.m2 ?_
  refine G.nil ?_
  exact GC.ret1 rfl rfl fun w' hw' => ⟨rfl, hw'.sub (List.nil_sublist _)⟩
 refine GC.skip ?_
 refine GC.seq ?_
 obtain ⟨hft, hno⟩ : FitsN l path ∧ ¬ OpenN l path := by
  have := dec_false.1 h27
  exact ⟨Classical.byContradiction fun h => this (.inl h), fun h => this (.inr h)⟩
 have hcl := hft.2.1.clean
 have hbd : ∀ r ∈ l, (rtT r).length ≤ 1000000 ∧ r.length ≤ 1000000 := fun r hr => ⟨Nat.le_trans (hcl r hr).txt.1 (by omega), (clean_len (hcl r hr)).2⟩
 have h30 := hft.1
 refine GC.reg ?_
 refine G.m1 ?_
 refine G.callW (fun v H2 => ∃ Hk, Own 9 1 v l.length ((l.map rtT).map S) Hk ∧ H2 = Hk ++ []) Try.call23 rfl rfl (fun w1 hw1 => ?_) ?_
 ·refine (f23_any w1 l _ (hsv.old hw1) hbd (by omega)).mono fun e w' ⟨kv, Hs, h1, h2, h3⟩ => ?_
  exact ⟨_, _, h1, hw1.after0 h3 h2.w, Hs, h2, rfl⟩
 rintro tv H2 ⟨Hs, hot, rfl⟩
 refine G.m1 ?_
 refine G.bs (BS.one Try.underlying26 Try.sizeOf9 Try.zeroValue9 (v := S path) rfl) rfl rfl (fun qb hqb => ?_)
 refine G.callW (fun v H2 => ∃ r fb cap spare pa Ha, v = .tuple #[.slice (some ⟨fb, 0, none⟩) 1 cap, .bool true] ∧ Told l false path r ∧ Own 32 2 pa r.ps.length (flatP r.ps) Ha ∧ H2 = (⟨fb, true, .row (fndV r pa ++ spare) 30 (0, 0)⟩ :: Ha) ++ (⟨qb, true, .row [S path] 9 (0, 0)⟩ :: (Hs ++ []))) Try.call15 rfl rfl (fun w1 hw1 => ?_) ?_
 ·refine (f15_fit1 w1 l _ path hft (hot.txts (by simp) hw1 (fun e he => List.mem_cons_of_mem _ (List.mem_append_left _ he))) _ (Txts.row (l := [path]) (z := []) (e := 9) (wf := true) (fz := (0, 0)) hw1 (.head _)) false).mono fun e w' ⟨r, fb, cap, spare, pa, Ha, h1, h2, h3, h4⟩ => ?_
  exact ⟨_, _, h2, hw1.after0 h4 (fun e0 he0 => by
   rcases List.mem_cons.1 he0 with rfl | he0
   ·rfl
   ·exact h3.w e0 he0), r, fb, cap, spare, pa, Ha, rfl, h1, h3, rfl⟩
 rintro v H2 ⟨r, fb, cap, spare, pa, Ha, rfl, ht, ho, rfl⟩
 refine G.m1 ?_
 refine G.v (V.ex rfl rfl) rfl ?_
 refine G.v (V.ex rfl rfl) rfl ?_
 refine G.m2 ?_
 refine G.m2 ?_
 refine G.nil ?_
 refine GC.seq ?_
 refine GC.reg ?_
 refine G.m1 ?_
 refine G.callW (fun v H2 => ∃ Hk, Own 9 1 v l.length ((l.map rtT).map S) Hk ∧ H2 = Hk ++ ((⟨fb, true, .row (fndV r pa ++ spare) 30 (0, 0)⟩ :: Ha) ++ (⟨qb, true, .row [S path] 9 (0, 0)⟩ :: (Hs ++ [])))) Try.call23 rfl rfl (fun w1 hw1 => ?_) ?_
 ·refine (f23_any w1 l _ (hsv.old hw1) hbd (by omega)).mono fun e w' ⟨kv, Hs, h1, h2, h3⟩ => ?_
  exact ⟨_, _, h1, hw1.after0 h3 h2.w, Hs, h2, rfl⟩
 rintro tv2 H2 ⟨Hs2, hot2, rfl⟩
 refine G.m1 ?_
 refine G.bs (BS.one Try.underlying26 Try.sizeOf9 Try.zeroValue9 (v := S path) rfl) rfl rfl (fun qb2 hqb2 => ?_)
 refine G.callW (fun v H2 => ∃ r2 fb2 cap2 spare2 pa2 Ha2, v = .tuple #[.slice (some ⟨fb2, 0, none⟩) 1 cap2, .bool true] ∧ Told l true path r2 ∧ Own 32 2 pa2 r2.ps.length (flatP r2.ps) Ha2 ∧ H2 = (⟨fb2, true, .row (fndV r2 pa2 ++ spare2) 30 (0, 0)⟩ :: Ha2) ++ (⟨qb2, true, .row [S path] 9 (0, 0)⟩ :: (Hs2 ++ ((⟨fb, true, .row (fndV r pa ++ spare) 30 (0, 0)⟩ :: Ha) ++ (⟨qb, true, .row [S path] 9 (0, 0)⟩ :: (Hs ++ [])))))) Try.call15 rfl rfl (fun w1 hw1 => ?_) ?_
 ·refine (f15_fit1 w1 l _ path hft (hot2.txts (by simp) hw1 (fun e he => List.mem_cons_of_mem _ (List.mem_append_left _ he))) _ (Txts.row (l := [path]) (z := []) (e := 9) (wf := true) (fz := (0, 0)) hw1 (.head _)) true).mono fun e w' ⟨r2, fb2, cap2, spare2, pa2, Ha2, h1, h2, h3, h4⟩ => ?_
  exact ⟨_, _, h2, hw1.after0 h4 (fun e0 he0 => by
   rcases List.mem_cons.1 he0 with rfl | he0
   ·rfl
   ·exact h3.w e0 he0), r2, fb2, cap2, spare2, pa2, Ha2, rfl, h1, h3, rfl⟩
 rintro v H2 ⟨r2, fb2, cap2, spare2, pa2, Ha2, rfl, ht2, ho2, rfl⟩
 refine G.m1 ?_
 refine G.v (V.ex rfl rfl) rfl ?_
 refine G.v (V.ex rfl rfl) rfl ?_
 refine G.m2 ?_
 refine G.m2 ?_
 refine G.nil ?_
 obtain ⟨hrh, hful, hpar⟩ := unesc_found (ht.2.2.2 hno) (ht2.2.2.2 hno)
 obtain ⟨pad, pcp, rfl⟩ := own_slice ho
 obtain ⟨pad2, pcp2, rfl⟩ := own_slice ho2
 obtain ⟨SW, hSW⟩ : ∃ SW : World → Prop, SW = fun w1 => (∀ (j : Nat) v, (fndV r (.slice pad r.ps.length pcp))[j]? = some v → w1.cell? ⟨fb, 0 + 0 * 4 + j, none⟩ = some v) ∧ ∀ (j : Nat) v, (fndV r2 (.slice pad2 r2.ps.length pcp2))[j]? = some v → w1.cell? ⟨fb2, 0 + 0 * 4 + j, none⟩ = some v := ⟨_, rfl⟩
 have hS : ∀ (H' : SH), ⟨fb, true, .row (fndV r (.slice pad r.ps.length pcp) ++ spare) 30 (0, 0)⟩ ∈ H' → ⟨fb2, true, .row (fndV r2 (.slice pad2 r2.ps.length pcp2) ++ spare2) 30 (0, 0)⟩ ∈ H' → ∀ w1, HF w (fun _ => False) H' w1 → SW w1 := fun H' hm hm2 w1 h1 => by
  rw [hSW]
  exact ⟨cells_of h1 (0 + 0 * 4) _ hm (fun j v hj => fnd_at r _ spare j v hj), cells_of h1 (0 + 0 * 4) _ hm2 (fun j v hj => fnd_at r2 _ spare2 j v hj)⟩
 refine GC.seq ?_
 refine GC.seq ?_
 refine GC.regA (SW) mixed ?_
 refine GA.p 0 rfl (by kernel_rfl) (hS _ (List.mem_append_right _ (.tail _ (List.mem_append_right _ (.head _)))) (.head _)) (fun _ => V.mv rfl) rfl ?_
 refine GA.p 1 rfl (by kernel_rfl) (hS _ (List.mem_append_right _ (.tail _ (List.mem_append_right _ (.head _)))) (.head _)) (fun _ => V.not rfl) rfl ?_
 refine GA.p 2 rfl (by kernel_rfl) (hS _ (List.mem_append_right _ (.tail _ (List.mem_append_right _ (.head _)))) (.head _)) (fun _ => V.mv rfl) rfl ?_
 refine GA.pg 3 rfl rfl rfl (by kernel_rfl) (hS _ (List.mem_append_right _ (.tail _ (List.mem_append_right _ (.head _)))) (.head _)) (fun _ => V.mv rfl) rfl ?_
 refine GA.pg 4 rfl rfl rfl (by kernel_rfl) (hS _ (List.mem_append_right _ (.tail _ (List.mem_append_right _ (.head _)))) (.head _)) (fun _ => V.not rfl) rfl ?_
 refine GA.p 5 rfl (by kernel_rfl) (hS _ (List.mem_append_right _ (.tail _ (List.mem_append_right _ (.head _)))) (.head _)) (fun _ => V.pickF rfl rfl) rfl ?_
 refine GA.p 6 rfl (by kernel_rfl) (hS _ (List.mem_append_right _ (.tail _ (List.mem_append_right _ (.head _)))) (.head _)) (fun _ => V.mv rfl) rfl ?_
 refine GA.pg 7 rfl rfl rfl (by kernel_rfl) (hS _ (List.mem_append_right _ (.tail _ (List.mem_append_right _ (.head _)))) (.head _)) (fun _ => V.mv rfl) rfl ?_
 refine GA.pg 8 rfl rfl rfl (by kernel_rfl) (hS _ (List.mem_append_right _ (.tail _ (List.mem_append_right _ (.head _)))) (.head _)) (fun _ => V.lenL Try.underlying23 rfl) rfl ?_
 refine GA.pg 9 rfl rfl rfl (by kernel_rfl) (hS _ (List.mem_append_right _ (.tail _ (List.mem_append_right _ (.head _)))) (.head _)) (fun _ => V.neI rfl rfl) rfl ?_
 refine GA.p 10 rfl (by kernel_rfl) (hS _ (List.mem_append_right _ (.tail _ (List.mem_append_right _ (.head _)))) (.head _)) (fun _ => V.pickF rfl rfl) rfl ?_
 refine GA.p 11 rfl (by kernel_rfl) (hS _ (List.mem_append_right _ (.tail _ (List.mem_append_right _ (.head _)))) (.head _)) (fun _ => V.mv rfl) rfl ?_
 refine GA.pg 12 rfl rfl rfl (by kernel_rfl) (hS _ (List.mem_append_right _ (.tail _ (List.mem_append_right _ (.head _)))) (.head _)) (fun _ => V.mv rfl) rfl ?_
 refine GA.pg 13 rfl rfl rfl (by kernel_rfl) (hS _ (List.mem_append_right _ (.tail _ (List.mem_append_right _ (.head _)))) (.head _)) (fun _ => V.lenL Try.underlying23 rfl) rfl ?_
 refine GA.pg 14 rfl rfl rfl (by kernel_rfl) (hS _ (List.mem_append_right _ (.tail _ (List.mem_append_right _ (.head _)))) (.head _)) (fun _ => V.neI rfl rfl) rfl ?_
 refine GA.p 15 rfl (by kernel_rfl) (hS _ (List.mem_append_right _ (.tail _ (List.mem_append_right _ (.head _)))) (.head _)) (fun _ => V.pickF rfl rfl) rfl ?_
 refine GA.p 16 rfl (by kernel_rfl) (hS _ (List.mem_append_right _ (.tail _ (List.mem_append_right _ (.head _)))) (.head _)) (fun _ => V.mv rfl) rfl ?_
 refine GA.pg 17 rfl rfl rfl (by kernel_rfl) (hS _ (List.mem_append_right _ (.tail _ (List.mem_append_right _ (.head _)))) (.head _)) (fun _ => V.mv rfl) rfl ?_
 refine GA.pg 18 rfl rfl rfl (by kernel_rfl) (hS _ (List.mem_append_right _ (.tail _ (List.mem_append_right _ (.head _)))) (.head _)) (fun _ => V.ia (i := 0) Try.underlying23 Try.sizeOf30 rfl rfl (by decide)) rfl ?_
 refine GA.pg 19 rfl rfl rfl (by kernel_rfl) (hS _ (List.mem_append_right _ (.tail _ (List.mem_append_right _ (.head _)))) (.head _)) (fun _ => V.fa F30_0 rfl) rfl ?_
 refine GA.ldg  20 rfl rfl rfl (by kernel_rfl) (hS _ (List.mem_append_right _ (.tail _ (List.mem_append_right _ (.head _)))) (.head _)) Try.isAgg3 rfl (fun w1 h1 => by rw [hSW] at h1; exact h1.1 0 _ rfl) rfl ?_
 refine GA.pg 21 rfl rfl rfl (by kernel_rfl) (hS _ (List.mem_append_right _ (.tail _ (List.mem_append_right _ (.head _)))) (.head _)) (fun _ => V.mv rfl) rfl ?_
 refine GA.pg 22 rfl rfl rfl (by kernel_rfl) (hS _ (List.mem_append_right _ (.tail _ (List.mem_append_right _ (.head _)))) (.head _)) (fun _ => V.ia (i := 0) Try.underlying23 Try.sizeOf30 rfl rfl (by decide)) rfl ?_
 refine GA.pg 23 rfl rfl rfl (by kernel_rfl) (hS _ (List.mem_append_right _ (.tail _ (List.mem_append_right _ (.head _)))) (.head _)) (fun _ => V.fa F30_0 rfl) rfl ?_
 refine GA.ldg  24 rfl rfl rfl (by kernel_rfl) (hS _ (List.mem_append_right _ (.tail _ (List.mem_append_right _ (.head _)))) (.head _)) Try.isAgg3 rfl (fun w1 h1 => by rw [hSW] at h1; exact h1.2 0 _ rfl) rfl ?_
 refine GA.pg 25 rfl rfl rfl (by kernel_rfl) (hS _ (List.mem_append_right _ (.tail _ (List.mem_append_right _ (.head _)))) (.head _)) (fun _ => neI_false (by rw [hrh]) (V.neI rfl rfl)) rfl ?_
 refine GA.p 26 rfl (by kernel_rfl) (hS _ (List.mem_append_right _ (.tail _ (List.mem_append_right _ (.head _)))) (.head _)) (fun _ => V.pickF rfl rfl) rfl ?_
 refine GA.p 27 rfl (by kernel_rfl) (hS _ (List.mem_append_right _ (.tail _ (List.mem_append_right _ (.head _)))) (.head _)) (fun _ => V.mv rfl) rfl ?_
 refine GA.pg 28 rfl rfl rfl (by kernel_rfl) (hS _ (List.mem_append_right _ (.tail _ (List.mem_append_right _ (.head _)))) (.head _)) (fun _ => V.mv rfl) rfl ?_
 refine GA.pg 29 rfl rfl rfl (by kernel_rfl) (hS _ (List.mem_append_right _ (.tail _ (List.mem_append_right _ (.head _)))) (.head _)) (fun _ => V.ia (i := 0) Try.underlying23 Try.sizeOf30 rfl rfl (by decide)) rfl ?_
 refine GA.pg 30 rfl rfl rfl (by kernel_rfl) (hS _ (List.mem_append_right _ (.tail _ (List.mem_append_right _ (.head _)))) (.head _)) (fun _ => V.fa F30_2 rfl) rfl ?_
 refine GA.ldg  31 rfl rfl rfl (by kernel_rfl) (hS _ (List.mem_append_right _ (.tail _ (List.mem_append_right _ (.head _)))) (.head _)) Try.isAgg9 rfl (fun w1 h1 => by rw [hSW] at h1; exact h1.1 2 _ rfl) rfl ?_
 refine GA.pg 32 rfl rfl rfl (by kernel_rfl) (hS _ (List.mem_append_right _ (.tail _ (List.mem_append_right _ (.head _)))) (.head _)) (fun _ => V.mv rfl) rfl ?_
 refine GA.pg 33 rfl rfl rfl (by kernel_rfl) (hS _ (List.mem_append_right _ (.tail _ (List.mem_append_right _ (.head _)))) (.head _)) (fun _ => V.ia (i := 0) Try.underlying23 Try.sizeOf30 rfl rfl (by decide)) rfl ?_
 refine GA.pg 34 rfl rfl rfl (by kernel_rfl) (hS _ (List.mem_append_right _ (.tail _ (List.mem_append_right _ (.head _)))) (.head _)) (fun _ => V.fa F30_2 rfl) rfl ?_
 refine GA.ldg  35 rfl rfl rfl (by kernel_rfl) (hS _ (List.mem_append_right _ (.tail _ (List.mem_append_right _ (.head _)))) (.head _)) Try.isAgg9 rfl (fun w1 h1 => by rw [hSW] at h1; exact h1.2 2 _ rfl) rfl ?_
 refine GA.pg 36 rfl rfl rfl (by kernel_rfl) (hS _ (List.mem_append_right _ (.tail _ (List.mem_append_right _ (.head _)))) (.head _)) (fun _ => neS_false hful (V.neS rfl rfl)) rfl ?_
 refine GA.p 37 rfl (by kernel_rfl) (hS _ (List.mem_append_right _ (.tail _ (List.mem_append_right _ (.head _)))) (.head _)) (fun _ => V.pickF rfl rfl) rfl ?_
 refine GA.done (by kernel_rfl) ?_
 refine GC.condF rfl ?_
 refine GC.skip ?_
 refine GC.seq ?_
 refine GC.seq ?_
 refine GC.reg ?_
 refine G.m1 ?_
 refine G.v (V.ia (i := 0) Try.underlying23 Try.sizeOf30 rfl rfl (by decide)) rfl ?_
 refine G.v (V.fa F30_0 rfl) rfl ?_
 refine G.v (V.ld (b := fb) (off := 0 + 0 * 4 + 0) (wf := true) (l := fndV r (.slice pad r.ps.length pcp) ++ spare) (T := 30) (fz := (0, 0)) (v := I (r.h.getD 0 : Nat)) Try.isAgg3 rfl (List.mem_append_right _ (.tail _ (List.mem_append_right _ (.head _)))) rfl) rfl ?_
 refine G.v (V.eqI rfl rfl) rfl ?_
 refine G.nil ?_
 refine GC.condD rfl (fun h87 => ?_) (fun h87 => ?_)
 ·refine GC.seq ?_
  refine GC.reg ?_
  refine G.callP (v := .bool true) Try.call14 rfl rfl (fun w1 _ => f14_any w1) ?_
  refine G.m2 ?_
  refine G.nil ?_
  exact GC.ret1 rfl rfl fun w' hw' => ⟨rfl, hw'.sub (List.nil_sublist _)⟩
 refine GC.skip ?_
 refine GC.seq ?_
 refine GC.seq ?_
 have hr0 : r.h.getD 0 ≠ 0 := fun h => by rw [h] at h87; exact h87 rfl
 have hps := hpar hr0
 have hpl2 : r.ps.length = r2.ps.length := by rw [hps, U_len]
 refine GC.regA (SW) mixed ?_
 refine GA.p 0 rfl (by kernel_rfl) (hS _ (List.mem_append_right _ (.tail _ (List.mem_append_right _ (.head _)))) (.head _)) (fun _ => V.mv rfl) rfl ?_
 refine GA.p 1 rfl (by kernel_rfl) (hS _ (List.mem_append_right _ (.tail _ (List.mem_append_right _ (.head _)))) (.head _)) (fun _ => V.ia (i := 0) Try.underlying23 Try.sizeOf30 rfl rfl (by decide)) rfl ?_
 refine GA.p 2 rfl (by kernel_rfl) (hS _ (List.mem_append_right _ (.tail _ (List.mem_append_right _ (.head _)))) (.head _)) (fun _ => V.fa F30_1 rfl) rfl ?_
 refine GA.ld  3 rfl (by kernel_rfl) (hS _ (List.mem_append_right _ (.tail _ (List.mem_append_right _ (.head _)))) (.head _)) Try.isAgg28 rfl (fun w1 h1 => by rw [hSW] at h1; exact h1.1 1 _ rfl) rfl ?_
 refine GA.p 4 rfl (by kernel_rfl) (hS _ (List.mem_append_right _ (.tail _ (List.mem_append_right _ (.head _)))) (.head _)) (fun _ => V.lenL Try.underlying28 rfl) rfl ?_
 refine GA.p 5 rfl (by kernel_rfl) (hS _ (List.mem_append_right _ (.tail _ (List.mem_append_right _ (.head _)))) (.head _)) (fun _ => V.mv rfl) rfl ?_
 refine GA.p 6 rfl (by kernel_rfl) (hS _ (List.mem_append_right _ (.tail _ (List.mem_append_right _ (.head _)))) (.head _)) (fun _ => V.ia (i := 0) Try.underlying23 Try.sizeOf30 rfl rfl (by decide)) rfl ?_
 refine GA.p 7 rfl (by kernel_rfl) (hS _ (List.mem_append_right _ (.tail _ (List.mem_append_right _ (.head _)))) (.head _)) (fun _ => V.fa F30_1 rfl) rfl ?_
 refine GA.ld  8 rfl (by kernel_rfl) (hS _ (List.mem_append_right _ (.tail _ (List.mem_append_right _ (.head _)))) (.head _)) Try.isAgg28 rfl (fun w1 h1 => by rw [hSW] at h1; exact h1.2 1 _ rfl) rfl ?_
 refine GA.p 9 rfl (by kernel_rfl) (hS _ (List.mem_append_right _ (.tail _ (List.mem_append_right _ (.head _)))) (.head _)) (fun _ => V.lenL Try.underlying28 rfl) rfl ?_
 refine GA.p 10 rfl (by kernel_rfl) (hS _ (List.mem_append_right _ (.tail _ (List.mem_append_right _ (.head _)))) (.head _)) (fun _ => neI_false (by rw [hpl2]) (V.neI rfl rfl)) rfl ?_
 refine GA.done (by kernel_rfl) ?_
 refine GC.condF rfl ?_
 refine GC.skip ?_
 refine GC.seq ?_
 refine GC.seq ?_
 refine GC.reg ?_
 refine G.m1 ?_
 refine G.v (V.ia (i := 0) Try.underlying23 Try.sizeOf30 rfl rfl (by decide)) rfl ?_
 refine G.v (V.fa F30_1 rfl) rfl ?_
 refine G.v (V.ld (b := fb) (off := 0 + 0 * 4 + 1) (wf := true) (l := fndV r (.slice pad r.ps.length pcp) ++ spare) (T := 30) (fz := (0, 0)) (v := (.slice pad r.ps.length pcp)) Try.isAgg28 rfl (List.mem_append_right _ (.tail _ (List.mem_append_right _ (.head _)))) rfl) rfl ?_
 refine G.v (V.lenL Try.underlying28 rfl) rfl ?_
 refine G.m1 ?_
 refine G.nil ?_
 refine GC.block ?_
 refine GC.loopJ (fun N fr' H' => ∃ i, i + N = r.ps.length ∧ Sub [(7, .slice (some ⟨fb2, 0, none⟩) 1 cap2), (103, (.slice pad r.ps.length pcp)), (104, I (r.ps.length : Nat)), (105, I (i : Nat))] fr' ∧ H' = (⟨fb2, true, .row (fndV r2 (.slice pad2 r2.ps.length pcp2) ++ spare2) 30 (0, 0)⟩ :: Ha2) ++ (⟨qb2, true, .row [S path] 9 (0, 0)⟩ :: (Hs2 ++ ((⟨fb, true, .row (fndV r (.slice pad r.ps.length pcp) ++ spare) 30 (0, 0)⟩ :: Ha) ++ (⟨qb, true, .row [S path] 9 (0, 0)⟩ :: (Hs ++ [])))))) r.ps.length
  ⟨0, by omega, .of rfl, rfl⟩ ?_
 rintro N fr' H' ⟨i, hi, hs2, rfl⟩ ih
 refine GC.weak hs2 ?_
 clear hs2
 refine GC.seq ?_
 refine GC.reg ?_
 refine G.v (V.lt rfl rfl) rfl ?_
 refine G.nil ?_
 refine GC.seq ?_
 refine GC.condD rfl (fun h106 => ?_) (fun h106 => ?_)
 ·refine GC.skip ?_
  refine GC.seq ?_
  refine GC.block ?_
  refine GC.seq ?_
  have hil : i < r.ps.length := by omega
  have h20k := ht.2.1
  obtain ⟨x, hx⟩ : ∃ x, r.ps[i]? = some x := ⟨_, List.getElem?_eq_getElem hil⟩
  have hx2 : r2.ps[i]? = some (x.1, unV true x.2) := by rw [hps]; unfold U; rw [List.getElem?_map, hx]; rfl
  have hsz : x.2.length ≤ 1000000 := by have := told_len ht hcl x (List.mem_of_getElem? hx) hr0; have := hft.2.2.2.2; omega
  obtain ⟨pb, pc, psp, e1, rfl⟩ := ho.at (i := i) (by omega)
  obtain ⟨pb2, pc2, psp2, e2, rfl⟩ := ho2.at (i := i) (by omega)
  cases e1
  cases e2
  refine GC.reg ?_
  refine G.m1 ?_
  refine G.v (V.ia (i := i) Try.underlying28 Try.sizeOf32 rfl rfl hil) rfl ?_
  refine G.v (V.ldA (b := pb) (off := 0 + i * 2) (s := 2) (wf := true) (l := flatP r.ps ++ psp) (T := 32) (fz := (0, 0)) (cs := [S x.1, S x.2]) Try.isAgg32 Try.sizeOf32 rfl (List.mem_append_right _ (.tail _ (List.mem_append_right _ (.tail _ (.head _))))) (flatP_at (k := x.1) (v := x.2) hx _) rfl) rfl ?_
  refine G.al Try.zeroValue32 rfl rfl (fun tb htb => ?_)
  refine G.m2 ?_
  refine G.stA (cs := [S x.1, S x.2]) Try.sizeOf32 rfl rfl (by simp [Value.oneCell']) .z rfl ?_
  refine G.nil ?_
  obtain ⟨SX, hSX⟩ : ∃ SX : World → Prop, SX = fun w1 => (∀ (j : Nat) v, (fndV r2 (.slice (some ⟨pb2, 0, none⟩) r2.ps.length pcp2))[j]? = some v → w1.cell? ⟨fb2, 0 + 0 * 4 + j, none⟩ = some v) ∧ (∀ (j : Nat) v, [S x.1, S (unV true x.2)][j]? = some v → w1.cell? ⟨pb2, 0 + i * 2 + j, none⟩ = some v) ∧ ∀ (j : Nat) v, [S x.1, S x.2][j]? = some v → w1.cell? ⟨tb, 0 + j, none⟩ = some v := ⟨_, rfl⟩
  have hSx : ∀ (H' : SH), ⟨fb2, true, .row (fndV r2 (.slice (some ⟨pb2, 0, none⟩) r2.ps.length pcp2) ++ spare2) 30 (0, 0)⟩ ∈ H' → ⟨pb2, true, .row (flatP r2.ps ++ psp2) 32 (0, 0)⟩ ∈ H' → ⟨tb, true, .row [S x.1, S x.2] 32 (0, 0)⟩ ∈ H' → ∀ w1, HF w (fun _ => False) H' w1 → SX w1 := fun H' hm hm2 hm3 w1 h1 => by
   rw [hSX]
   exact ⟨cells_of h1 (0 + 0 * 4) _ hm (fun j v hj => fnd_at r2 _ spare2 j v hj), cells_of h1 (0 + i * 2) _ hm2 (fun j v hj => flatP_two hx2 psp2 j v hj), cells_of h1 0 _ hm3 (fun j v hj => by rw [Nat.zero_add]; exact hj)⟩
  refine GC.seq ?_
  refine GC.regA (SX) mixed ?_
  refine GA.p 0 rfl (by kernel_rfl) (hSx _ (.tail _ (.head _)) (m2 (.head _)) (.head _)) (fun _ => V.mv rfl) rfl ?_
  refine GA.p 1 rfl (by kernel_rfl) (hSx _ (.tail _ (.head _)) (m2 (.head _)) (.head _)) (fun _ => V.ia (i := 0) Try.underlying23 Try.sizeOf30 rfl rfl (by decide)) rfl ?_
  refine GA.p 2 rfl (by kernel_rfl) (hSx _ (.tail _ (.head _)) (m2 (.head _)) (.head _)) (fun _ => V.fa F30_1 rfl) rfl ?_
  refine GA.ld  3 rfl (by kernel_rfl) (hSx _ (.tail _ (.head _)) (m2 (.head _)) (.head _)) Try.isAgg28 rfl (fun w1 h1 => by rw [hSX] at h1; exact h1.1 1 _ rfl) rfl ?_
  refine GA.p 4 rfl (by kernel_rfl) (hSx _ (.tail _ (.head _)) (m2 (.head _)) (.head _)) (fun _ => V.mv rfl) rfl ?_
  refine GA.p 5 rfl (by kernel_rfl) (hSx _ (.tail _ (.head _)) (m2 (.head _)) (.head _)) (fun _ => V.ia (i := i) Try.underlying28 Try.sizeOf32 rfl rfl (by omega)) rfl ?_
  refine GA.ldB (cs := [S x.1, S (unV true x.2)]) (s := 2) 6 rfl (by kernel_rfl) (hSx _ (.tail _ (.head _)) (m2 (.head _)) (.head _)) Try.isAgg32 Try.sizeOf32 rfl (fun w1 h1 => by rw [hSX] at h1; exact h1.2.1) rfl rfl ?_
  refine GA.p 7 rfl (by kernel_rfl) (hSx _ (.tail _ (.head _)) (m2 (.head _)) (.head _)) (fun _ => V.fa F32_0 rfl) rfl ?_
  refine GA.ld  8 rfl (by kernel_rfl) (hSx _ (.tail _ (.head _)) (m2 (.head _)) (.head _)) Try.isAgg9 rfl (fun w1 h1 => by rw [hSX] at h1; exact h1.2.2 0 _ rfl) rfl ?_
  refine GA.p 9 rfl (by kernel_rfl) (hSx _ (.tail _ (.head _)) (m2 (.head _)) (.head _)) (fun _ => V.fa F32_1 rfl) rfl ?_
  refine GA.ld  10 rfl (by kernel_rfl) (hSx _ (.tail _ (.head _)) (m2 (.head _)) (.head _)) Try.isAgg9 rfl (fun w1 h1 => by rw [hSX] at h1; exact h1.2.2 1 _ rfl) rfl ?_
  refine GA.one 11 rfl (by kernel_rfl) ?_
  refine GB.callP (v := S (unV true x.2)) Try.call35 rfl rfl (hSx _ (.tail _ (.head _)) (m2 (.head _)) (.head _)) (fun w1 hw1 => f35_any w1 x.2 hsz) ?_
  refine GA.p 12 rfl (by kernel_rfl) (hSx _ (.tail _ (.head _)) (m2 (.head _)) (.head _)) (fun _ => V.bd (vs := [(0, S x.1), (1, S (unV true x.2))]) rfl (fun w1 => bd_ip _ _ w1)) rfl ?_
  refine GA.p 13 rfl (by kernel_rfl) (hSx _ (.tail _ (.head _)) (m2 (.head _)) (.head _)) (fun _ => ne32_false rfl rfl (V.ne32 rfl rfl)) rfl ?_
  refine GA.done (by kernel_rfl) ?_
  refine GC.condF rfl ?_
  refine GC.skip ?_
  refine GC.inBlock ?_
  refine GC.reg ?_
  refine G.v (V.addI (r := ((i + 1 : Nat) : Int)) rfl rfl rfl (by omega) (by omega)) rfl ?_
  refine G.m1 ?_
  refine G.nil ?_
  refine GC.turn (H' := (⟨fb2, true, .row (fndV r2 (.slice (some ⟨pb2, 0, none⟩) r2.ps.length pcp2) ++ spare2) 30 (0, 0)⟩ :: [⟨pb2, true, .row (flatP r2.ps ++ psp2) 32 (0, 0)⟩]) ++ (⟨qb2, true, .row [S path] 9 (0, 0)⟩ :: (Hs2 ++ ((⟨fb, true, .row (fndV r (.slice (some ⟨pb, 0, none⟩) r.ps.length pcp) ++ spare) 30 (0, 0)⟩ :: [⟨pb, true, .row (flatP r.ps ++ psp) 32 (0, 0)⟩]) ++ (⟨qb, true, .row [S path] 9 (0, 0)⟩ :: (Hs ++ [])))))) (fun w1 h1 => h1.sub (List.sublist_cons_self _ _)) ?_
  exact ih (N - 1) _ _ (by omega) ⟨i + 1, by omega, .of rfl, rfl⟩
 refine GC.exit rfl ?_
 refine GC.seq ?_
 refine GC.reg ?_
 refine G.callP (v := .bool true) Try.call14 rfl rfl (fun w1 _ => f14_any w1) ?_
 refine G.m2 ?_
 refine G.nil ?_
 exact GC.ret1 rfl rfl fun w' hw' => ⟨rfl, hw'.sub (List.nil_sublist _)⟩
end Go.Proofs

/- A law's statement out of its walk: FnGinUnescape. -/
set_option maxRecDepth 100000
namespace Go.Proofs.Ytnopecnbpflodaa.ginunescape
open Go Bw Go.ChangeShapes Go.WideShapes Go.ChangeAt Go.RowKit
theorem contract (H : Type) (enc : TypeId × Value → H) (W : World) (base : Nat) (args : Array Value) (ds gs : List (DataW H)) (before : List MemPlace)
  (hval : ∀ (j : Nat) t v, Try.f9.params[j]? = some t → args[j]? = some v → Value.okWide Try.prog W .any base t v)
  (hW : DataW.Whole enc Try.prog Try.f9.params.toList Rows.fnGinUnescapeSpec.vars false W args.toList ds gs before) :
  Calls Try.prog 9 args W fun e W' => ∃ v, e = .returned v ∧ Rows.fnGinUnescapeSpec.post enc Try.prog Try.f9 false true false false W args v W' := by
 have hW' := hW
 obtain ⟨p, q, hA0, hV, rfl, hfz, hnd⟩ := hW
 have hA : DataW.TrodAll enc Try.prog W 0 (fun _ => true) true [34, 9] args.toList ds p := hA0
 obtain ⟨v0, vs0, d0, ds0, p0, q0, hargs, rfl, rfl, h0, r0⟩ := trodAll_cons hA
 obtain ⟨v1, vs_1, d1, ds1, p1, q1, rfl, rfl, rfl, h1, r1⟩ := trodAll_cons r0
 obtain ⟨rfl, rfl, rfl⟩ := trodAll_nil r1
 obtain rfl : args = #[v0, v1] := by cases args; simp_all
 obtain ⟨rs0, hrs0⟩ := open_parts2 (hval 0 34 v0 rfl rfl) h0
 obtain ⟨l1, rfl⟩ := open_str Try.underlying9 (hval 1 9 v1 rfl rfl)
 refine (f9_any W rs0 v0 hrs0 l1).mono fun e W' ⟨he, hf⟩ => ⟨_, he, ?_⟩
 refine post_law hW' rfl rfl ?_ (by kernel_rfl) (below_of hf)
 obtain ⟨rfl, rfl⟩ := trodVars_none hV
 rfl
theorem reads (os : Os) {H : Type} (enc : TypeId × Value → H) : ∃ places, DataW.whole enc Try.prog ((plainWorld os).forCall (fun _ _ => 0) ⟨#[], #[.slice none 0 0, .string ⟨#[]⟩], []⟩).memory Try.f9.params.toList Rows.fnGinUnescapeSpec.vars false (#[.slice none 0 0, .string ⟨#[]⟩] : Array Value).toList 8 = some ([.nil, .lit (.string [])], [], places) :=
 ⟨[], by kernel_rfl⟩
theorem lifted (os : Os) (started : os.Started) (H : Type) (enc : TypeId × Value → H) (F : Stop.Interp) :
  ReturnsInHanded {} Try.checked os 9 .any ((OpenSpec.ofChange Rows.fnGinUnescapeSpec).preRow enc Try.prog Try.f9 Rows.fnGinUnescapeRow.domain false Rows.fnGinUnescapeRow.laid) (((OpenSpec.ofChange Rows.fnGinUnescapeSpec).at F).post enc Try.prog Try.f9 false true false false) := by
 obtain ⟨places, hx⟩ := reads os enc
 refine returnsInHanded_of_row (C := Try.checked) (s := OpenSpec.ofChange Rows.fnGinUnescapeSpec) try_own started (by kernel_rfl) Try.func9
  (witness_row_at (enc := enc) (C := Try.checked) false (plainWorld os) #[.slice none 0 0, .string ⟨#[]⟩] rfl (by kernel_rfl) (by kernel_rfl) (by kernel_rfl)
   (OpenSpec.preRow_of_cond 8 hx (by kernel_rfl) (fun k hk => by cases hk) (by kernel_rfl) (laid_none _))) ?_
 intro W base args ds gs before hval hW _ _ _ hL _ _
 exact contract H enc W base args ds gs before hval hW
theorem said : Rows.FnGinUnescapeSaid :=
 OpenClaim.holds_of_cond 9 Try.f9 rfl rfl rfl rfl rfl rfl rfl ⟨rfl, rfl, rfl, rfl, rfl⟩ rfl rfl rfl rfl rfl (by kernel_rfl) Try.func9 (by kernel_rfl)
  (of_decide_eq_true (by kernel_rfl)) (by unfold Func.isWrapper; first | (rw [if_pos (by decide +kernel)]; kernel_rfl) | (rw [if_neg (by decide +kernel)]; exact ⟨rfl, rfl⟩))
  (fun os started H enc _ F => by rw [OpenClaim.pre_eq_preRow]; exact lifted os started H enc F)
end Go.Proofs.Ytnopecnbpflodaa.ginunescape
