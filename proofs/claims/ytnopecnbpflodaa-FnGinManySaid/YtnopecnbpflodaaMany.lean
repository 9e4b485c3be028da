/- The law FnGinMany holds for every input: many paths in a row, by one tree, find what each one finds alone. -/
import Derived.Test.YtnopecnbpflodaaSa
import Derived.Test.YtnopecnbpflodaaKa
import Derived.Test.YtnopecnbpflodaaRowb
/- FnGinFind. Printed by wip/mk_gs2x.py. -/
set_option maxRecDepth 20000
namespace Go.Proofs
open Go Bw
open Gt
theorem U_id (v : Vs) : U (unV false) v = v := by
 unfold U
 rw [show (fun x : List UInt8 × List UInt8 => (x.1, unV false x.2)) = id from funext fun x => rfl, List.map_id]
/-- what was found, and what there is to find -/
theorem same_found {l : List (List Prt)} {path : List UInt8} {r : Res} (h : FoundN l path (unV false) r) {k : Nat} {pv : Value} {full : List UInt8} {Hp : SH} (hb : BestAt l path (bestN l path l.length) k pv full Hp) :
  ∃ ps, ps.length ≤ 12 ∧ SameF (r.h.getD 0) k r.full full r.ps ps ∧ (Own 84 2 pv ps.length (flatP ps) Hp ∨ (pv = .slice none 0 0 ∧ ps = [])) := by
 rcases hb with ⟨h1, h2, h3, h4, _⟩ | ⟨m, a, ps, h1, h2, h3, h4, h5, h6, h7⟩
 ·refine ⟨[], by simp, ?_, .inr ⟨h3, rfl⟩⟩
  rcases h with ⟨_, g2, g3⟩ | ⟨m, a, v, g1, _⟩
  ·exact .inl ⟨by rw [g2]; rfl, h2, g3⟩
  ·rw [h1] at g1; cases g1
 ·refine ⟨ps, h6, ?_, .inl h7⟩
  rcases h with ⟨g1, _⟩ | ⟨m', a', v, g1, g2, g3, g4, g5, g6⟩
  ·rw [h1] at g1; cases g1
  ·rw [h1] at g1
   cases g1
   rw [h3] at g2
   cases g2
   rw [h5] at g3
   cases g3
   exact .inr ⟨by omega, by rw [g4, h2]; rfl, by rw [g5, h4], by rw [g6, U_id]⟩
theorem Prms.none (w : World) : Prms w (.slice none 0 0) [] := ⟨_, _, rfl, fun j x h => by simp at h⟩
theorem cells_of {w0 w : World} {D : Nat → Prop} {H : SH} (hw : HF w0 D H w) {b : Nat} {wf : Bool} {l : List Value} {T : TypeId} {fz : Nat × Nat} (off : Nat) (cs : List Value) (hm : (⟨b, wf, .row l T fz⟩ : Ent) ∈ H) (hc : ∀ (j : Nat) v, cs[j]? = some v → l[off + j]? = some v) : ∀ (j : Nat) v, cs[j]? = some v → w.cell? ⟨b, off + j, none⟩ = some v := fun j v hj =>
 cell_row hw hm (by rw [nth_eq]; exact hc j v hj)
end Go.Proofs

/- FnGinMany. Printed by wip/mk_gs3x.py. -/
set_option maxRecDepth 20000
namespace Go.Proofs
open Go Bw
open Gt
theorem Fnds.at {rr : List Res} {cells : List Value} {Hq : SH} (h : Fnds rr cells Hq) : cells.length = rr.length * 4 ∧ ∀ (j : Nat) r, rr[j]? = some r → ∃ pa Ha, Own 32 2 pa r.ps.length (flatP r.ps) Ha ∧ (∀ x ∈ Ha, x ∈ Hq) ∧ ∀ (k : Nat) v, (fndV r pa)[k]? = some v → cells[j * 4 + k]? = some v := by
 induction h with
 | nil => exact ⟨rfl, fun j r hj => by simp at hj⟩
 | @snoc rs cells H Hq r pv h ho ih =>
  obtain ⟨h1, h2⟩ := ih
  have hf : (fndV r pv).length = 4 := rfl
  refine ⟨by rw [List.length_append, List.length_append, h1, hf, List.length_singleton]; omega, fun j x hj => ?_⟩
  by_cases hl : j < rs.length
  ·rw [List.getElem?_append_left hl] at hj
   obtain ⟨pa, Ha, h3, h4, h5⟩ := h2 j x hj
   refine ⟨pa, Ha, h3, fun y hy => List.mem_append_left _ (h4 y hy), fun k v hk => ?_⟩
   have h6 := h5 k v hk
   rw [List.getElem?_append_left (List.getElem?_eq_some_iff.1 h6).1]; exact h6
  ·rw [List.getElem?_append_right (by omega)] at hj
   have hj0 : j - rs.length = 0 := by
    have := (List.getElem?_eq_some_iff.1 hj).1
    rw [List.length_singleton] at this; omega
   rw [hj0] at hj
   cases hj
   refine ⟨pv, Hq, ho, fun y hy => List.mem_append_right _ hy, fun k v hk => ?_⟩
   have e : j * 4 + k = cells.length + k := by rw [h1]; omega
   rw [e, List.getElem?_append_right (by omega), Nat.add_sub_cancel_left]; exact hk
theorem own_slice {e sz n : Nat} {v : Value} {xs : List Value} {Hs : SH} (h : Own e sz v n xs Hs) : ∃ ad cp, v = .slice ad n cp := by
 cases h with
 | nil => exact ⟨_, _, rfl⟩
 | row _ _ _ => exact ⟨_, _, rfl⟩
theorem fits_both {l : List (List Prt)} {q p : List UInt8} (h1 : FitsN l q) (h2 : FitsN [] p) : FitsN l p := ⟨h1.1, h1.2.1, h2.2.2⟩
theorem tbl_nil (w : World) : Tbl w (.slice none 0 0) [] := ⟨none, 0, rfl, Nat.le_refl _, fun j r h => by simp at h⟩
theorem fits4_nil : Fits4 [] := ⟨by simp, fun r h => by cases h⟩
theorem f13_any (w : World) (l : List (List Prt)) (sv : Value) (hsv : Tbl w sv l) (ps : List (List UInt8)) (pv : Value) (hpv : Txts w pv ps) : Calls Try.prog 13 #[sv, pv] w fun e w' => e = .returned (.bool true) ∧ HF w (fun _ => False) [] w' := by
 refine enter (fun _ => False) [] Try.func13 rfl Try.ntmps13 rfl rfl (HF.start w _) fun c hc => ?_
 subst hc
 have hpv0 := hpv
 obtain ⟨pad, pcp, rfl, hpc⟩ := hpv
 refine GC.seq ?_
 refine GC.reg ?_
 refine G.m2 ?_
 refine G.nil ?_
 refine GC.seq ?_
 refine GC.seq ?_
 refine GC.join (fun fr' H' => Sub [(0, sv), (1, .slice pad ps.length pcp), (18, .bool (dec (¬ Fits4 l ∨ ¬ Fits3 ps)))] fr' ∧ H' = []) (fun J1 => ?_) ?_
 ·refine GC.reg ?_
  refine G.m1 ?_
  refine G.callP (v := .bool (dec (Fits4 l))) Try.call17 rfl rfl (fun w1 hw1 => f17_any w1 l sv (hsv.old hw1)) ?_
  refine G.v (V.not rfl) rfl ?_
  refine G.m1 ?_
  refine G.bc 14 rfl (fun h14 => ?_) (fun h14 => ?_)
  ·refine G.s1 ?_
   refine G.s1 ?_
   refine G.s1 ?_
   refine G.m3 ?_
   refine G.nil ?_
   refine J1 _ _ ⟨.cons rfl (.cons rfl (.cons (rfl.trans (congrArg (fun b => some (Value.bool b)) ?_)) .nil)), rfl⟩
   exact dec_t (.inl (dec_false.1 (by simpa using h14)))
  ·refine G.m5 ?_
   refine G.gd rfl rfl ?_
   refine G.callP (v := .bool (dec (Fits3 ps))) Try.call28 rfl rfl (fun w1 hw1 => f28_any w1 ps _ (hpv0.old hw1)) ?_
   refine G.vg rfl rfl (V.not rfl) rfl ?_
   refine G.m4 ?_
   refine G.nil ?_
   refine J1 _ _ ⟨.cons rfl (.cons rfl (.cons (rfl.trans (congrArg (fun b => some (Value.bool b)) ?_)) .nil)), rfl⟩
   exact dec_nc ⟨.inr, fun h => h.resolve_left (fun h => h (dec_true.1 (by simpa using h14)))⟩
 rintro fr' H' ⟨hs1, rfl⟩
 refine GC.weak hs1 ?_
 clear hs1
 refine GC.cond rfl (fun h18 => ?_) (fun h18 => ?_)
 ·refine GC.seq ?_
  refine GC.reg ?_
  refine G.m2 ?_
  refine G.nil ?_
  exact GC.ret1 rfl rfl fun w' hw' => ⟨rfl, hw'.sub (List.nil_sublist _)⟩
 refine GC.skip ?_
 refine GC.seq ?_
 refine GC.seq ?_
 obtain ⟨h4, h3⟩ : Fits4 l ∧ Fits3 ps := by
  have := dec_false.1 h18
  exact ⟨Classical.byContradiction fun h => this (.inl h), Classical.byContradiction fun h => this (.inr h)⟩
 refine GC.join (fun fr' H' => Sub [(0, sv), (1, .slice pad ps.length pcp), (26, .bool (dec (20 < ps.length ∨ ¬ FitsN l [47])))] fr' ∧ H' = []) (fun J3 => ?_) ?_
 ·refine GC.reg ?_
  refine G.m1 ?_
  refine G.v (V.lenL Try.underlying26 rfl) rfl ?_
  refine G.v (V.gt rfl rfl) rfl ?_
  refine G.m1 ?_
  refine G.bc 22 rfl (fun h22 => ?_) (fun h22 => ?_)
  ·refine G.s1 ?_
   refine G.s1 ?_
   refine G.s1 ?_
   refine G.m3 ?_
   refine G.nil ?_
   refine J3 _ _ ⟨.cons rfl (.cons rfl (.cons (rfl.trans (congrArg (fun b => some (Value.bool b)) ?_)) .nil)), rfl⟩
   exact dec_t (.inl (by have := of_decide_eq_true h22; omega))
  ·refine G.m5 ?_
   refine G.gd rfl rfl ?_
   refine G.callP (v := .bool (dec (FitsN l [47]))) Try.call19 rfl rfl (fun w1 hw1 => f19_any w1 l sv (hsv.old hw1) h4 [47] (by simp)) ?_
   refine G.vg rfl rfl (V.not rfl) rfl ?_
   refine G.m4 ?_
   refine G.nil ?_
   refine J3 _ _ ⟨.cons rfl (.cons rfl (.cons (rfl.trans (congrArg (fun b => some (Value.bool b)) ?_)) .nil)), rfl⟩
   exact dec_nc ⟨.inr, fun h => h.resolve_left (fun h => by have := of_decide_eq_false h22; omega)⟩
 rintro fr' H' ⟨hs3, rfl⟩
 refine GC.weak hs3 ?_
 clear hs3
 refine GC.cond rfl (fun h26 => ?_) (fun h26 => ?_)
 ·refine GC.seq ?_
  refine GC.reg ?_
  refine G.callP (v := .bool true) Try.call14 rfl rfl (fun w1 _ => f14_any w1) ?_
  refine G.m2 ?_
  refine G.nil ?_
  exact GC.ret1 rfl rfl fun w' hw' => ⟨rfl, hw'.sub (List.nil_sublist _)⟩
 refine GC.skip ?_
 refine GC.seq ?_
 refine GC.seq ?_
 obtain ⟨hl20, hf1⟩ : ps.length ≤ 20 ∧ FitsN l [47] := by
  have := dec_false.1 h26
  exact ⟨Nat.not_lt.1 fun h => this (.inl h), Classical.byContradiction fun h => this (.inr h)⟩
 refine GC.reg ?_
 refine G.m1 ?_
 refine G.v (V.lenL Try.underlying26 rfl) rfl ?_
 refine G.m1 ?_
 refine G.nil ?_
 refine GC.block ?_
 refine GC.loopJ (fun N fr' H' => ∃ i, i + N = ps.length ∧ (∀ (j : Nat) x, j < i → ps[j]? = some x → FitsN l x ∧ ¬ OpenN l x) ∧ Sub [(0, sv), (1, .slice pad ps.length pcp), (28, .slice pad ps.length pcp), (29, I (ps.length : Nat)), (30, I (i : Nat))] fr' ∧ H' = []) ps.length
  ⟨0, by omega, fun j x hj => by omega, .of rfl, rfl⟩ ?_
 rintro N fr' H' ⟨i, hi, hok, hs2, rfl⟩ ih
 refine GC.weak hs2 ?_
 clear hs2
 refine GC.seq ?_
 refine GC.reg ?_
 refine G.v (V.lt rfl rfl) rfl ?_
 refine G.nil ?_
 refine GC.seq ?_
 refine GC.condD rfl (fun h31 => ?_) (fun h31 => ?_)
 ·refine GC.skip ?_
  refine GC.seq ?_
  refine GC.block ?_
  refine GC.seq ?_
  have hil : i < ps.length := by omega
  obtain ⟨p, hp⟩ : ∃ p, ps[i]? = some p := ⟨_, List.getElem?_eq_getElem hil⟩
  have hpl : p.length ≤ 2147483647 := h3.2 p (List.mem_of_getElem? hp)
  obtain ⟨b, o, e0, hc1⟩ := hpc i p hp
  cases e0
  refine GC.reg ?_
  refine G.v (V.ia (i := i) Try.underlying26 Try.sizeOf9 rfl rfl hil) rfl ?_
  refine G.v (V.ldC (v := S p) Try.isAgg9 rfl (by rw [Nat.mul_one]; exact hc1) id) rfl ?_
  refine G.m2 ?_
  refine G.nil ?_
  refine GC.seq ?_
  refine GC.join (fun fr' H' => Sub [(0, sv), (1, .slice (some ⟨b, o, none⟩) ps.length pcp), (6, S p), (28, .slice (some ⟨b, o, none⟩) ps.length pcp), (29, I (ps.length : Nat)), (30, I (i : Nat)), (41, .bool (dec (¬ FitsN [] p ∨ OpenN l p)))] fr' ∧ H' = []) (fun J8 => ?_) ?_
  ·refine GC.reg ?_
   refine G.m1 ?_
   refine G.callP (v := .bool (dec (FitsN [] p))) Try.call19 rfl rfl (fun w1 hw1 => f19_any w1 [] _ (tbl_nil w1) fits4_nil p hpl) ?_
   refine G.v (V.not rfl) rfl ?_
   refine G.m1 ?_
   refine G.bc 37 rfl (fun h37 => ?_) (fun h37 => ?_)
   ·refine G.s1 ?_
    refine G.s1 ?_
    refine G.s1 ?_
    refine G.m3 ?_
    refine G.nil ?_
    refine J8 _ _ ⟨.cons rfl (.cons rfl (.cons rfl (.cons rfl (.cons rfl (.cons rfl (.cons (rfl.trans (congrArg (fun b => some (Value.bool b)) ?_)) .nil)))))), rfl⟩
    exact dec_t (.inl (dec_false.1 (by simpa using h37)))
   ·refine G.m5 ?_
    refine G.m5 ?_
    have hft : FitsN l p := fits_both hf1 (dec_true.1 (by simpa using h37))
    refine G.gd rfl rfl ?_
    refine G.callP (v := .bool (dec (OpenN l p))) Try.call30 rfl rfl (fun w1 hw1 => f30_any w1 l sv (hsv.old hw1) hft.2.1.clean (by have := hft.1; omega) p (by have := hft.2.2.2.2; omega)) ?_
    refine G.m4 ?_
    refine G.nil ?_
    refine J8 _ _ ⟨.cons rfl (.cons rfl (.cons rfl (.cons rfl (.cons rfl (.cons rfl (.cons (rfl.trans (congrArg (fun b => some (Value.bool b)) ?_)) .nil)))))), rfl⟩
    exact dec_c ⟨.inr, fun h => h.resolve_left (fun h => h (dec_true.1 (by simpa using h37)))⟩
  rintro fr' H' ⟨hs8, rfl⟩
  refine GC.weak hs8 ?_
  clear hs8
  refine GC.cond rfl (fun h41 => ?_) (fun h41 => ?_)
  ·refine GC.seq ?_
   refine GC.reg ?_
   refine G.callP (v := .bool true) Try.call14 rfl rfl (fun w1 _ => f14_any w1) ?_
   refine G.m2 ?_
   refine G.nil ?_
   exact GC.ret1 rfl rfl fun w' hw' => ⟨rfl, hw'.sub (List.nil_sublist _)⟩
  refine GC.skip ?_
  refine GC.inBlock ?_
  refine GC.reg ?_
  obtain ⟨hpf, hpo⟩ : FitsN l p ∧ ¬ OpenN l p := by
   have := dec_false.1 h41
   exact ⟨fits_both hf1 (Classical.byContradiction fun h => this (.inl h)), fun h => this (.inr h)⟩
  refine G.v (V.addI (r := ((i + 1 : Nat) : Int)) rfl rfl rfl (by omega) (by omega)) rfl ?_
  refine G.m1 ?_
  refine G.nil ?_
  refine ih (N - 1) _ _ (by omega) ⟨i + 1, by omega, fun j y hj hy => ?_, .of rfl, rfl⟩
  by_cases hji : j = i
  ·subst hji
   rw [hp] at hy
   cases hy
   exact ⟨hpf, hpo⟩
  ·exact hok j y (by omega) hy
 refine GC.exit rfl ?_
 refine GC.seq ?_
 have hft := hf1
 have hcl := hft.2.1.clean
 have hbd : ∀ r ∈ l, (rtT r).length ≤ 1000000 ∧ r.length ≤ 1000000 := fun r hr => ⟨Nat.le_trans (hcl r hr).txt.1 (by omega), (clean_len (hcl r hr)).2⟩
 have h30 := hft.1
 have hall : ∀ p ∈ ps, FitsN l p ∧ ¬ OpenN l p := fun p hp => by
  obtain ⟨j, hj⟩ := List.getElem?_of_mem hp
  exact hok j p (by have := (List.getElem?_eq_some_iff.1 hj).1; omega) hj
 refine GC.reg ?_
 refine G.m1 ?_
 refine G.callW (fun v H2 => ∃ Hk, Own 9 1 v l.length ((l.map rtT).map S) Hk ∧ H2 = Hk ++ []) Try.call23 rfl rfl (fun w1 hw1 => ?_) ?_
 ·refine (f23_any w1 l sv (hsv.old hw1) hbd (by omega)).mono fun e w' ⟨kv, Hs, h1, h2, h3⟩ => ?_
  exact ⟨_, _, h1, hw1.after0 h3 h2.w, Hs, h2, rfl⟩
 rintro kv H2 ⟨Hs, hown, rfl⟩
 refine G.m1 ?_
 refine G.callW (fun v H2 => ∃ rr fv cells Hf Hq, v = .tuple #[fv, .bool true] ∧ rr.length = ps.length ∧ (∀ (i : Nat) p r, ps[i]? = some p → rr[i]? = some r → Told l false p r) ∧ Own 30 4 fv rr.length cells Hf ∧ Fnds rr cells Hq ∧ H2 = (Hf ++ Hq) ++ (Hs ++ [])) Try.call15 rfl rfl (fun w1 hw1 => ?_) ?_
 ·refine (f15_fits w1 l _ h30 hft.2.1 (hown.txts (by simp) hw1 (fun e he => List.mem_append_left _ he)) ps _ (hpv0.old hw1) (fun p hp => (hall p hp).1) (by omega) false).mono fun e w' ⟨rr, fv, cells, Hf, Hq, h1, h2, h3, h5, h6, h7⟩ => ?_
  exact ⟨_, _, h3, hw1.after0 h7 (fun e0 he0 => (List.mem_append.1 he0).elim (h5.w e0) (h6.w e0)), rr, fv, cells, Hf, Hq, rfl, h1, h2, h5, h6, rfl⟩
 rintro v H2 ⟨rr, fv, cells, Hf, Hq, rfl, hrl, htold, hof, hfn, rfl⟩
 obtain ⟨fad, fcp, rfl⟩ := own_slice hof
 obtain ⟨hcl4, hfat⟩ := hfn.at
 refine G.m1 ?_
 refine G.v (V.ex rfl rfl) rfl ?_
 refine G.v (V.ex rfl rfl) rfl ?_
 refine G.m2 ?_
 refine G.m2 ?_
 refine G.nil ?_
 refine GC.seq ?_
 refine GC.seq ?_
 refine GC.reg ?_
 refine G.callP (v := .bool true) Try.call14 rfl rfl (fun w1 _ => f14_any w1) ?_
 refine G.v (V.not rfl) rfl ?_
 refine G.m1 ?_
 refine G.bc 53 rfl (fun h53 => ?_) (fun h53 => ?_)
 ·exact absurd h53 (by decide)
 ·refine G.m5 ?_
  refine G.vg rfl rfl (V.not rfl) rfl ?_
  refine G.m4 ?_
  refine G.m1 ?_
  refine G.bc 57 rfl (fun h57 => ?_) (fun h57 => ?_)
  ·exact absurd h57 (by decide)
  ·refine G.m5 ?_
   refine G.vg rfl rfl (V.lenL Try.underlying23 rfl) rfl ?_
   refine G.m5 ?_
   refine G.vg rfl rfl (V.lenL Try.underlying26 rfl) rfl ?_
   refine G.vg rfl rfl (V.neI rfl rfl) rfl ?_
   refine G.m4 ?_
   refine G.nil ?_
   refine GC.cond rfl (fun h63 => absurd h63 (by simp [hrl])) (fun h63 => ?_)
   refine GC.skip ?_
   refine GC.seq ?_
   refine GC.seq ?_
   refine GC.reg ?_
   refine G.m1 ?_
   refine G.v (V.lenL Try.underlying26 rfl) rfl ?_
   refine G.m1 ?_
   refine G.nil ?_
   refine GC.block ?_
   refine GC.loopJ (fun N fr' H' => ∃ i, i + N = ps.length ∧ Sub [(0, sv), (7, .slice fad rr.length fcp), (64, .slice pad ps.length pcp), (65, I (ps.length : Nat)), (66, I (i : Nat))] fr' ∧ H' = (Hf ++ Hq) ++ (Hs ++ [])) ps.length
    ⟨0, by omega, .of rfl, rfl⟩ ?_
   rintro N fr' H' ⟨i, hi, hs2, rfl⟩ ih
   refine GC.weak hs2 ?_
   clear hs2
   refine GC.seq ?_
   refine GC.reg ?_
   refine G.v (V.lt rfl rfl) rfl ?_
   refine G.nil ?_
   refine GC.seq ?_
   refine GC.condD rfl (fun h67 => ?_) (fun h67 => ?_)
   ·refine GC.skip ?_
    refine GC.seq ?_
    refine GC.block ?_
    refine GC.seq ?_
    have hil : i < ps.length := by omega
    obtain ⟨p, hp⟩ : ∃ p, ps[i]? = some p := ⟨_, List.getElem?_eq_getElem hil⟩
    obtain ⟨r, hr⟩ : ∃ r, rr[i]? = some r := ⟨_, List.getElem?_eq_getElem (by omega)⟩
    obtain ⟨b, o, e0, hc1⟩ := hpc i p hp
    cases e0
    obtain ⟨hpf, hpo⟩ := hall p (List.mem_of_getElem? hp)
    have ht := htold i p r hp hr
    have hbest := ht.2.2.2 hpo
    obtain ⟨pa, Ha, ho, hsub, hcel⟩ := hfat i r hr
    refine GC.reg ?_
    refine G.m1 ?_
    refine G.v (V.ia (i := i) Try.underlying26 Try.sizeOf9 rfl rfl hil) rfl ?_
    refine G.v (V.ldC (v := S p) Try.isAgg9 rfl (by rw [Nat.mul_one]; exact hc1) id) rfl ?_
    refine G.m2 ?_
    refine G.m2 ?_
    refine G.nil ?_
    obtain ⟨fb, cap, spare, e1, rfl⟩ := hof.at (i := i) (by omega)
    cases e1
    obtain ⟨SW, hSW⟩ : ∃ SW : World → Prop, SW = fun w1 => ∀ (j : Nat) v, (fndV r pa)[j]? = some v → w1.cell? ⟨fb, 0 + i * 4 + j, none⟩ = some v := ⟨_, rfl⟩
    have hS : ∀ (H' : SH), ⟨fb, true, .row (cells ++ spare) 30 (0, 0)⟩ ∈ H' → ∀ w1, HF w (fun _ => False) H' w1 → SW w1 := fun H' hm w1 h1 => by
     rw [hSW]
     refine cells_of h1 (0 + i * 4) _ hm (fun j v hj => ?_)
     have := hcel j v hj
     rw [Nat.zero_add, List.getElem?_append_left (List.getElem?_eq_some_iff.1 this).1]; exact this
    refine GC.seq ?_
    refine GC.regA (SW) mixed ?_
    refine GA.p 0 rfl (by kernel_rfl) (hS _ (.head _)) (fun _ => V.mv rfl) rfl ?_
    refine GA.p 1 rfl (by kernel_rfl) (hS _ (.head _)) (fun _ => V.mv rfl) rfl ?_
    refine GA.p 2 rfl (by kernel_rfl) (hS _ (.head _)) (fun _ => V.ia (i := i) Try.underlying23 Try.sizeOf30 rfl rfl (by omega)) rfl ?_
    refine GA.ldB (cs := fndV r pa) (s := 4) 3 rfl (by kernel_rfl) (hS _ (.head _)) Try.isAgg30 Try.sizeOf30 rfl (fun w1 h1 j v hj => by rw [hSW] at h1; exact h1 j v hj) rfl rfl ?_
    refine GA.p 4 rfl (by kernel_rfl) (hS _ (.head _)) (fun _ => V.mv rfl) rfl ?_
    refine GA.p 5 rfl (by kernel_rfl) (hS _ (.head _)) (fun _ => V.mv rfl) rfl ?_
    refine GA.one 6 rfl (by kernel_rfl) ?_
    refine GB.callW (fun v H2 => ∃ (k : Nat) (pv : Value) (full : List UInt8) (Hp : SH), v = .agg #[I (k : Nat), pv, S full, .bool false] ∧ BestAt l p (bestN l p l.length) k pv full Hp ∧ H2 = Hp ++ (([⟨fb, true, .row (cells ++ spare) 30 (0, 0)⟩] ++ Hq) ++ (Hs ++ []))) Try.call33 rfl rfl (fun v H' ⟨_, _, _, Hp, _, _, e⟩ w1 h1 => hS H' (e ▸ List.mem_append_right _ (.head _)) w1 h1) (fun w1 hw1 => ?_) ?_
    ·exact (f33_any w1 l sv (hsv.old hw1) hcl (by omega) p (by have := hpf.2.2.2.2; omega)).mono fun e w' ⟨k, pv, full, Hp, h1, h2, h3⟩ => ⟨_, _, h1, hw1.after0 h3 h2.w, k, pv, full, Hp, rfl, h2, rfl⟩
    rintro v H2 ⟨k, pv, full, Hp, rfl, hb, rfl⟩
    obtain ⟨qs, hqs, hsame, hpv⟩ := same_found hbest hb
    refine GA.one 7 rfl (by kernel_rfl) ?_
    refine GB.callP (v := .bool (dec (SameF (r.h.getD 0) k r.full full r.ps qs))) Try.call36 rfl rfl (hS _ (List.mem_append_right _ (.head _))) (fun w1 hw1 => f36_any w1 (r.h.getD 0) k r.full full r.ps qs pa pv r.tsr false (Own.prms ho hw1 (fun x hx => List.mem_append_right _ (List.mem_append_left _ (List.mem_append_right _ (hsub x hx))))) ?_ ?_ (by omega)) ?_
    ·rcases hpv with hpv | ⟨rfl, rfl⟩
     ·exact Own.prms hpv hw1 (fun x hx => List.mem_append_left _ hx)
     ·exact Prms.none _
    ·have := ht.2.1; omega
    rw [dec_true.2 hsame]
    refine GA.p 8 rfl (by kernel_rfl) (hS _ (List.mem_append_right _ (.head _))) (fun _ => V.not rfl) rfl ?_
    refine GA.done (by kernel_rfl) ?_
    refine GC.condF rfl ?_
    refine GC.skip ?_
    refine GC.inBlock ?_
    refine GC.reg ?_
    refine G.v (V.addI (r := ((i + 1 : Nat) : Int)) rfl rfl rfl (by omega) (by omega)) rfl ?_
    refine G.m1 ?_
    refine G.nil ?_
    refine GC.turn (H' := ([⟨fb, true, .row (cells ++ spare) 30 (0, 0)⟩] ++ Hq) ++ (Hs ++ [])) (fun w1 h1 => h1.sub (List.sublist_append_right _ _)) ?_
    exact ih (N - 1) _ _ (by omega) ⟨i + 1, by omega, .of rfl, rfl⟩
   refine GC.exit rfl ?_
   refine GC.seq ?_
   refine GC.reg ?_
   refine G.m2 ?_
   refine G.nil ?_
   exact GC.ret1 rfl rfl fun w' hw' => ⟨rfl, hw'.sub (List.nil_sublist _)⟩
end Go.Proofs

/- A law's statement out of its walk: FnGinMany. -/
set_option maxRecDepth 100000
namespace Go.Proofs.Ytnopecnbpflodaa.ginmany
open Go Bw Go.ChangeShapes Go.WideShapes Go.ChangeAt Go.RowKit
theorem contract (H : Type) (enc : TypeId × Value → H) (W : World) (base : Nat) (args : Array Value) (ds gs : List (DataW H)) (before : List MemPlace)
  (hval : ∀ (j : Nat) t v, Try.f13.params[j]? = some t → args[j]? = some v → Value.okWide Try.prog W .any base t v)
  (hW : DataW.Whole enc Try.prog Try.f13.params.toList Rows.fnGinManySpec.vars false W args.toList ds gs before) :
  Calls Try.prog 13 args W fun e W' => ∃ v, e = .returned v ∧ Rows.fnGinManySpec.post enc Try.prog Try.f13 false true false false W args v W' := by
 have hW' := hW
 obtain ⟨p, q, hA0, hV, rfl, hfz, hnd⟩ := hW
 have hA : DataW.TrodAll enc Try.prog W 0 (fun _ => true) true [34, 26] args.toList ds p := hA0
 obtain ⟨v0, vs0, d0, ds0, p0, q0, hargs, rfl, rfl, h0, r0⟩ := trodAll_cons hA
 obtain ⟨v1, vs_1, d1, ds1, p1, q1, rfl, rfl, rfl, h1, r1⟩ := trodAll_cons r0
 obtain ⟨rfl, rfl, rfl⟩ := trodAll_nil r1
 obtain rfl : args = #[v0, v1] := by cases args; simp_all
 obtain ⟨rs0, hrs0⟩ := open_parts2 (hval 0 34 v0 rfl rfl) h0
 obtain ⟨ad1, cp1, vs1, rfl, hcp1, htx1⟩ := open_txt Try.underlying26 Try.underlying9 try_c9 (hval 1 26 v1 rfl rfl) h1
 refine (f13_any W rs0 v0 hrs0 vs1 _ ⟨ad1, cp1, rfl, htx1⟩).mono fun e W' ⟨he, hf⟩ => ⟨_, he, ?_⟩
 refine post_law hW' rfl rfl ?_ (by kernel_rfl) (below_of hf)
 obtain ⟨rfl, rfl⟩ := trodVars_none hV
 rfl
theorem reads (os : Os) {H : Type} (enc : TypeId × Value → H) : ∃ places, DataW.whole enc Try.prog ((plainWorld os).forCall (fun _ _ => 0) ⟨#[], #[.slice none 0 0, .slice none 0 0], []⟩).memory Try.f13.params.toList Rows.fnGinManySpec.vars false (#[.slice none 0 0, .slice none 0 0] : Array Value).toList 8 = some ([.nil, .nil], [], places) :=
 ⟨[], by kernel_rfl⟩
theorem lifted (os : Os) (started : os.Started) (H : Type) (enc : TypeId × Value → H) (F : Stop.Interp) :
  ReturnsInHanded {} Try.checked os 13 .any ((OpenSpec.ofChange Rows.fnGinManySpec).preRow enc Try.prog Try.f13 Rows.fnGinManyRow.domain false Rows.fnGinManyRow.laid) (((OpenSpec.ofChange Rows.fnGinManySpec).at F).post enc Try.prog Try.f13 false true false false) := by
 obtain ⟨places, hx⟩ := reads os enc
 refine returnsInHanded_of_row (C := Try.checked) (s := OpenSpec.ofChange Rows.fnGinManySpec) try_own started (by kernel_rfl) Try.func13
  (witness_row_at (enc := enc) (C := Try.checked) false (plainWorld os) #[.slice none 0 0, .slice none 0 0] rfl (by kernel_rfl) (by kernel_rfl) (by kernel_rfl)
   (OpenSpec.preRow_of_cond 8 hx (by kernel_rfl) (fun k hk => by cases hk) (by kernel_rfl) (laid_none _))) ?_
 intro W base args ds gs before hval hW _ _ _ hL _ _
 exact contract H enc W base args ds gs before hval hW
theorem said : Rows.FnGinManySaid :=
 OpenClaim.holds_of_cond 13 Try.f13 rfl rfl rfl rfl rfl rfl rfl ⟨rfl, rfl, rfl, rfl, rfl⟩ rfl rfl rfl rfl rfl (by kernel_rfl) Try.func13 (by kernel_rfl)
  (of_decide_eq_true (by kernel_rfl)) (by unfold Func.isWrapper; first | (rw [if_pos (by decide +kernel)]; kernel_rfl) | (rw [if_neg (by decide +kernel)]; exact ⟨rfl, rfl⟩))
  (fun os started H enc _ F => by rw [OpenClaim.pre_eq_preRow]; exact lifted os started H enc F)
end Go.Proofs.Ytnopecnbpflodaa.ginmany
