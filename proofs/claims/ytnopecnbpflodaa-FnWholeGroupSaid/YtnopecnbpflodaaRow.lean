/- From a law to its row: what the arguments are in memory, and that they are left as they were. -/
import Derived.Test.YtnopecnbpflodaaRows
import Derived.Test.YtnopecnbpflodaaKa
import Derived.WalkKit
import Derived.ProofKit
import Derived.OpenShut
import Derived.SliceStrings
import Derived.Carry
import Derived.ChangeSame
import Derived.Deep.DeepHandedRow
import Derived.Deep.DeepWitnessRowRef
/- From a law's walk to its row: what the arguments are in memory; what is left as it was. -/
namespace Go.Proofs.Ytnopecnbpflodaa
set_option maxRecDepth 100000
open Go Bw Go.ChangeShapes Go.WideShapes Go.ChangeAt Go.RowKit Go.WideElems
theorem try_own : ownKnob Try.prog.godebug = none := by kernel_rfl
theorem try_lo : laidOutB Try.prog = true := by kernel_rfl
theorem try_c9 : Try.prog.cellsOf 9 = 1 := by kernel_rfl
theorem below_of {W W' : World} (h : HF W (fun _ => False) [] W') : Below W.heap.size W W' := ⟨h.os, h.tape, h.output, h.size, fun b hb => h.frame b hb id⟩
theorem trodAll_stays {H : Type} {enc : TypeId × Value → H} {P : Program} (lo : laidOutB P = true) {W W' : World} {sp' : Nat → Bool} : ∀ (ts : List TypeId) (vs : List Value) (ds : List (DataW H)) (ps : List MemPlace), ts.all (fun t => P.readableRec t && decide (t < P.types.size)) = true →
  DataW.TrodAll enc P W 0 (fun _ => true) true ts vs ds ps → (∀ p ∈ ps, W.sameAt W' p) → (∀ p ∈ ps, sp' p.block = true) → DataW.TrodAll enc P W' 0 sp' true ts vs ds ps := by
 intro ts
 induction ts with
 | nil =>
  intro vs ds ps _ h _ _
  cases vs with
  | nil => cases ds with
   | nil => exact h
   | cons => exact h.elim
  | cons => cases ds <;> exact h.elim
 | cons t ts ih =>
  intro vs ds ps hb h hs hsp
  cases vs with
  | nil => cases ds <;> exact h.elim
  | cons v vs =>
   cases ds with
   | nil => exact h.elim
   | cons d ds =>
    obtain ⟨p, q, h1, h2, rfl⟩ := h
    simp only [List.all_cons, Bool.and_eq_true, decide_eq_true_eq] at hb
    exact ⟨p, q, Trod_stays lo hb.1.1 hb.1.2 h1 (fun x hx => hs x (List.mem_append_left _ hx)) (fun x hx => hsp x (List.mem_append_left _ hx)),
     ih vs ds q hb.2 h2 (fun x hx => hs x (List.mem_append_right _ hx)) (fun x hx => hsp x (List.mem_append_right _ hx)), rfl⟩
theorem ok_true {W' : World} : Value.okWide Try.prog W' .any 0 4 (.bool true) := okWide_bool_mk Try.underlying4 _
/-- true, and everything reads as it did -/
theorem post_law {H : Type} {enc : TypeId × Value → H} {f : Func} {s : ChangeSpec} {apart fresh handsOn again : Bool} {W W' : World} {args : Array Value} {ds gs : List (DataW H)} {before : List MemPlace}
  (hW : DataW.Whole enc Try.prog f.params.toList s.vars apart W args.toList ds gs before) (hv : s.vars = []) (hr : f.resultTypes = #[4]) (hf : s.fn H (ds ++ gs) = { results := [.lit (.bool true)], args := ds })
  (hb : f.params.toList.all (fun t => Try.prog.readableRec t && decide (t < Try.prog.types.size)) = true) (hB : Below W.heap.size W W') : s.post enc Try.prog f apart fresh handsOn again W args (.bool true) W' := by
 have hW' := hW
 obtain ⟨pa, pv, hA, hV, rfl, hz, hn⟩ := hW
 have hg : gs = [] ∧ pv = [] := by
  rw [hv] at hV
  cases gs with
  | nil => exact ⟨rfl, hV⟩
  | cons g r => exact absurd hV (by intro h; cases h)
 obtain ⟨rfl, rfl⟩ := hg
 have hlt : ∀ p ∈ pa, p.block < W.heap.size := fun p hp => hA.lt p hp
 have hsame : ∀ p ∈ pa, W.sameAt W' p := fun p hp => hB.same (hlt p hp)
 have hres : ∀ (b : Nat) (sp : Nat → Bool) (hd : Bool), DataW.TrodAll enc Try.prog W' b sp hd f.resultTypes.toList ((Value.bool true).resultList f.resultTypes.size) (s.fn H (ds ++ [])).results [] := fun b sp hd => by
  rw [hf, hr]
  exact trodAll_mk1 (shut_bool Try.underlying4 true)
 have hargs : ∀ sp : Nat → Bool, (∀ p ∈ pa, sp p.block = true) → DataW.TrodAll enc Try.prog W' 0 sp true f.params.toList args.toList (s.fn H (ds ++ [])).args pa := fun sp hsp => by
  rw [hf]; exact trodAll_stays try_lo _ _ _ _ hb hA hsame hsp
 have hvars : ∀ sp : Nat → Bool, DataW.TrodVars enc Try.prog W' sp s.vars (s.fn H (ds ++ [])).vars [] := fun sp => by
  rw [hf, hv]; rfl
 refine ⟨ds, [], pa ++ [], [], pa, [], hW', hres _ _ _, hargs _ (fun p hp => by simpa using hlt p hp), hvars _, World.keptBut_mono (fun p hp => ⟨hp, .inr (by simpa using hp)⟩) (hB.frame _), fun _ => ?_⟩
 refine ⟨ok_one hr rfl ok_true, _, _, ([] ++ pa) ++ [], ⟨[] ++ pa, [], trodAll_append (hargs _ (fun _ _ => rfl)) (hres _ _ _), hvars _, rfl, ?_, ?_⟩, ?_⟩
 ·intro b off hp
  have hp' : MemPlace.cell b off ∈ pa := by simpa using hp
  rw [hB.frozen (p := ⟨b, off, none⟩) (hlt _ hp')]
  exact hz b off (by simpa using hp)
 ·intro ha
  have := hn ha
  simpa using this
 ·intro p hp _
  simpa using hp
section
variable {H : Type} {enc : TypeId × Value → H} {P : Program} {W : World} {b0 : Nat} {v : Value} {d : DataW H} {ps : List MemPlace}
theorem addr_of {a : Addr} {u : Value} (h : W.cell? a = some u) : ∃ b o, a = ⟨b, o, none⟩ := by
 obtain ⟨b, o, sp⟩ := a
 have : sp = none := World.cell?_spot h
 exact ⟨b, o, by rw [this]⟩
theorem add_at (b o j : Nat) : (⟨b, o, none⟩ : Addr).add j = ⟨b, o + j, none⟩ := by
 by_cases h : j = 0
 ·subst h; simp [Addr.add]
 ·simp [Addr.add, h]
theorem open_str {t : TypeId} (ht : P.underlying t = some .string) (hval : Value.okWide P W .any b0 t v) : ∃ l, v = S l := by
 obtain ⟨s, rfl⟩ := okWide_string ht hval
 exact ⟨s.data.toList, S_of s⟩
end
noncomputable def plainWorld (os : Os) : World := World.holding Try.prog os ⟨#[], #[], []⟩
theorem laid_none (W : World) : laidMet Try.prog [] W := ⟨[], rfl, List.nodup_nil, fun b off h => by cases h⟩
end Go.Proofs.Ytnopecnbpflodaa
