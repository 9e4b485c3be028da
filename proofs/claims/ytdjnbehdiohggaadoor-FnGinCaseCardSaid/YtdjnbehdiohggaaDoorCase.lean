/- The law FnGinCase holds for every input: among routes without parameters a path is found, whatever its letters are, just if one of the routes is the path but for them, or, with the wish to fix it, is it with a slash more or without the one at its end; the path that is told is such a route. -/
import Derived.Test.YtdjnbehdiohggaaDoorRowb
import Derived.Test.YtdjnbehdiohggaaDoorP24
import Derived.Test.YtdjnbehdiohggaaDoorRowx
import Derived.Test.YtdjnbehdiohggaaDoorP01
/- A law's card out of its walk: FnGinCase. -/
set_option maxRecDepth 100000
namespace Go.Proofs.YtdjnbehdiohggaaDoor.gincase
open Go Bw Go.ChangeShapes Go.WideShapes Go.ChangeAt Go.RowKit
theorem contract (H : Type) (enc : TypeId × Value → H) (W : World) (base : Nat) (args : Array Value) (ds gs : List (DataW H)) (before : List MemPlace)
  (hval : ∀ (j : Nat) t v, Tryd.f4.params[j]? = some t → args[j]? = some v → Value.okWide Tryd.prog W .any base t v)
  (hW : DataW.Whole enc Tryd.prog Tryd.f4.params.toList Rows.fnGinCaseSpec.vars false W args.toList ds gs before) (hLd : laidMet Tryd.prog Rows.fnGinCaseRow.laid W) :
  Calls Tryd.prog 4 args W fun e W' => ∃ v, e = .returned v ∧ Rows.fnGinCaseSpec.post enc Tryd.prog Tryd.f4 false true false false W args v W' := by
 have hW' := hW
 obtain ⟨p, q, hA0, hV, rfl, hfz, hnd⟩ := hW
 have hA : DataW.TrodAll enc Tryd.prog W 0 (fun _ => true) true [22, 9, 4] args.toList ds p := hA0
 obtain ⟨v0, vs0, d0, ds0, p0, q0, hargs, rfl, rfl, h0, r0⟩ := trodAll_cons hA
 obtain ⟨v1, vs_1, d1, ds1, p1, q1, rfl, rfl, rfl, h1, r1⟩ := trodAll_cons r0
 obtain ⟨v2, vs_2, d2, ds2, p2, q2, rfl, rfl, rfl, h2, r2⟩ := trodAll_cons r1
 obtain ⟨rfl, rfl, rfl⟩ := trodAll_nil r2
 obtain rfl : args = #[v0, v1, v2] := by cases args; simp_all
 obtain ⟨rs0, hrs0⟩ := open_parts2 (hval 0 22 v0 rfl rfl) h0
 obtain ⟨l1, rfl⟩ := open_str Tryd.underlying9 (hval 1 9 v1 rfl rfl)
 obtain ⟨b2, rfl⟩ := okWide_bool Tryd.underlying4 (hval 2 4 v2 rfl rfl)
 refine (c4_any W (open_laid hLd) rs0 v0 hrs0 l1 b2).mono fun e W' ⟨he, hf⟩ => ⟨_, he, ?_⟩
 refine post_law hW' rfl rfl ?_ (by kernel_rfl) (below_of hf)
 obtain ⟨rfl, rfl⟩ := trodVars_none hV
 rfl
theorem laid_met (os : Os) : laidMet Tryd.prog Rows.fnGinCaseRow.laid ((laidWorld os).forCall (fun _ _ => 0) ⟨#[], #[.slice none 0 0, .string ⟨#[]⟩, .bool false], []⟩).memory := laid_all os _
theorem reads (os : Os) {H : Type} (enc : TypeId × Value → H) : ∃ places, DataW.whole enc Tryd.prog ((laidWorld os).forCall (fun _ _ => 0) ⟨#[], #[.slice none 0 0, .string ⟨#[]⟩, .bool false], []⟩).memory Tryd.f4.params.toList Rows.fnGinCaseSpec.vars false (#[.slice none 0 0, .string ⟨#[]⟩, .bool false] : Array Value).toList 8 = some ([.nil, .lit (.string []), .lit (.bool false)], [], places) :=
 ⟨[], by kernel_rfl⟩
theorem lifted (os : Os) (started : os.Started) (H : Type) (enc : TypeId × Value → H) (F : Stop.Interp) :
  ReturnsInHanded {} Tryd.checked os 4 .any ((OpenSpec.ofChange Rows.fnGinCaseSpec).preRow enc Tryd.prog Tryd.f4 Rows.fnGinCaseRow.domain false Rows.fnGinCaseRow.laid) (((OpenSpec.ofChange Rows.fnGinCaseSpec).at F).post enc Tryd.prog Tryd.f4 false true false false) := by
 obtain ⟨places, hx⟩ := reads os enc
 refine returnsInHanded_of_row (C := Tryd.checked) (s := OpenSpec.ofChange Rows.fnGinCaseSpec) tryd_own started (by kernel_rfl) Tryd.func4
  (witness_row_atRef (enc := enc) (C := Tryd.checked) false (laidWorld os) #[.slice none 0 0, .string ⟨#[]⟩, .bool false] rfl (by kernel_rfl) (by kernel_rfl) (by kernel_rfl)
   (OpenSpec.preRow_of_cond 8 hx (by kernel_rfl) (fun k hk => by cases hk) (by kernel_rfl) (laid_met os))) ?_
 intro W base args ds gs before hval hW _ _ _ hL _ _
 exact contract H enc W base args ds gs before hval hW hL
theorem said : Rows.FnGinCaseSaid :=
 OpenClaim.holds_of_cond 4 Tryd.f4 rfl rfl rfl rfl rfl rfl rfl ⟨rfl, rfl, rfl, rfl, rfl⟩ rfl rfl rfl rfl rfl (by kernel_rfl) Tryd.func4 (by kernel_rfl)
  (of_decide_eq_true (by kernel_rfl)) (by unfold Func.isWrapper; first | (rw [if_pos (by decide +kernel)]; kernel_rfl) | (rw [if_neg (by decide +kernel)]; exact ⟨rfl, rfl⟩))
  (fun os started H enc _ F => by rw [OpenClaim.pre_eq_preRow]; exact lifted os started H enc F)
theorem plain (f : FuncId) (fn : Func) (hf : Tryd.pinned.checked.prog.funcNamed "pub-bridleway/laws.FnGinCase" = some f) (hfn : Tryd.pinned.checked.prog.funcs[f]? = some fn) :
  false = Tryd.pinned.checked.prog.looks [] ∧ ∀ (j : Nat) t, fn.params[j]? = some t → Tryd.pinned.checked.prog.wantsStandIn t = false := by
 obtain rfl : f = 4 := Option.some.inj ((show Tryd.prog.funcNamed "pub-bridleway/laws.FnGinCase" = some 4 by kernel_rfl).symm.trans hf) |>.symm
 obtain rfl : fn = Tryd.f4 := (Option.some.inj (Tryd.func4.symm.trans hfn)).symm
 refine ⟨by kernel_rfl, fun j t ht => ?_⟩
 have hm : t ∈ [22, 9, 4] := by have := Array.mem_of_getElem? ht; simpa [Tryd.params4] using this
 have hall : ∀ u ∈ [22, 9, 4], Tryd.prog.wantsStandIn u = false := by
  intro u hu
  simp only [List.mem_cons, List.not_mem_nil, or_false] at hu
  rcases hu with rfl | rfl | rfl
  ·exact (show Tryd.prog.wantsStandIn 22 = false by kernel_rfl)
  ·exact (show Tryd.prog.wantsStandIn 9 = false by kernel_rfl)
  ·exact (show Tryd.prog.wantsStandIn 4 = false by kernel_rfl)
 exact hall t hm
theorem card : Rows.FnGinCaseCardSaid :=
 Claim7.holds_tied_plain_at .later [] _ _ _ _ said (fun _ h => by cases h) (by kernel_rfl) (fun _ h => by cases h) fnGinCase_row_tie rfl ⟨rfl, rfl⟩ (by kernel_rfl) rfl plain (by kernel_rfl)
end Go.Proofs.YtdjnbehdiohggaaDoor.gincase
