/- The law FnCleanPath holds for every input: a path is cleaned as the parts between its slashes say. -/
import Derived.Test.YtabaldddhopobaaDoorEd
import Derived.Test.YtabaldddhopobaaDoorEb
import Derived.Test.YtabaldddhopobaaDoorRow
/- The law of cleaned paths. Printed by wip/mk_gs15.py. -/
namespace Go.Proofs
open Go Bw
set_option maxRecDepth 20000

theorem f6_any (w : World) (s : List UInt8) : Calls Tryd.prog 6 #[S s] w fun e w' => e = .returned (.bool true) ∧ HF w (fun _ => False) [] w' := by
  refine enter (fun _ => False) [] Tryd.func6 rfl Tryd.ntmps6 rfl rfl (HF.start w _) fun c hc => ?_
  subst hc
  refine GC.seq ?_
  refine GC.reg ?_  -- region 0, ginmore.go:18
  refine G.v (V.asg rfl) rfl ?_
  refine G.nil ?_
  refine GC.seq ?_
  refine GC.seq ?_
  refine GC.reg ?_  -- region 1, ginmore.go:19
  refine G.v (V.mv rfl) rfl ?_
  refine G.v (V.lenS Tryd.underlying9 rfl) rfl ?_
  refine G.v (V.gt rfl rfl) rfl ?_
  refine G.nil ?_
  refine GC.condD rfl (fun h5 => ?_) (fun h5 => ?_)
  · refine GC.seq ?_
    refine GC.reg ?_  -- region 2, ginmore.go:20
    refine G.v (V.asg rfl) rfl ?_
    refine G.nil ?_
    exact GC.ret1 rfl rfl fun w' hw' => ⟨rfl, hw'⟩
  refine GC.skip ?_
  refine GC.seq ?_
  refine GC.seq ?_
  refine GC.reg ?_  -- region 3, ginmore.go:22
  refine G.v (V.mv rfl) rfl ?_
  refine G.v (V.lenS Tryd.underlying9 rfl) rfl ?_
  refine G.v (V.gt rfl rfl) rfl ?_
  refine G.nil ?_
  refine GC.condD rfl (fun h8 => ?_) (fun h8 => ?_)
  · refine GC.seq ?_
    refine GC.reg ?_  -- region 4, ginmore.go:23
    refine G.callP Tryd.call8 rfl rfl (fun w1 hw1 => f8_any w1) ?_
    refine G.v (V.asg rfl) rfl ?_
    refine G.nil ?_
    exact GC.ret1 rfl rfl fun w' hw' => ⟨rfl, hw'⟩
  refine GC.skip ?_
  refine GC.seq ?_
  have hl : s.length ≤ 1000 := by omega
  refine GC.reg ?_  -- region 5, ginmore.go:25
  refine G.v (V.mv rfl) rfl ?_
  refine G.callP Tryd.call9 rfl rfl (fun w1 hw1 => f9_any w1 s (by omega)) ?_
  refine G.v (V.mv rfl) rfl ?_
  refine G.callP Tryd.call14 rfl rfl (fun w1 hw1 => f14_any w1 s (by omega)) ?_
  refine G.v (V.eqS1 rfl rfl rfl) rfl ?_
  refine G.v (V.mv rfl) rfl ?_
  refine G.bc 15 rfl (fun h15 => ?_) (fun h15 => ?_)
  · refine G.gd rfl rfl ?_
    refine G.callP Tryd.call8 rfl rfl (fun w1 hw1 => f8_any w1) ?_
    refine G.v (V.pickT rfl rfl) rfl ?_
    refine G.v (V.asg rfl) rfl ?_
    refine G.nil ?_
    exact GC.ret1 rfl rfl fun w' hw' => ⟨rfl, hw'⟩
  · exact absurd h15 (by decide)
end Go.Proofs

/- A law's card out of its walk: FnCleanPath. -/
set_option maxRecDepth 100000
namespace Go.Proofs.YtabaldddhopobaaDoor.cleanpath
open Go Bw Go.ChangeShapes Go.WideShapes Go.ChangeAt Go.RowKit

theorem contract (H : Type) (enc : TypeId × Value → H) (W : World) (base : Nat) (args : Array Value) (ds gs : List (DataW H)) (before : List MemPlace)
    (hval : ∀ (j : Nat) t v, Tryd.f6.params[j]? = some t → args[j]? = some v → Value.okWide Tryd.prog W .any base t v)
    (hW : DataW.Whole enc Tryd.prog Tryd.f6.params.toList Rows.fnCleanPathSpec.vars false W args.toList ds gs before) :
    Calls Tryd.prog 6 args W fun e W' => ∃ v, e = .returned v ∧ Rows.fnCleanPathSpec.post enc Tryd.prog Tryd.f6 false true false false W args v W' := by
  have hW' := hW
  obtain ⟨p, q, hA0, hV, rfl, hfz, hnd⟩ := hW
  have hA : DataW.TrodAll enc Tryd.prog W 0 (fun _ => true) true [9] args.toList ds p := hA0
  obtain ⟨v0, vs0, d0, ds0, p0, q0, hargs, rfl, rfl, h0, r0⟩ := trodAll_cons hA
  obtain ⟨rfl, rfl, rfl⟩ := trodAll_nil r0
  obtain rfl : args = #[v0] := by cases args; simp_all
  obtain ⟨l0, rfl⟩ := open_str Tryd.underlying9 (hval 0 9 v0 rfl rfl)
  refine (f6_any W l0).mono fun e W' ⟨he, hf⟩ => ⟨_, he, ?_⟩
  refine post_law hW' rfl rfl ?_ (by kernel_rfl) (below_of hf)
  obtain ⟨rfl, rfl⟩ := trodVars_none hV
  rfl

theorem laid_met (os : Os) : laidMet Tryd.prog Rows.fnCleanPathRow.laid ((laidWorld os).forCall (fun _ _ => 0) ⟨#[], #[.string ⟨#[]⟩], []⟩).memory := laid_all os _
theorem reads (os : Os) {H : Type} (enc : TypeId × Value → H) : ∃ places, DataW.whole enc Tryd.prog ((laidWorld os).forCall (fun _ _ => 0) ⟨#[], #[.string ⟨#[]⟩], []⟩).memory Tryd.f6.params.toList Rows.fnCleanPathSpec.vars false (#[.string ⟨#[]⟩] : Array Value).toList 8 = some ([.lit (.string [])], [], places) :=
  ⟨[], by kernel_rfl⟩

theorem lifted (os : Os) (started : os.Started) (H : Type) (enc : TypeId × Value → H) (F : Stop.Interp) :
    ReturnsInHanded {} Tryd.checked os 6 .any ((OpenSpec.ofChange Rows.fnCleanPathSpec).preRow enc Tryd.prog Tryd.f6 Rows.fnCleanPathRow.domain false Rows.fnCleanPathRow.laid) (((OpenSpec.ofChange Rows.fnCleanPathSpec).at F).post enc Tryd.prog Tryd.f6 false true false false) := by
  obtain ⟨places, hx⟩ := reads os enc
  refine returnsInHanded_of_row (C := Tryd.checked) (s := OpenSpec.ofChange Rows.fnCleanPathSpec) tryd_own started (by kernel_rfl) Tryd.func6
    (witness_row_atRef (enc := enc) (C := Tryd.checked) false (laidWorld os) #[.string ⟨#[]⟩] rfl (by kernel_rfl) (by kernel_rfl) (by kernel_rfl)
      (OpenSpec.preRow_of_cond 8 hx (by kernel_rfl) (fun k hk => by cases hk) (by kernel_rfl) (laid_met os))) ?_
  intro W base args ds gs before hval hW _ _ _ hL _ _
  exact contract H enc W base args ds gs before hval hW

theorem said : Rows.FnCleanPathSaid :=
  OpenClaim.holds_of_cond 6 Tryd.f6 rfl rfl rfl rfl rfl rfl rfl ⟨rfl, rfl, rfl, rfl, rfl⟩ rfl rfl rfl rfl rfl (by kernel_rfl) Tryd.func6 (by kernel_rfl)
    (of_decide_eq_true (by kernel_rfl)) (by unfold Func.isWrapper; first | (rw [if_pos (by decide +kernel)]; kernel_rfl) | (rw [if_neg (by decide +kernel)]; exact ⟨rfl, rfl⟩))
    (fun os started H enc _ F => by rw [OpenClaim.pre_eq_preRow]; exact lifted os started H enc F)

theorem plain (f : FuncId) (fn : Func) (hf : Tryd.pinned.checked.prog.funcNamed "pub-bridleway/laws.FnCleanPath" = some f) (hfn : Tryd.pinned.checked.prog.funcs[f]? = some fn) :
    false = Tryd.pinned.checked.prog.looks [] ∧ ∀ (j : Nat) t, fn.params[j]? = some t → Tryd.pinned.checked.prog.wantsStandIn t = false := by
  obtain rfl : f = 6 := Option.some.inj ((show Tryd.prog.funcNamed "pub-bridleway/laws.FnCleanPath" = some 6 by kernel_rfl).symm.trans hf) |>.symm
  obtain rfl : fn = Tryd.f6 := (Option.some.inj (Tryd.func6.symm.trans hfn)).symm
  refine ⟨by kernel_rfl, fun j t ht => ?_⟩
  have hm : t ∈ [9] := by have := Array.mem_of_getElem? ht; simpa [Tryd.params6] using this
  have hall : ∀ u ∈ [9], Tryd.prog.wantsStandIn u = false := by
    intro u hu
    simp only [List.mem_cons, List.not_mem_nil, or_false] at hu
    rcases hu with rfl
    · exact (show Tryd.prog.wantsStandIn 9 = false by kernel_rfl)
  exact hall t hm

theorem card : Rows.FnCleanPathCardSaid :=
  Claim7.holds_tied_plain_at .later [] _ _ _ _ said (fun _ h => by cases h) (by kernel_rfl) (fun _ h => by cases h) fnCleanPath_row_tie rfl ⟨rfl, rfl⟩ (by kernel_rfl) rfl plain (by kernel_rfl)
end Go.Proofs.YtabaldddhopobaaDoor.cleanpath
