/- The law FnGinCommon holds for every input: the longest common beginning of two texts is told by its length. -/
import Derived.Test.YtabaldddhopobaaDoorEd
import Derived.Test.YtabaldddhopobaaDoorRow
/- The law of the common beginning. Printed by wip/mk_gs15.py. -/
namespace Go.Proofs
open Go Bw
set_option maxRecDepth 20000

theorem _root_.Bw.V.neI1 {P : Program} {c : Cx} {n : Nat} {fr : SF} {H : SH} {ty t u : TypeId} {x y : Operand} {k : IntKind} {i j : Int} (hx : ev fr x = some (.int k i)) (hy : ev fr y = some (.int k j)) (h : i ≠ j) : Val P c n (.binOp .neq t x y u) ty fr H (.bool true) := by
  have h1 : Val P c n (.binOp .neq t x y u) ty fr H _ := V.neI hx hy
  simpa [h] using h1
theorem f4_any (w : World) (f a0 b0 : List UInt8) : Calls Tryd.prog 4 #[S f, S a0, S b0] w fun e w' => e = .returned (.bool true) ∧ HF w (fun _ => False) [] w' := by
  refine enter (fun _ => False) [] Tryd.func4 rfl Tryd.ntmps4 rfl rfl (HF.start w _) fun c hc => ?_
  subst hc
  refine GC.seq ?_
  refine GC.reg ?_  -- region 0, ginmore.go:66
  refine G.v (V.asg rfl) rfl ?_
  refine G.nil ?_
  refine GC.seq ?_
  refine GC.seq ?_
  refine GC.join (fun fr' H' => ∃ t : Bool, (t = false → f.length ≤ 2147483647 ∧ a0.length ≤ 2147483647 ∧ b0.length ≤ 2147483647) ∧ Sub [(0, S f), (1, S a0), (2, S b0), (20, .bool t)] fr' ∧ H' = []) (fun J1 => ?_) ?_
  · refine GC.reg ?_  -- region 1, ginmore.go:67
    refine G.v (V.mv rfl) rfl ?_
    refine G.v (V.lenS Tryd.underlying9 rfl) rfl ?_
    refine G.v (V.gt rfl rfl) rfl ?_
    refine G.v (V.mv rfl) rfl ?_
    refine G.bc 11 rfl (fun h11 => ?_) (fun h11 => ?_)
    · refine G.sg rfl rfl rfl rfl rfl rfl ?_
      refine G.sg rfl rfl rfl rfl rfl rfl ?_
      refine G.sg rfl rfl rfl rfl rfl rfl ?_
      refine G.v (V.pickT rfl rfl) rfl ?_
      refine G.v (V.mv rfl) rfl ?_
      refine G.sg rfl rfl rfl rfl rfl rfl ?_
      refine G.sg rfl rfl rfl rfl rfl rfl ?_
      refine G.sg rfl rfl rfl rfl rfl rfl ?_
      refine G.v (V.pickT rfl rfl) rfl ?_
      refine G.nil ?_
      exact J1 _ _ ⟨true, fun h => (by cases h), .cons rfl (.cons rfl (.cons rfl (.cons rfl .nil))), rfl⟩
    · refine G.vg rfl rfl (V.mv rfl) rfl ?_
      refine G.vg rfl rfl (V.lenS Tryd.underlying9 rfl) rfl ?_
      refine G.vg rfl rfl (V.gt rfl rfl) rfl ?_
      refine G.v (V.pickF rfl rfl) rfl ?_
      refine G.v (V.mv rfl) rfl ?_
      refine G.bc 16 rfl (fun h16 => ?_) (fun h16 => ?_)
      · refine G.sg rfl rfl rfl rfl rfl rfl ?_
        refine G.sg rfl rfl rfl rfl rfl rfl ?_
        refine G.sg rfl rfl rfl rfl rfl rfl ?_
        refine G.v (V.pickT rfl rfl) rfl ?_
        refine G.nil ?_
        exact J1 _ _ ⟨true, fun h => (by cases h), .cons rfl (.cons rfl (.cons rfl (.cons rfl .nil))), rfl⟩
      · refine G.vg rfl rfl (V.mv rfl) rfl ?_
        refine G.vg rfl rfl (V.lenS Tryd.underlying9 rfl) rfl ?_
        refine G.vg rfl rfl (V.gt rfl rfl) rfl ?_
        refine G.v (V.pickF rfl rfl) rfl ?_
        refine G.nil ?_
        exact J1 _ _ ⟨_, fun h => ⟨by have := of_decide_eq_false h11; omega, by have := of_decide_eq_false h16; omega, by have := of_decide_eq_false h; omega⟩, .cons rfl (.cons rfl (.cons rfl (.cons rfl .nil))), rfl⟩
  rintro fr' H' ⟨t20, ht20, hs1, rfl⟩
  refine GC.weak hs1 ?_
  clear hs1
  refine GC.cond rfl (fun h20 => ?_) (fun h20 => ?_)
  · refine GC.seq ?_
    refine GC.reg ?_  -- region 2, ginmore.go:68
    refine G.v (V.asg rfl) rfl ?_
    refine G.nil ?_
    exact GC.ret1 rfl rfl fun w' hw' => ⟨rfl, hw'⟩
  refine GC.skip ?_
  refine GC.seq ?_
  refine GC.seq ?_
  obtain ⟨z1, z2, z3⟩ := ht20 h20
  refine GC.join (fun fr' H' => ∃ t : Bool, (t = false → f.length + a0.length ≤ 1000 ∧ f.length + b0.length ≤ 1000) ∧ Sub [(0, S f), (1, S a0), (2, S b0), (34, .bool t)] fr' ∧ H' = []) (fun J3 => ?_) ?_
  · refine GC.reg ?_  -- region 3, ginmore.go:70
    refine G.v (V.mv rfl) rfl ?_
    refine G.v (V.lenS Tryd.underlying9 rfl) rfl ?_
    refine G.v (V.mv rfl) rfl ?_
    refine G.v (V.lenS Tryd.underlying9 rfl) rfl ?_
    refine G.v (V.addI (r := ((f.length + a0.length : Nat) : Int)) rfl rfl rfl (by omega) (by omega)) rfl ?_
    refine G.v (V.gt rfl rfl) rfl ?_
    refine G.v (V.mv rfl) rfl ?_
    refine G.bc 27 rfl (fun h27 => ?_) (fun h27 => ?_)
    · refine G.sg rfl rfl rfl rfl rfl rfl ?_
      refine G.sg rfl rfl rfl rfl rfl rfl ?_
      refine G.sg rfl rfl rfl rfl rfl rfl ?_
      refine G.sg rfl rfl rfl rfl rfl rfl ?_
      refine G.sg rfl rfl rfl rfl rfl rfl ?_
      refine G.sg rfl rfl rfl rfl rfl rfl ?_
      refine G.v (V.pickT rfl rfl) rfl ?_
      refine G.nil ?_
      exact J3 _ _ ⟨true, fun h => (by cases h), .cons rfl (.cons rfl (.cons rfl (.cons rfl .nil))), rfl⟩
    · refine G.vg rfl rfl (V.mv rfl) rfl ?_
      refine G.vg rfl rfl (V.lenS Tryd.underlying9 rfl) rfl ?_
      refine G.vg rfl rfl (V.mv rfl) rfl ?_
      refine G.vg rfl rfl (V.lenS Tryd.underlying9 rfl) rfl ?_
      refine G.vg rfl rfl (V.addI (r := ((f.length + b0.length : Nat) : Int)) rfl rfl rfl (by omega) (by omega)) rfl ?_
      refine G.vg rfl rfl (V.gt rfl rfl) rfl ?_
      refine G.v (V.pickF rfl rfl) rfl ?_
      refine G.nil ?_
      exact J3 _ _ ⟨_, fun h => ⟨by have := of_decide_eq_false h27; omega, by have := of_decide_eq_false h; omega⟩, .cons rfl (.cons rfl (.cons rfl (.cons rfl .nil))), rfl⟩
  rintro fr' H' ⟨t34, ht34, hs3, rfl⟩
  refine GC.weak hs3 ?_
  clear hs3
  refine GC.cond rfl (fun h34 => ?_) (fun h34 => ?_)
  · refine GC.seq ?_
    refine GC.reg ?_  -- region 4, ginmore.go:71
    refine G.callP Tryd.call8 rfl rfl (fun w1 hw1 => f8_any w1) ?_
    refine G.v (V.asg rfl) rfl ?_
    refine G.nil ?_
    exact GC.ret1 rfl rfl fun w' hw' => ⟨rfl, hw'⟩
  refine GC.skip ?_
  refine GC.seq ?_
  obtain ⟨hl1, hl2⟩ := ht34 h34
  refine GC.reg ?_  -- region 5, ginmore.go:73
  refine G.v (V.mv rfl) rfl ?_
  refine G.v (V.mv rfl) rfl ?_
  refine G.v (V.cat (l := f) (m := a0) rfl rfl (by omega)) rfl ?_
  refine G.v (V.mv rfl) rfl ?_
  refine G.v (V.mv rfl) rfl ?_
  refine G.v (V.cat (l := f) (m := b0) rfl rfl (by omega)) rfl ?_
  refine G.v (V.asg rfl) rfl ?_
  refine G.v (V.asg rfl) rfl ?_
  refine G.nil ?_
  refine GC.seq ?_
  have la : (f ++ a0).length ≤ 1000 := by rw [List.length_append]; omega
  have lb : (f ++ b0).length ≤ 1000 := by rw [List.length_append]; omega
  have hfr := Gs.lcp_front f a0 b0
  obtain ⟨A, hA⟩ : ∃ A, f ++ a0 = A := ⟨_, rfl⟩
  obtain ⟨B, hB⟩ : ∃ B, f ++ b0 = B := ⟨_, rfl⟩
  rw [hA] at la hfr ⊢
  rw [hB] at lb hfr ⊢
  have hle := Gs.lcp_le A B
  have htk := Gs.lcp_take A B
  have hstop := Gs.lcp_stop A B
  have hcm := Gs.lcp_comm B A
  refine GC.reg ?_  -- region 6, ginmore.go:74
  refine G.v (V.mv rfl) rfl ?_
  refine G.v (V.mv rfl) rfl ?_
  refine G.callP Tryd.call11 rfl rfl (fun w1 hw1 => f11_any w1 A B (by omega)) ?_
  refine G.v (V.asg rfl) rfl ?_
  refine G.nil ?_
  refine GC.seq ?_
  refine GC.regQ mixed (by kernel_rfl) ?_  -- region 7, ginmore.go:75
  refine GQ.v (V.mv rfl) rfl ?_
  refine GQ.v (V.mv rfl) rfl ?_
  refine GQ.v (V.lenS Tryd.underlying9 rfl) rfl ?_
  refine GQ.v (V.ge rfl rfl) rfl ?_
  refine GQ.v (V.mv rfl) rfl ?_
  refine GQ.bc 49 rfl (fun h49 => ?_) (fun h49 => ?_)
  · refine GQ.vg rfl rfl (V.mv rfl) rfl ?_
    refine GQ.vg rfl rfl (V.mv rfl) rfl ?_
    refine GQ.vg rfl rfl (V.lenS Tryd.underlying9 rfl) rfl ?_
    refine GQ.vg rfl rfl (V.le rfl rfl) rfl ?_
    refine GQ.v (V.pickT rfl rfl) rfl ?_
    refine GQ.v (V.mv rfl) rfl ?_
    refine GQ.bc 55 rfl (fun h55 => ?_) (fun h55 => ?_)
    · refine GQ.vg rfl rfl (V.mv rfl) rfl ?_
      refine GQ.vg rfl rfl (V.mv rfl) rfl ?_
      refine GQ.vg rfl rfl (V.lenS Tryd.underlying9 rfl) rfl ?_
      refine GQ.vg rfl rfl (V.le rfl rfl) rfl ?_
      refine GQ.v (V.pickT rfl rfl) rfl ?_
      refine GQ.v (V.mv rfl) rfl ?_
      refine GQ.bc 61 rfl (fun h61 => ?_) (fun h61 => ?_)
      · refine GQ.vg rfl rfl (V.mv rfl) rfl ?_
        refine GQ.vg rfl rfl (V.mv rfl) rfl ?_
        refine GQ.vg rfl rfl (V.slH (j := Gs.lcp A B) Tryd.underlying9 rfl rfl (by omega)) rfl ?_
        refine GQ.vg rfl rfl (V.mv rfl) rfl ?_
        refine GQ.vg rfl rfl (V.mv rfl) rfl ?_
        refine GQ.vg rfl rfl (V.slH (j := Gs.lcp A B) Tryd.underlying9 rfl rfl (by omega)) rfl ?_
        refine GQ.vg rfl rfl (V.eqS rfl rfl) rfl ?_
        refine GQ.v (V.pickT rfl rfl) rfl ?_
        refine GQ.v (V.mv rfl) rfl ?_
        refine GQ.bc 70 rfl (fun h70 => ?_) (fun h70 => ?_)
        · refine GQ.vg rfl rfl (V.mv rfl) rfl ?_
          refine GQ.vg rfl rfl (V.mv rfl) rfl ?_
          refine GQ.vg rfl rfl (V.lenS Tryd.underlying9 rfl) rfl ?_
          refine GQ.vg rfl rfl (V.eqI rfl rfl) rfl ?_
          refine GQ.vg rfl rfl (V.mv rfl) rfl ?_
          refine GQ.bc 75 rfl (fun h75 => ?_) (fun h75 => ?_)
          · refine GQ.sg rfl rfl rfl rfl rfl rfl ?_
            refine GQ.sg rfl rfl rfl rfl rfl rfl ?_
            refine GQ.sg rfl rfl rfl rfl rfl rfl ?_
            refine GQ.sg rfl rfl rfl rfl rfl rfl ?_
            refine GQ.vg rfl rfl (V.pickT rfl rfl) rfl ?_
            refine GQ.vg rfl rfl (V.mv rfl) rfl ?_
            refine GQ.sg rfl rfl rfl rfl rfl rfl ?_
            refine GQ.sg rfl rfl rfl rfl rfl rfl ?_
            refine GQ.sg rfl rfl rfl rfl rfl rfl ?_
            refine GQ.sg rfl rfl rfl rfl rfl rfl ?_
            refine GQ.sg rfl rfl rfl rfl rfl rfl ?_
            refine GQ.sg rfl rfl rfl rfl rfl rfl ?_
            refine GQ.sg rfl rfl rfl rfl rfl rfl ?_
            refine GQ.vg rfl rfl (V.pickT rfl rfl) rfl ?_
            refine GQ.v (V.pickT rfl rfl) rfl ?_
            refine GQ.v (V.mv rfl) rfl ?_
            refine GQ.vg rfl rfl (V.mv rfl) rfl ?_
            refine GQ.vg rfl rfl (V.mv rfl) rfl ?_
            refine GQ.vg rfl rfl (V.mv rfl) rfl ?_
            refine GQ.gd rfl rfl ?_
            refine GQ.callP Tryd.call11 rfl rfl (fun w1 hw1 => (f11_any w1 B A (by omega)).mono fun e w' h => by rw [hcm] at h; exact h) ?_
            refine GQ.vg rfl rfl (V.eqI1 rfl rfl rfl) rfl ?_
            refine GQ.v (V.pickT rfl rfl) rfl ?_
            refine GQ.v (V.mv rfl) rfl ?_
            refine GQ.bc 98 rfl (fun h98 => ?_) (fun h98 => ?_)
            · refine GQ.gd rfl rfl ?_
              refine GQ.callP Tryd.call8 rfl rfl (fun w1 hw1 => f8_any w1) ?_
              refine GQ.v (V.pickT rfl rfl) rfl ?_
              refine GQ.v (V.asg rfl) rfl ?_
              refine GQ.nil ?_
              exact GC.ret1 rfl rfl fun w' hw' => ⟨rfl, hw'⟩
            · exact absurd h98 (by decide)
          · refine GQ.vg rfl rfl (V.mv rfl) rfl ?_
            refine GQ.vg rfl rfl (V.mv rfl) rfl ?_
            refine GQ.vg rfl rfl (V.lenS Tryd.underlying9 rfl) rfl ?_
            refine GQ.vg rfl rfl (V.eqI rfl rfl) rfl ?_
            refine GQ.vg rfl rfl (V.pickF rfl rfl) rfl ?_
            refine GQ.vg rfl rfl (V.mv rfl) rfl ?_
            refine GQ.bc 81 rfl (fun h81 => ?_) (fun h81 => ?_)
            · refine GQ.sg rfl rfl rfl rfl rfl rfl ?_
              refine GQ.sg rfl rfl rfl rfl rfl rfl ?_
              refine GQ.sg rfl rfl rfl rfl rfl rfl ?_
              refine GQ.sg rfl rfl rfl rfl rfl rfl ?_
              refine GQ.sg rfl rfl rfl rfl rfl rfl ?_
              refine GQ.sg rfl rfl rfl rfl rfl rfl ?_
              refine GQ.sg rfl rfl rfl rfl rfl rfl ?_
              refine GQ.vg rfl rfl (V.pickT rfl rfl) rfl ?_
              refine GQ.v (V.pickT rfl rfl) rfl ?_
              refine GQ.v (V.mv rfl) rfl ?_
              refine GQ.vg rfl rfl (V.mv rfl) rfl ?_
              refine GQ.vg rfl rfl (V.mv rfl) rfl ?_
              refine GQ.vg rfl rfl (V.mv rfl) rfl ?_
              refine GQ.gd rfl rfl ?_
              refine GQ.callP Tryd.call11 rfl rfl (fun w1 hw1 => (f11_any w1 B A (by omega)).mono fun e w' h => by rw [hcm] at h; exact h) ?_
              refine GQ.vg rfl rfl (V.eqI1 rfl rfl rfl) rfl ?_
              refine GQ.v (V.pickT rfl rfl) rfl ?_
              refine GQ.v (V.mv rfl) rfl ?_
              refine GQ.bc 98 rfl (fun h98 => ?_) (fun h98 => ?_)
              · refine GQ.gd rfl rfl ?_
                refine GQ.callP Tryd.call8 rfl rfl (fun w1 hw1 => f8_any w1) ?_
                refine GQ.v (V.pickT rfl rfl) rfl ?_
                refine GQ.v (V.asg rfl) rfl ?_
                refine GQ.nil ?_
                exact GC.ret1 rfl rfl fun w' hw' => ⟨rfl, hw'⟩
              · exact absurd h98 (by decide)
            · have hx : ∃ x y, A[Gs.lcp A B]? = some x ∧ B[Gs.lcp A B]? = some y ∧ x ≠ y := by
                have q1 := of_decide_eq_false h75
                have q2 := of_decide_eq_false h81
                rcases hstop with h | h | h
                · omega
                · omega
                · exact h
              obtain ⟨x, y, hx, hy, hxy⟩ := hx
              refine GQ.vg rfl rfl (V.mv rfl) rfl ?_
              refine GQ.vg rfl rfl (V.mv rfl) rfl ?_
              refine GQ.vg rfl rfl (V.idx (i := Gs.lcp A B) (b := x) Tryd.underlying9 rfl rfl hx) rfl ?_
              refine GQ.vg rfl rfl (V.mv rfl) rfl ?_
              refine GQ.vg rfl rfl (V.mv rfl) rfl ?_
              refine GQ.vg rfl rfl (V.idx (i := Gs.lcp A B) (b := y) Tryd.underlying9 rfl rfl hy) rfl ?_
              refine GQ.vg rfl rfl (V.neI1 rfl rfl (fun e => hxy (UInt8.toNat_inj.1 (by omega)))) rfl ?_
              refine GQ.vg rfl rfl (V.pickF rfl rfl) rfl ?_
              refine GQ.v (V.pickT rfl rfl) rfl ?_
              refine GQ.v (V.mv rfl) rfl ?_
              refine GQ.bc 91 rfl (fun h91 => ?_) (fun h91 => ?_)
              · refine GQ.vg rfl rfl (V.mv rfl) rfl ?_
                refine GQ.vg rfl rfl (V.mv rfl) rfl ?_
                refine GQ.vg rfl rfl (V.mv rfl) rfl ?_
                refine GQ.gd rfl rfl ?_
                refine GQ.callP Tryd.call11 rfl rfl (fun w1 hw1 => (f11_any w1 B A (by omega)).mono fun e w' h => by rw [hcm] at h; exact h) ?_
                refine GQ.vg rfl rfl (V.eqI1 rfl rfl rfl) rfl ?_
                refine GQ.v (V.pickT rfl rfl) rfl ?_
                refine GQ.v (V.mv rfl) rfl ?_
                refine GQ.bc 98 rfl (fun h98 => ?_) (fun h98 => ?_)
                · refine GQ.gd rfl rfl ?_
                  refine GQ.callP Tryd.call8 rfl rfl (fun w1 hw1 => f8_any w1) ?_
                  refine GQ.v (V.pickT rfl rfl) rfl ?_
                  refine GQ.v (V.asg rfl) rfl ?_
                  refine GQ.nil ?_
                  exact GC.ret1 rfl rfl fun w' hw' => ⟨rfl, hw'⟩
                · exact absurd h98 (by decide)
              · first | exact absurd h91 (by decide) | (have q1 := of_decide_eq_false h91; omega) | (have q1 := h91; simp_all)
        · exact absurd htk (of_decide_eq_false h70)
      · exact absurd (of_decide_eq_false h61) (by omega)
    · exact absurd (of_decide_eq_false h55) (by omega)
  · exact absurd (of_decide_eq_false h49) (by omega)
end Go.Proofs

/- A law's card out of its walk: FnGinCommon. -/
set_option maxRecDepth 100000
namespace Go.Proofs.YtabaldddhopobaaDoor.gincommon
open Go Bw Go.ChangeShapes Go.WideShapes Go.ChangeAt Go.RowKit

theorem contract (H : Type) (enc : TypeId × Value → H) (W : World) (base : Nat) (args : Array Value) (ds gs : List (DataW H)) (before : List MemPlace)
    (hval : ∀ (j : Nat) t v, Tryd.f4.params[j]? = some t → args[j]? = some v → Value.okWide Tryd.prog W .any base t v)
    (hW : DataW.Whole enc Tryd.prog Tryd.f4.params.toList Rows.fnGinCommonSpec.vars false W args.toList ds gs before) :
    Calls Tryd.prog 4 args W fun e W' => ∃ v, e = .returned v ∧ Rows.fnGinCommonSpec.post enc Tryd.prog Tryd.f4 false true false false W args v W' := by
  have hW' := hW
  obtain ⟨p, q, hA0, hV, rfl, hfz, hnd⟩ := hW
  have hA : DataW.TrodAll enc Tryd.prog W 0 (fun _ => true) true [9, 9, 9] args.toList ds p := hA0
  obtain ⟨v0, vs0, d0, ds0, p0, q0, hargs, rfl, rfl, h0, r0⟩ := trodAll_cons hA
  obtain ⟨v1, vs_1, d1, ds1, p1, q1, rfl, rfl, rfl, h1, r1⟩ := trodAll_cons r0
  obtain ⟨v2, vs_2, d2, ds2, p2, q2, rfl, rfl, rfl, h2, r2⟩ := trodAll_cons r1
  obtain ⟨rfl, rfl, rfl⟩ := trodAll_nil r2
  obtain rfl : args = #[v0, v1, v2] := by cases args; simp_all
  obtain ⟨l0, rfl⟩ := open_str Tryd.underlying9 (hval 0 9 v0 rfl rfl)
  obtain ⟨l1, rfl⟩ := open_str Tryd.underlying9 (hval 1 9 v1 rfl rfl)
  obtain ⟨l2, rfl⟩ := open_str Tryd.underlying9 (hval 2 9 v2 rfl rfl)
  refine (f4_any W l0 l1 l2).mono fun e W' ⟨he, hf⟩ => ⟨_, he, ?_⟩
  refine post_law hW' rfl rfl ?_ (by kernel_rfl) (below_of hf)
  obtain ⟨rfl, rfl⟩ := trodVars_none hV
  rfl

theorem laid_met (os : Os) : laidMet Tryd.prog Rows.fnGinCommonRow.laid ((laidWorld os).forCall (fun _ _ => 0) ⟨#[], #[.string ⟨#[]⟩, .string ⟨#[]⟩, .string ⟨#[]⟩], []⟩).memory := laid_all os _
theorem reads (os : Os) {H : Type} (enc : TypeId × Value → H) : ∃ places, DataW.whole enc Tryd.prog ((laidWorld os).forCall (fun _ _ => 0) ⟨#[], #[.string ⟨#[]⟩, .string ⟨#[]⟩, .string ⟨#[]⟩], []⟩).memory Tryd.f4.params.toList Rows.fnGinCommonSpec.vars false (#[.string ⟨#[]⟩, .string ⟨#[]⟩, .string ⟨#[]⟩] : Array Value).toList 8 = some ([.lit (.string []), .lit (.string []), .lit (.string [])], [], places) :=
  ⟨[], by kernel_rfl⟩

theorem lifted (os : Os) (started : os.Started) (H : Type) (enc : TypeId × Value → H) (F : Stop.Interp) :
    ReturnsInHanded {} Tryd.checked os 4 .any ((OpenSpec.ofChange Rows.fnGinCommonSpec).preRow enc Tryd.prog Tryd.f4 Rows.fnGinCommonRow.domain false Rows.fnGinCommonRow.laid) (((OpenSpec.ofChange Rows.fnGinCommonSpec).at F).post enc Tryd.prog Tryd.f4 false true false false) := by
  obtain ⟨places, hx⟩ := reads os enc
  refine returnsInHanded_of_row (C := Tryd.checked) (s := OpenSpec.ofChange Rows.fnGinCommonSpec) tryd_own started (by kernel_rfl) Tryd.func4
    (witness_row_atRef (enc := enc) (C := Tryd.checked) false (laidWorld os) #[.string ⟨#[]⟩, .string ⟨#[]⟩, .string ⟨#[]⟩] rfl (by kernel_rfl) (by kernel_rfl) (by kernel_rfl)
      (OpenSpec.preRow_of_cond 8 hx (by kernel_rfl) (fun k hk => by cases hk) (by kernel_rfl) (laid_met os))) ?_
  intro W base args ds gs before hval hW _ _ _ hL _ _
  exact contract H enc W base args ds gs before hval hW

theorem said : Rows.FnGinCommonSaid :=
  OpenClaim.holds_of_cond 4 Tryd.f4 rfl rfl rfl rfl rfl rfl rfl ⟨rfl, rfl, rfl, rfl, rfl⟩ rfl rfl rfl rfl rfl (by kernel_rfl) Tryd.func4 (by kernel_rfl)
    (of_decide_eq_true (by kernel_rfl)) (by unfold Func.isWrapper; first | (rw [if_pos (by decide +kernel)]; kernel_rfl) | (rw [if_neg (by decide +kernel)]; exact ⟨rfl, rfl⟩))
    (fun os started H enc _ F => by rw [OpenClaim.pre_eq_preRow]; exact lifted os started H enc F)

theorem plain (f : FuncId) (fn : Func) (hf : Tryd.pinned.checked.prog.funcNamed "pub-bridleway/laws.FnGinCommon" = some f) (hfn : Tryd.pinned.checked.prog.funcs[f]? = some fn) :
    false = Tryd.pinned.checked.prog.looks [] ∧ ∀ (j : Nat) t, fn.params[j]? = some t → Tryd.pinned.checked.prog.wantsStandIn t = false := by
  obtain rfl : f = 4 := Option.some.inj ((show Tryd.prog.funcNamed "pub-bridleway/laws.FnGinCommon" = some 4 by kernel_rfl).symm.trans hf) |>.symm
  obtain rfl : fn = Tryd.f4 := (Option.some.inj (Tryd.func4.symm.trans hfn)).symm
  refine ⟨by kernel_rfl, fun j t ht => ?_⟩
  have hm : t ∈ [9, 9, 9] := by have := Array.mem_of_getElem? ht; simpa [Tryd.params4] using this
  have hall : ∀ u ∈ [9, 9, 9], Tryd.prog.wantsStandIn u = false := by
    intro u hu
    simp only [List.mem_cons, List.not_mem_nil, or_false] at hu
    rcases hu with rfl | rfl | rfl
    · exact (show Tryd.prog.wantsStandIn 9 = false by kernel_rfl)
    · exact (show Tryd.prog.wantsStandIn 9 = false by kernel_rfl)
    · exact (show Tryd.prog.wantsStandIn 9 = false by kernel_rfl)
  exact hall t hm

theorem card : Rows.FnGinCommonCardSaid :=
  Claim7.holds_tied_plain_at .later [] _ _ _ _ said (fun _ h => by cases h) (by kernel_rfl) (fun _ h => by cases h) fnGinCommon_row_tie rfl ⟨rfl, rfl⟩ (by kernel_rfl) rfl plain (by kernel_rfl)
end Go.Proofs.YtabaldddhopobaaDoor.gincommon
