/- The walk of the law FnGinCounts. -/
import Derived.Test.YtabaldddhopobaaDoorEc
/- The law of counts. Printed by wip/mk_gs15.py. -/
namespace Go.Proofs
open Go Bw
set_option maxRecDepth 20000

theorem _root_.Bw.V.eqI1 {P : Program} {c : Cx} {n : Nat} {fr : SF} {H : SH} {ty t u : TypeId} {x y : Operand} {k : IntKind} {i j : Int} (hx : ev fr x = some (.int k i)) (hy : ev fr y = some (.int k j)) (h : i = j) : Val P c n (.binOp .eql t x y u) ty fr H (.bool true) := by
  have h1 : Val P c n (.binOp .eql t x y u) ty fr H _ := V.eqI hx hy
  simpa [h] using h1
theorem _root_.Bw.V.eqS1 {P : Program} {c : Cx} {n : Nat} {fr : SF} {H : SH} {ty t u : TypeId} {x y : Operand} {i j : List UInt8} (hx : ev fr x = some (S i)) (hy : ev fr y = some (S j)) (h : i = j) : Val P c n (.binOp .eql t x y u) ty fr H (.bool true) := by
  have h1 : Val P c n (.binOp .eql t x y u) ty fr H _ := V.eqS hx hy
  simpa [h] using h1
theorem f5_any (w : World) (s : List UInt8) : Calls Tryd.prog 5 #[S s] w fun e w' => e = .returned (.bool true) ∧ HF w (fun _ => False) [] w' := by
  refine enter (fun _ => False) [] Tryd.func5 rfl Tryd.ntmps5 rfl rfl (HF.start w _) fun c hc => ?_
  subst hc
  refine GC.seq ?_
  refine GC.reg ?_  -- region 0, ginmore.go:55
  refine G.v (V.asg rfl) rfl ?_
  refine G.nil ?_
  refine GC.seq ?_
  refine GC.seq ?_
  refine GC.reg ?_  -- region 1, ginmore.go:56
  refine G.v (V.mv rfl) rfl ?_
  refine G.v (V.lenS Tryd.underlying9 rfl) rfl ?_
  refine G.v (V.gt rfl rfl) rfl ?_
  refine G.nil ?_
  refine GC.condD rfl (fun h5 => ?_) (fun h5 => ?_)
  · refine GC.seq ?_
    refine GC.reg ?_  -- region 2, ginmore.go:57
    refine G.v (V.asg rfl) rfl ?_
    refine G.nil ?_
    exact GC.ret1 rfl rfl fun w' hw' => ⟨rfl, hw'⟩
  refine GC.skip ?_
  refine GC.seq ?_
  refine GC.seq ?_
  refine GC.reg ?_  -- region 3, ginmore.go:59
  refine G.v (V.mv rfl) rfl ?_
  refine G.v (V.lenS Tryd.underlying9 rfl) rfl ?_
  refine G.v (V.gt rfl rfl) rfl ?_
  refine G.nil ?_
  refine GC.condD rfl (fun h8 => ?_) (fun h8 => ?_)
  · refine GC.seq ?_
    refine GC.reg ?_  -- region 4, ginmore.go:60
    refine G.callP Tryd.call8 rfl rfl (fun w1 hw1 => f8_any w1) ?_
    refine G.v (V.asg rfl) rfl ?_
    refine G.nil ?_
    exact GC.ret1 rfl rfl fun w' hw' => ⟨rfl, hw'⟩
  refine GC.skip ?_
  refine GC.seq ?_
  have hl : s.length ≤ 1000 := by omega
  have c1 := List.count_le_length (a := (58 : UInt8)) (l := s)
  have c2 := List.count_le_length (a := (42 : UInt8)) (l := s)
  have c3 := List.count_le_length (a := (47 : UInt8)) (l := s)
  refine GC.reg ?_  -- region 5, ginmore.go:62
  refine G.v (V.mv rfl) rfl ?_
  refine G.callP Tryd.call12 rfl rfl (fun w1 hw1 => f12_any w1 s (by omega)) ?_
  refine G.v (V.mv rfl) rfl ?_
  refine G.callP Tryd.call7 rfl rfl (fun w1 hw1 => f7_any w1 s 58 (by omega)) ?_
  refine G.v (V.mv rfl) rfl ?_
  refine G.callP Tryd.call7 rfl rfl (fun w1 hw1 => f7_any w1 s 42 (by omega)) ?_
  refine G.v (V.addI (r := ((s.count 58 + s.count 42 : Nat) : Int)) rfl rfl (by omega) (by omega) (by omega)) rfl ?_
  refine G.v (V.eqI1 rfl rfl rfl) rfl ?_
  refine G.v (V.mv rfl) rfl ?_
  refine G.bc 18 rfl (fun h18 => ?_) (fun h18 => ?_)
  · refine G.vg rfl rfl (V.mv rfl) rfl ?_
    refine G.gd rfl rfl ?_
    refine G.callP Tryd.call13 rfl rfl (fun w1 hw1 => f13_any w1 s (by omega)) ?_
    refine G.vg rfl rfl (V.mv rfl) rfl ?_
    refine G.gd rfl rfl ?_
    refine G.callP Tryd.call7 rfl rfl (fun w1 hw1 => f7_any w1 s 47 (by omega)) ?_
    refine G.vg rfl rfl (V.eqI1 rfl rfl rfl) rfl ?_
    refine G.v (V.pickT rfl rfl) rfl ?_
    refine G.v (V.mv rfl) rfl ?_
    refine G.bc 25 rfl (fun h25 => ?_) (fun h25 => ?_)
    · refine G.gd rfl rfl ?_
      refine G.callP Tryd.call8 rfl rfl (fun w1 hw1 => f8_any w1) ?_
      refine G.v (V.pickT rfl rfl) rfl ?_
      refine G.v (V.asg rfl) rfl ?_
      refine G.nil ?_
      exact GC.ret1 rfl rfl fun w' hw' => ⟨rfl, hw'⟩
    · exact absurd h25 (by decide)
  · exact absurd h18 (by decide)
end Go.Proofs
