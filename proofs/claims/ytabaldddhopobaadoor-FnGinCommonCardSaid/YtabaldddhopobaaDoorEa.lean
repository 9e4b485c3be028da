/- What small functions of the router and its cleanPath do. -/
import Derived.Test.YtabaldddhopobaaDoorKa
import Derived.Test.YtabaldddhopobaaDoorKb
import Derived.Test.YtabaldddhopobaaDoorPa
import Derived.Laws.Small
/- Small functions: counting bytes, the common beginning, slashes side by side. Printed by wip/mk_gs1.py. -/
namespace Go.Proofs
open Go Bw
set_option maxRecDepth 20000

theorem count_byte_le (c : UInt8) (s : List UInt8) (i : Nat) : (s.take i).count c ≤ i := Nat.le_trans List.count_le_length (by simp; omega)
theorem f7_any (w : World) (s : List UInt8) (ch : UInt8) (hs : s.length ≤ 1000000000000) : Calls Tryd.prog 7 #[S s, .int .u8 (ch.toNat : Int)] w fun e w' => e = .returned (I (s.count ch : Nat)) ∧ HF w (fun _ => False) [] w' := by
  refine enter (fun _ => False) [] Tryd.func7 rfl Tryd.ntmps7 rfl rfl (HF.start w _) fun c hc => ?_
  subst hc
  refine GC.seq ?_
  refine GC.reg ?_  -- region 0, ginmore.go:67
  refine G.v (V.asg rfl) rfl ?_
  refine G.nil ?_
  refine GC.seq ?_
  refine GC.reg ?_  -- region 1, ginmore.go:68
  refine G.v (V.asg rfl) rfl ?_
  refine G.nil ?_
  refine GC.seq ?_
  refine GC.seq ?_
  refine GC.reg ?_  -- region 2, ginmore.go:69
  refine G.v (V.mv rfl) rfl ?_
  refine G.v (V.lenS Tryd.underlying9 rfl) rfl ?_
  refine G.v (V.mv rfl) rfl ?_
  refine G.nil ?_
  refine GC.block ?_
  refine GC.loopJ (fun N fr' H' => ∃ i, i + N = s.length ∧ Sub [(0, S s), (1, .int .u8 (ch.toNat : Int)), (5, I ((s.take i).count ch : Nat)), (8, I (s.length : Nat)), (9, I ((i : Nat) : Int))] fr' ∧ H' = []) s.length
    ⟨0, by omega, .cons rfl (.cons rfl (.cons rfl (.cons rfl (.cons rfl .nil)))), rfl⟩ ?_
  rintro N fr' H' ⟨i, hi, hs, rfl⟩ ih
  refine GC.weak hs ?_
  clear hs
  refine GC.seq ?_
  refine GC.reg ?_  -- region 3, ginmore.go:69
  refine G.v (V.lt rfl rfl) rfl ?_
  refine G.nil ?_
  refine GC.seq ?_
  refine GC.condD rfl (fun h10 => ?_) (fun h10 => ?_)
  · refine GC.skip ?_
    refine GC.seq ?_
    refine GC.block ?_
    refine GC.seq ?_
    have hlt : i < s.length := by omega
    obtain ⟨b, hb⟩ : ∃ b, s[i]? = some b := ⟨_, List.getElem?_eq_getElem hlt⟩
    have hct := Gs.cnt_take (c := ch) hb
    have hle := count_byte_le ch s i
    refine GC.reg ?_  -- region 4, ginmore.go:69
    refine G.v (V.mv rfl) rfl ?_
    refine G.v (V.asg rfl) rfl ?_
    refine G.nil ?_
    refine GC.seq ?_
    refine GC.reg ?_  -- region 5, ginmore.go:70
    refine G.v (V.mv rfl) rfl ?_
    refine G.v (V.mv rfl) rfl ?_
    refine G.v (V.idx (i := i) (b := b) Tryd.underlying9 rfl rfl hb) rfl ?_
    refine G.v (V.mv rfl) rfl ?_
    refine G.v (V.eqI rfl rfl) rfl ?_
    refine G.nil ?_
    refine GC.join (fun fr' H' => Sub [(0, S s), (1, .int .u8 (ch.toNat : Int)), (5, I ((s.take (i + 1)).count ch : Nat)), (8, I (s.length : Nat)), (9, I ((i : Nat) : Int))] fr' ∧ H' = []) (fun J16 => ?_) ?_
    · refine GC.condD rfl (fun h16 => ?_) (fun h16 => ?_)
      · refine GC.reg ?_  -- region 6, ginmore.go:71
        refine G.v (V.mv rfl) rfl ?_
        refine G.v (V.addI (r := (((s.take i).count ch + 1 : Nat) : Int)) rfl rfl rfl (by omega) (by omega)) rfl ?_
        refine G.v (V.asg rfl) rfl ?_
        refine G.nil ?_
        have e : b = ch := UInt8.toNat_inj.1 (by omega)
        rw [if_pos e] at hct
        rw [← hct]
        exact J16 _ _ ⟨.cons rfl (.cons rfl (.cons rfl (.cons rfl (.cons rfl .nil)))), rfl⟩
      refine GC.skip ?_
      have e : b ≠ ch := fun e => h16 (by rw [e])
      rw [if_neg e] at hct
      have hct2 : (s.take (i + 1)).count ch = (s.take i).count ch := hct
      rw [← hct2]
      exact J16 _ _ ⟨.cons rfl (.cons rfl (.cons rfl (.cons rfl (.cons rfl .nil)))), rfl⟩
    rintro fr' H' ⟨hs16, rfl⟩
    refine GC.weak hs16 ?_
    clear hs16
    refine GC.inBlock ?_
    refine GC.reg ?_  -- region 7, ginmore.go:69
    refine G.v (V.addI (r := ((i + 1 : Nat) : Int)) rfl rfl rfl (by omega) (by omega)) rfl ?_
    refine G.v (V.mv rfl) rfl ?_
    refine G.nil ?_
    exact ih (N - 1) _ _ (by omega) ⟨i + 1, by omega, .cons rfl (.cons rfl (.cons rfl (.cons rfl (.cons rfl .nil)))), rfl⟩
  refine GC.exit rfl ?_
  refine GC.seq ?_
  refine GC.reg ?_  -- region 8, ginmore.go:74
  refine G.v (V.mv rfl) rfl ?_
  refine G.v (V.asg rfl) rfl ?_
  refine G.nil ?_
  have hie : i = s.length := by omega
  exact GC.ret1 rfl rfl fun w' hw' => ⟨by rw [hie, List.take_length], hw'⟩

theorem f40_any (w : World) (s : List UInt8) (ch : UInt8) (hs : s.length ≤ 1000000000000) : Calls Tryd.prog 40 #[S s, S [ch]] w fun e w' => e = .returned (I (s.count ch : Nat)) ∧ HF w (fun _ => False) [] w' := by
  refine enter (fun _ => False) [] Tryd.func40 rfl Tryd.ntmps40 rfl rfl (HF.start w _) fun c hc => ?_
  subst hc
  refine GC.seq ?_
  refine GC.reg ?_  -- region 0, zz_search.go:16
  refine G.v (V.asg rfl) rfl ?_
  refine G.nil ?_
  refine GC.seq ?_
  refine GC.reg ?_  -- region 1, zz_search.go:17
  refine G.v (V.asg rfl) rfl ?_
  refine G.nil ?_
  refine GC.seq ?_
  refine GC.seq ?_
  refine GC.reg ?_  -- region 2, zz_search.go:18
  refine G.v (V.mv rfl) rfl ?_
  refine G.v (V.lenS Tryd.underlying9 rfl) rfl ?_
  refine G.v (V.eqI rfl rfl) rfl ?_
  refine G.nil ?_
  refine GC.condF rfl ?_
  refine GC.skip ?_
  refine GC.seq ?_
  refine GC.seq ?_
  refine GC.reg ?_  -- region 7, zz_search.go:24
  refine G.v (V.asg rfl) rfl ?_
  refine G.nil ?_
  refine GC.block ?_
  refine GC.loopJ (fun N fr' H' => ∃ i, i + N = s.length ∧ Sub [(0, S s), (1, S [ch]), (5, I ((s.take i).count ch : Nat)), (6, I ((i : Nat) : Int))] fr' ∧ H' = []) s.length
    ⟨0, by omega, .cons rfl (.cons rfl (.cons rfl (.cons rfl .nil))), rfl⟩ ?_
  rintro N fr' H' ⟨i, hi, hs, rfl⟩ ih
  refine GC.weak hs ?_
  clear hs
  refine GC.seq ?_
  refine GC.seq ?_
  refine GC.reg ?_  -- region 8, zz_search.go:24
  refine G.v (V.mv rfl) rfl ?_
  refine G.v (V.mv rfl) rfl ?_
  refine G.v (V.lenS Tryd.underlying9 rfl) rfl ?_
  refine G.v (V.addI (r := ((i + 1 : Nat) : Int)) rfl rfl rfl (by omega) (by omega)) rfl ?_
  refine G.v (V.mv rfl) rfl ?_
  refine G.v (V.lenS Tryd.underlying9 rfl) rfl ?_
  refine G.v (V.le rfl rfl) rfl ?_
  refine G.nil ?_
  refine GC.condD rfl (fun h24 => ?_) (fun h24 => ?_)
  · refine GC.skip ?_
    refine GC.block ?_
    refine GC.seq ?_
    have hlt : i < s.length := by omega
    obtain ⟨b, hb⟩ : ∃ b, s[i]? = some b := ⟨_, List.getElem?_eq_getElem hlt⟩
    have hct := Gs.cnt_take (c := ch) hb
    have hle := count_byte_le ch s i
    have hsl : (s.take (i + 1)).drop i = [b] := by
      rw [List.drop_take, List.drop_eq_getElem_cons hlt]
      rw [List.getElem?_eq_getElem hlt] at hb
      simp [Option.some.inj hb]
    refine GC.reg ?_  -- region 9, zz_search.go:25
    refine G.v (V.mv rfl) rfl ?_
    refine G.v (V.mv rfl) rfl ?_
    refine G.v (V.mv rfl) rfl ?_
    refine G.v (V.mv rfl) rfl ?_
    refine G.v (V.lenS Tryd.underlying9 rfl) rfl ?_
    refine G.v (V.addI (r := ((i + 1 : Nat) : Int)) rfl rfl rfl (by omega) (by omega)) rfl ?_
    refine G.v (V.slLHe (i := i) (j := i + 1) Tryd.underlying9 rfl rfl rfl (by omega) (by omega) hsl) rfl ?_
    refine G.v (V.mv rfl) rfl ?_
    refine G.v (V.eqS rfl rfl) rfl ?_
    refine G.nil ?_
    refine GC.join (fun fr' H' => Sub [(0, S s), (1, S [ch]), (5, I ((s.take (i + 1)).count ch : Nat)), (6, I ((i + 1 : Nat) : Int))] fr' ∧ H' = []) (fun J33 => ?_) ?_
    · refine GC.condD rfl (fun h33 => ?_) (fun h33 => ?_)
      · refine GC.seq ?_
        refine GC.reg ?_  -- region 10, zz_search.go:26
        refine G.v (V.mv rfl) rfl ?_
        refine G.v (V.addI (r := (((s.take i).count ch + 1 : Nat) : Int)) rfl rfl rfl (by omega) (by omega)) rfl ?_
        refine G.v (V.asg rfl) rfl ?_
        refine G.nil ?_
        refine GC.reg ?_  -- region 11, zz_search.go:27
        refine G.v (V.mv rfl) rfl ?_
        refine G.v (V.mv rfl) rfl ?_
        refine G.v (V.lenS Tryd.underlying9 rfl) rfl ?_
        refine G.v (V.addI (r := ((i + 1 : Nat) : Int)) rfl rfl rfl (by omega) (by omega)) rfl ?_
        refine G.v (V.asg rfl) rfl ?_
        refine G.nil ?_
        have e : b = ch := by simpa using h33
        rw [if_pos e] at hct
        rw [← hct]
        exact J33 _ _ ⟨.cons rfl (.cons rfl (.cons rfl (.cons rfl .nil))), rfl⟩
      refine GC.reg ?_  -- region 12, zz_search.go:29
      refine G.v (V.mv rfl) rfl ?_
      refine G.v (V.addI (r := ((i + 1 : Nat) : Int)) rfl rfl rfl (by omega) (by omega)) rfl ?_
      refine G.v (V.asg rfl) rfl ?_
      refine G.nil ?_
      have e : b ≠ ch := by simpa using h33
      rw [if_neg e] at hct
      have hct2 : (s.take (i + 1)).count ch = (s.take i).count ch := hct
      rw [← hct2]
      exact J33 _ _ ⟨.cons rfl (.cons rfl (.cons rfl (.cons rfl .nil))), rfl⟩
    rintro fr' H' ⟨hs33, rfl⟩
    refine GC.weak hs33 ?_
    clear hs33
    refine GC.inBlock ?_
    exact ih (N - 1) _ _ (by omega) ⟨i + 1, by omega, .cons rfl (.cons rfl (.cons rfl (.cons rfl .nil))), rfl⟩
  refine GC.exit rfl ?_
  refine GC.seq ?_
  refine GC.reg ?_  -- region 13, zz_search.go:32
  refine G.v (V.mv rfl) rfl ?_
  refine G.v (V.asg rfl) rfl ?_
  refine G.nil ?_
  have hie : i = s.length := by omega
  exact GC.ret1 rfl rfl fun w' hw' => ⟨by rw [hie, List.take_length], hw'⟩

theorem f41_any (w : World) (n : Nat) (hn : n ≤ 65535) : Calls Tryd.prog 41 #[I (n : Nat)] w fun e w' => e = .returned (.int .u16 (n : Int)) ∧ HF w (fun _ => False) [] w' := by
  refine enter (fun _ => False) [] Tryd.func41 rfl Tryd.ntmps41 rfl rfl (HF.start w _) fun c hc => ?_
  subst hc
  have hwr : IntKind.u16.wrap (n : Int) = (n : Int) := by
    unfold IntKind.wrap
    simp [IntKind.bits, IntKind.signed]
    omega
  refine GC.seq ?_
  refine GC.reg ?_  -- region 0, zz_tree.go:12
  refine G.v (V.asg rfl) rfl ?_
  refine G.nil ?_
  refine GC.seq ?_
  refine GC.seq ?_
  refine GC.reg ?_  -- region 1, zz_tree.go:13
  refine G.v (V.mv rfl) rfl ?_
  refine G.v (V.gt rfl rfl) rfl ?_
  refine G.nil ?_
  refine GC.condD rfl (fun h4 => absurd h4 (by omega)) (fun h4 => ?_)
  refine GC.skip ?_
  refine GC.seq ?_
  refine GC.reg ?_  -- region 3, zz_tree.go:16
  refine G.v (V.mv rfl) rfl ?_
  refine G.v (V.cvI Tryd.underlying3 Tryd.underlying22 rfl) rfl ?_
  rw [hwr]
  refine G.v (V.asg rfl) rfl ?_
  refine G.nil ?_
  exact GC.ret1 rfl rfl fun w' hw' => ⟨rfl, hw'⟩

theorem f29_any (w : World) (s : List UInt8) (hs : s.length ≤ 20000) : Calls Tryd.prog 29 #[S s] w fun e w' => e = .returned (.int .u16 ((s.count 58 + s.count 42 : Nat) : Int)) ∧ HF w (fun _ => False) [] w' := by
  refine enter (fun _ => False) [] Tryd.func29 rfl Tryd.ntmps29 rfl rfl (HF.start w _) fun c hc => ?_
  subst hc
  have h1 := List.count_le_length (a := (58 : UInt8)) (l := s)
  have h2 := List.count_le_length (a := (42 : UInt8)) (l := s)
  refine GC.seq ?_
  refine GC.reg ?_  -- region 0, tree.go:77
  refine G.v (V.asg rfl) rfl ?_
  refine G.nil ?_
  refine GC.seq ?_
  refine GC.reg ?_  -- region 1, tree.go:78
  refine G.v (V.mv rfl) rfl ?_
  refine G.callP Tryd.call40 rfl rfl (fun w1 hw1 => f40_any w1 s 58 (by omega)) ?_
  refine G.v (V.asg rfl) rfl ?_
  refine G.nil ?_
  refine GC.seq ?_
  refine GC.reg ?_  -- region 2, tree.go:79
  refine G.v (V.mv rfl) rfl ?_
  refine G.callP Tryd.call40 rfl rfl (fun w1 hw1 => f40_any w1 s 42 (by omega)) ?_
  refine G.v (V.asg rfl) rfl ?_
  refine G.nil ?_
  refine GC.seq ?_
  refine GC.reg ?_  -- region 3, tree.go:80
  refine G.v (V.mv rfl) rfl ?_
  refine G.v (V.mv rfl) rfl ?_
  refine G.v (V.addI (r := ((s.count 58 + s.count 42 : Nat) : Int)) rfl rfl (by omega) (by omega) (by omega)) rfl ?_
  refine G.callP Tryd.call41 rfl rfl (fun w1 hw1 => f41_any w1 _ (by omega)) ?_
  refine G.v (V.asg rfl) rfl ?_
  refine G.nil ?_
  exact GC.ret1 rfl rfl fun w' hw' => ⟨rfl, hw'⟩

theorem f30_any (w : World) (s : List UInt8) (hs : s.length ≤ 20000) : Calls Tryd.prog 30 #[S s] w fun e w' => e = .returned (.int .u16 ((s.count 47 : Nat) : Int)) ∧ HF w (fun _ => False) [] w' := by
  refine enter (fun _ => False) [] Tryd.func30 rfl Tryd.ntmps30 rfl rfl (HF.start w _) fun c hc => ?_
  subst hc
  have h1 := List.count_le_length (a := (47 : UInt8)) (l := s)
  refine GC.seq ?_
  refine GC.reg ?_  -- region 0, tree.go:83
  refine G.v (V.asg rfl) rfl ?_
  refine G.nil ?_
  refine GC.seq ?_
  refine GC.reg ?_  -- region 1, tree.go:84
  refine G.v (V.mv rfl) rfl ?_
  refine G.callP Tryd.call40 rfl rfl (fun w1 hw1 => f40_any w1 s 47 (by omega)) ?_
  refine G.callP Tryd.call41 rfl rfl (fun w1 hw1 => f41_any w1 _ (by omega)) ?_
  refine G.v (V.asg rfl) rfl ?_
  refine G.nil ?_
  exact GC.ret1 rfl rfl fun w' hw' => ⟨rfl, hw'⟩

end Go.Proofs

/- The common beginning, counts, slashes side by side. Printed by wip/mk_gs2.py. -/
namespace Go.Proofs
open Go Bw
set_option maxRecDepth 20000

theorem _root_.Bw.V.minI {P : Program} {c : Cx} {n : Nat} {fr : SF} {H : SH} {ty t u : TypeId} {x y : Operand} {i j : Nat} (hx : ev fr x = some (I (i : Int))) (hy : ev fr y = some (I (j : Int))) : Val P c n (.call ⟨.builtin .min, #[x, y], #[t, u]⟩) ty fr H (I ((min i j : Nat) : Int)) := by
  intro a w ha hw dst pos aft g
  have h := Go.run_min_int2 (P := P) (w := w) #[t, u] ty .i64 .i64 (i : Int) (j : Int)
  have e : (if ((j : Int) < (i : Int)) then (j : Int) else (i : Int)) = ((min i j : Nat) : Int) := by
    split <;> omega
  rw [e] at h
  simp [execOp, resolve, invoke, builtin, ha.eval hx, ha.eval hy, h]
theorem wrapU16 (n : Nat) (hn : n ≤ 65535) : IntKind.i64.wrap (n : Int) = (n : Int) := wrap_i64 (by omega) (by omega)
theorem f19_any (w : World) (s : List UInt8) (hs : s.length ≤ 20000) : Calls Tryd.prog 19 #[S s] w fun e w' => e = .returned (I ((s.count 58 + s.count 42 : Nat) : Int)) ∧ HF w (fun _ => False) [] w' := by
  refine enter (fun _ => False) [] Tryd.func19 rfl Tryd.ntmps19 rfl rfl (HF.start w _) fun c hc => ?_
  subst hc
  have h1 := List.count_le_length (a := (58 : UInt8)) (l := s)
  have h2 := List.count_le_length (a := (42 : UInt8)) (l := s)
  refine GC.seq ?_
  refine GC.reg ?_  -- region 0, zz_tree.go:112
  refine G.v (V.asg rfl) rfl ?_
  refine G.nil ?_
  refine GC.seq ?_
  refine GC.reg ?_  -- region 1, zz_tree.go:112
  refine G.v (V.mv rfl) rfl ?_
  refine G.callP Tryd.call29 rfl rfl (fun w1 hw1 => f29_any w1 s hs) ?_
  refine G.v (V.cvI Tryd.underlying22 Tryd.underlying3 rfl) rfl ?_
  rw [wrapU16 _ (by omega)]
  refine G.v (V.asg rfl) rfl ?_
  refine G.nil ?_
  exact GC.ret1 rfl rfl fun w' hw' => ⟨rfl, hw'⟩

theorem f12_any (w : World) (s : List UInt8) (hs : s.length ≤ 20000) : Calls Tryd.prog 12 #[S s] w fun e w' => e = .returned (I ((s.count 58 + s.count 42 : Nat) : Int)) ∧ HF w (fun _ => False) [] w' := by
  refine enter (fun _ => False) [] Tryd.func12 rfl Tryd.ntmps12 rfl rfl (HF.start w _) fun c hc => ?_
  subst hc
  refine GC.seq ?_
  refine GC.reg ?_  -- region 0, ginmore.go:30
  refine G.v (V.asg rfl) rfl ?_
  refine G.nil ?_
  refine GC.seq ?_
  refine GC.reg ?_  -- region 1, ginmore.go:31
  refine G.v (V.mv rfl) rfl ?_
  refine G.callP Tryd.call19 rfl rfl (fun w1 hw1 => f19_any w1 s hs) ?_
  refine G.v (V.asg rfl) rfl ?_
  refine G.nil ?_
  exact GC.ret1 rfl rfl fun w' hw' => ⟨rfl, hw'⟩

theorem f20_any (w : World) (s : List UInt8) (hs : s.length ≤ 20000) : Calls Tryd.prog 20 #[S s] w fun e w' => e = .returned (I ((s.count 47 : Nat) : Int)) ∧ HF w (fun _ => False) [] w' := by
  refine enter (fun _ => False) [] Tryd.func20 rfl Tryd.ntmps20 rfl rfl (HF.start w _) fun c hc => ?_
  subst hc
  have h1 := List.count_le_length (a := (47 : UInt8)) (l := s)
  refine GC.seq ?_
  refine GC.reg ?_  -- region 0, zz_tree.go:115
  refine G.v (V.asg rfl) rfl ?_
  refine G.nil ?_
  refine GC.seq ?_
  refine GC.reg ?_  -- region 1, zz_tree.go:115
  refine G.v (V.mv rfl) rfl ?_
  refine G.callP Tryd.call30 rfl rfl (fun w1 hw1 => f30_any w1 s hs) ?_
  refine G.v (V.cvI Tryd.underlying22 Tryd.underlying3 rfl) rfl ?_
  rw [wrapU16 _ (by omega)]
  refine G.v (V.asg rfl) rfl ?_
  refine G.nil ?_
  exact GC.ret1 rfl rfl fun w' hw' => ⟨rfl, hw'⟩

theorem f13_any (w : World) (s : List UInt8) (hs : s.length ≤ 20000) : Calls Tryd.prog 13 #[S s] w fun e w' => e = .returned (I ((s.count 47 : Nat) : Int)) ∧ HF w (fun _ => False) [] w' := by
  refine enter (fun _ => False) [] Tryd.func13 rfl Tryd.ntmps13 rfl rfl (HF.start w _) fun c hc => ?_
  subst hc
  refine GC.seq ?_
  refine GC.reg ?_  -- region 0, ginmore.go:34
  refine G.v (V.asg rfl) rfl ?_
  refine G.nil ?_
  refine GC.seq ?_
  refine GC.reg ?_  -- region 1, ginmore.go:35
  refine G.v (V.mv rfl) rfl ?_
  refine G.callP Tryd.call20 rfl rfl (fun w1 hw1 => f20_any w1 s hs) ?_
  refine G.v (V.asg rfl) rfl ?_
  refine G.nil ?_
  exact GC.ret1 rfl rfl fun w' hw' => ⟨rfl, hw'⟩

theorem f28_any (w : World) (a b : List UInt8) (ha : a.length ≤ 1000000000000) : Calls Tryd.prog 28 #[S a, S b] w fun e w' => e = .returned (I (Gs.lcp a b : Nat)) ∧ HF w (fun _ => False) [] w' := by
  refine enter (fun _ => False) [] Tryd.func28 rfl Tryd.ntmps28 rfl rfl (HF.start w _) fun c hc => ?_
  subst hc
  have hle := Gs.lcp_le a b
  refine GC.seq ?_
  refine GC.reg ?_  -- region 0, tree.go:58
  refine G.v (V.asg rfl) rfl ?_
  refine G.nil ?_
  refine GC.seq ?_
  refine GC.reg ?_  -- region 1, tree.go:59
  refine G.v (V.asg rfl) rfl ?_
  refine G.nil ?_
  refine GC.seq ?_
  refine GC.reg ?_  -- region 2, tree.go:60
  refine G.v (V.mv rfl) rfl ?_
  refine G.v (V.lenS Tryd.underlying9 rfl) rfl ?_
  refine G.v (V.mv rfl) rfl ?_
  refine G.v (V.lenS Tryd.underlying9 rfl) rfl ?_
  refine G.v (V.minI rfl rfl) rfl ?_
  refine G.v (V.asg rfl) rfl ?_
  refine G.nil ?_
  refine GC.seq ?_
  refine GC.block ?_
  refine GC.loopJ (fun N fr' H' => ∃ i, i + N = Gs.lcp a b ∧ Sub [(0, S a), (1, S b), (5, I ((i : Nat) : Int)), (6, I ((min a.length b.length : Nat) : Int))] fr' ∧ H' = []) (Gs.lcp a b)
    ⟨0, by omega, .cons rfl (.cons rfl (.cons rfl (.cons rfl .nil))), rfl⟩ ?_
  rintro N fr' H' ⟨i, hi, hs, rfl⟩ ih
  refine GC.weak hs ?_
  clear hs
  refine GC.seq ?_
  refine GC.seq ?_
  refine GC.join (fun fr' H' => ∃ t : Bool, (t = true → i + 1 ≤ Gs.lcp a b) ∧ (t = false → i = Gs.lcp a b) ∧ Sub [(0, S a), (1, S b), (5, I ((i : Nat) : Int)), (6, I ((min a.length b.length : Nat) : Int)), (23, .bool t)] fr' ∧ H' = []) (fun J3 => ?_) ?_
  · refine GC.regQ mixed (by kernel_rfl) ?_  -- region 3, tree.go:61
    refine GQ.v (V.mv rfl) rfl ?_
    refine GQ.v (V.mv rfl) rfl ?_
    refine GQ.v (V.lt rfl rfl) rfl ?_
    refine GQ.v (V.mv rfl) rfl ?_
    refine GQ.bc 15 rfl (fun h15 => ?_) (fun h15 => ?_)
    · have hlm : i < min a.length b.length := by have := of_decide_eq_true h15; omega
      obtain ⟨x, hx⟩ : ∃ x, a[i]? = some x := ⟨_, List.getElem?_eq_getElem (by omega)⟩
      obtain ⟨y, hy⟩ : ∃ y, b[i]? = some y := ⟨_, List.getElem?_eq_getElem (by omega)⟩
      have hst := Gs.lcp_lt (i := i) (by omega) hx hy
      refine GQ.vg rfl rfl (V.mv rfl) rfl ?_
      refine GQ.vg rfl rfl (V.mv rfl) rfl ?_
      refine GQ.vg rfl rfl (V.idx (i := i) (b := x) Tryd.underlying9 rfl rfl hx) rfl ?_
      refine GQ.vg rfl rfl (V.mv rfl) rfl ?_
      refine GQ.vg rfl rfl (V.mv rfl) rfl ?_
      refine GQ.vg rfl rfl (V.idx (i := i) (b := y) Tryd.underlying9 rfl rfl hy) rfl ?_
      refine GQ.vg rfl rfl (V.eqI rfl rfl) rfl ?_
      refine GQ.v (V.pickT rfl rfl) rfl ?_
      refine GQ.nil ?_
      exact J3 _ _ ⟨_, fun h => hst.1 (UInt8.toNat_inj.1 (by have := of_decide_eq_true h; omega)), fun h => hst.2 (fun e => absurd h (by rw [e]; simp)), .cons rfl (.cons rfl (.cons rfl (.cons rfl (.cons rfl .nil)))), rfl⟩
    · refine GQ.sg rfl rfl rfl rfl rfl rfl ?_
      refine GQ.sg rfl rfl rfl rfl rfl rfl ?_
      refine GQ.sg rfl rfl rfl rfl rfl rfl ?_
      refine GQ.sg rfl rfl rfl rfl rfl rfl ?_
      refine GQ.sg rfl rfl rfl rfl rfl rfl ?_
      refine GQ.sg rfl rfl rfl rfl rfl rfl ?_
      refine GQ.sg rfl rfl rfl rfl rfl rfl ?_
      refine GQ.v (V.pickF rfl rfl) rfl ?_
      refine GQ.nil ?_
      exact J3 _ _ ⟨false, fun h => (by cases h), fun _ => Gs.lcp_end (by omega) (by have := of_decide_eq_false h15; omega), .cons rfl (.cons rfl (.cons rfl (.cons rfl (.cons rfl .nil)))), rfl⟩
  rintro fr' H' ⟨t, ht1, ht2, hs3, rfl⟩
  refine GC.weak hs3 ?_
  clear hs3
  refine GC.cond rfl (fun h23 => ?_) (fun h23 => ?_)
  · refine GC.skip ?_
    refine GC.block ?_
    refine GC.reg ?_  -- region 4, tree.go:62
    refine G.v (V.mv rfl) rfl ?_
    refine G.v (V.addI (r := ((i + 1 : Nat) : Int)) rfl rfl rfl (by omega) (by omega)) rfl ?_
    refine G.v (V.asg rfl) rfl ?_
    refine G.nil ?_
    refine GC.inBlock ?_
    exact ih (N - 1) _ _ (by have := ht1 h23; omega) ⟨i + 1, by have := ht1 h23; omega, .cons rfl (.cons rfl (.cons rfl (.cons rfl .nil))), rfl⟩
  refine GC.exit rfl ?_
  refine GC.seq ?_
  refine GC.reg ?_  -- region 5, tree.go:64
  refine G.v (V.mv rfl) rfl ?_
  refine G.v (V.asg rfl) rfl ?_
  refine G.nil ?_
  have hie : i = Gs.lcp a b := ht2 (by simpa using h23)
  exact GC.ret1 rfl rfl fun w' hw' => ⟨by rw [hie], hw'⟩

theorem f18_any (w : World) (a b : List UInt8) (ha : a.length ≤ 1000000000000) : Calls Tryd.prog 18 #[S a, S b] w fun e w' => e = .returned (I (Gs.lcp a b : Nat)) ∧ HF w (fun _ => False) [] w' := by
  refine enter (fun _ => False) [] Tryd.func18 rfl Tryd.ntmps18 rfl rfl (HF.start w _) fun c hc => ?_
  subst hc
  refine GC.seq ?_
  refine GC.reg ?_  -- region 0, zz_tree.go:118
  refine G.v (V.asg rfl) rfl ?_
  refine G.nil ?_
  refine GC.seq ?_
  refine GC.reg ?_  -- region 1, zz_tree.go:118
  refine G.v (V.mv rfl) rfl ?_
  refine G.v (V.mv rfl) rfl ?_
  refine G.callP Tryd.call28 rfl rfl (fun w1 hw1 => f28_any w1 a b ha) ?_
  refine G.v (V.asg rfl) rfl ?_
  refine G.nil ?_
  exact GC.ret1 rfl rfl fun w' hw' => ⟨rfl, hw'⟩

theorem f11_any (w : World) (a b : List UInt8) (ha : a.length ≤ 1000000000000) : Calls Tryd.prog 11 #[S a, S b] w fun e w' => e = .returned (I (Gs.lcp a b : Nat)) ∧ HF w (fun _ => False) [] w' := by
  refine enter (fun _ => False) [] Tryd.func11 rfl Tryd.ntmps11 rfl rfl (HF.start w _) fun c hc => ?_
  subst hc
  refine GC.seq ?_
  refine GC.reg ?_  -- region 0, ginmore.go:38
  refine G.v (V.asg rfl) rfl ?_
  refine G.nil ?_
  refine GC.seq ?_
  refine GC.reg ?_  -- region 1, ginmore.go:39
  refine G.v (V.mv rfl) rfl ?_
  refine G.v (V.mv rfl) rfl ?_
  refine G.callP Tryd.call18 rfl rfl (fun w1 hw1 => f18_any w1 a b ha) ?_
  refine G.v (V.asg rfl) rfl ?_
  refine G.nil ?_
  exact GC.ret1 rfl rfl fun w' hw' => ⟨rfl, hw'⟩

theorem u47 {x : UInt8} (h : (x.toNat : Int) = 47) : x = 47 := UInt8.toNat_inj.1 (show x.toNat = 47 by omega)
/-- two slashes side by side -/
def dbl (s : List UInt8) : Prop := ∃ i, s[i]? = some (47 : UInt8) ∧ s[i + 1]? = some 47
theorem f10_any (w : World) (s : List UInt8) (hs : s.length ≤ 1000000000000) : Calls Tryd.prog 10 #[S s] w fun e w' => ∃ b : Bool, (b = true ↔ dbl s) ∧ e = .returned (.bool b) ∧ HF w (fun _ => False) [] w' := by
  refine enter (fun _ => False) [] Tryd.func10 rfl Tryd.ntmps10 rfl rfl (HF.start w _) fun c hc => ?_
  subst hc
  refine GC.seq ?_
  refine GC.reg ?_  -- region 0, ginmore.go:78
  refine G.v (V.asg rfl) rfl ?_
  refine G.nil ?_
  refine GC.seq ?_
  refine GC.seq ?_
  refine GC.reg ?_  -- region 1, ginmore.go:79
  refine G.v (V.mv rfl) rfl ?_
  refine G.v (V.lenS Tryd.underlying9 rfl) rfl ?_
  refine G.v (V.mv rfl) rfl ?_
  refine G.nil ?_
  refine GC.block ?_
  refine GC.loopJ (fun N fr' H' => ∃ i, i + N = s.length ∧ (∀ j, j + 1 < i → ¬ (s[j]? = some 47 ∧ s[j + 1]? = some 47)) ∧ Sub [(0, S s), (5, I (s.length : Nat)), (6, I ((i : Nat) : Int))] fr' ∧ H' = []) s.length
    ⟨0, by omega, fun j h => by omega, .cons rfl (.cons rfl (.cons rfl .nil)), rfl⟩ ?_
  rintro N fr' H' ⟨i, hi, hall, hs, rfl⟩ ih
  refine GC.weak hs ?_
  clear hs
  refine GC.seq ?_
  refine GC.reg ?_  -- region 2, ginmore.go:79
  refine G.v (V.lt rfl rfl) rfl ?_
  refine G.nil ?_
  refine GC.seq ?_
  refine GC.condD rfl (fun h7 => ?_) (fun h7 => ?_)
  · refine GC.skip ?_
    refine GC.seq ?_
    refine GC.block ?_
    refine GC.seq ?_
    have hlt : i < s.length := by omega
    obtain ⟨x, hx⟩ : ∃ x, s[i]? = some x := ⟨_, List.getElem?_eq_getElem hlt⟩
    refine GC.reg ?_  -- region 3, ginmore.go:79
    refine G.v (V.mv rfl) rfl ?_
    refine G.v (V.asg rfl) rfl ?_
    refine G.nil ?_
    refine GC.seq ?_
    refine GC.join (fun fr' H' => ∃ t : Bool, (t = true ↔ 0 < i ∧ s[i - 1]? = some 47 ∧ s[i]? = some 47) ∧ Sub [(0, S s), (5, I (s.length : Nat)), (6, I ((i : Nat) : Int)), (23, .bool t)] fr' ∧ H' = []) (fun J4 => ?_) ?_
    · refine GC.reg ?_  -- region 4, ginmore.go:80
      refine G.v (V.mv rfl) rfl ?_
      refine G.v (V.gt rfl rfl) rfl ?_
      refine G.v (V.mv rfl) rfl ?_
      refine G.bc 11 rfl (fun h11 => ?_) (fun h11 => ?_)
      · refine G.vg rfl rfl (V.mv rfl) rfl ?_
        refine G.vg rfl rfl (V.mv rfl) rfl ?_
        refine G.vg rfl rfl (V.idx (i := i) (b := x) Tryd.underlying9 rfl rfl hx) rfl ?_
        refine G.vg rfl rfl (V.eqI rfl rfl) rfl ?_
        refine G.v (V.pickT rfl rfl) rfl ?_
        refine G.v (V.mv rfl) rfl ?_
        refine G.bc 17 rfl (fun h17 => ?_) (fun h17 => ?_)
        · have hpos : 0 < i := by have := of_decide_eq_true h11; omega
          obtain ⟨y, hy⟩ : ∃ y, s[i - 1]? = some y := ⟨_, List.getElem?_eq_getElem (by omega)⟩
          refine G.vg rfl rfl (V.mv rfl) rfl ?_
          refine G.vg rfl rfl (V.mv rfl) rfl ?_
          refine G.vg rfl rfl (V.subI (r := ((i - 1 : Nat) : Int)) rfl rfl (by omega) (by omega) (by omega)) rfl ?_
          refine G.vg rfl rfl (V.idx (i := i - 1) (b := y) Tryd.underlying9 rfl rfl hy) rfl ?_
          refine G.vg rfl rfl (V.eqI rfl rfl) rfl ?_
          refine G.v (V.pickT rfl rfl) rfl ?_
          refine G.nil ?_
          refine J4 _ _ ⟨_, ?_, .cons rfl (.cons rfl (.cons rfl (.cons rfl .nil))), rfl⟩
          have e1 := u47 (of_decide_eq_true h17)
          rw [decide_eq_true_eq, hx, hy, e1]
          exact ⟨fun e2 => ⟨hpos, by rw [u47 e2], rfl⟩, fun ⟨_, e2, _⟩ => by rw [Option.some.inj e2]; rfl⟩
        · refine G.sg rfl rfl rfl rfl rfl rfl ?_
          refine G.sg rfl rfl rfl rfl rfl rfl ?_
          refine G.sg rfl rfl rfl rfl rfl rfl ?_
          refine G.sg rfl rfl rfl rfl rfl rfl ?_
          refine G.sg rfl rfl rfl rfl rfl rfl ?_
          refine G.v (V.pickF rfl rfl) rfl ?_
          refine G.nil ?_
          refine J4 _ _ ⟨false, ⟨fun h => (by cases h), fun ⟨_, _, e2⟩ => ?_⟩, .cons rfl (.cons rfl (.cons rfl (.cons rfl .nil))), rfl⟩
          rw [hx] at e2
          rw [Option.some.inj e2] at h17
          exact absurd h17 (by decide)
      · refine G.sg rfl rfl rfl rfl rfl rfl ?_
        refine G.sg rfl rfl rfl rfl rfl rfl ?_
        refine G.sg rfl rfl rfl rfl rfl rfl ?_
        refine G.sg rfl rfl rfl rfl rfl rfl ?_
        refine G.v (V.pickF rfl rfl) rfl ?_
        refine G.v (V.mv rfl) rfl ?_
        refine G.sg rfl rfl rfl rfl rfl rfl ?_
        refine G.sg rfl rfl rfl rfl rfl rfl ?_
        refine G.sg rfl rfl rfl rfl rfl rfl ?_
        refine G.sg rfl rfl rfl rfl rfl rfl ?_
        refine G.sg rfl rfl rfl rfl rfl rfl ?_
        refine G.v (V.pickF rfl rfl) rfl ?_
        refine G.nil ?_
        exact J4 _ _ ⟨false, ⟨fun h => (by cases h), fun ⟨h0, _⟩ => by have := of_decide_eq_false h11; omega⟩, .cons rfl (.cons rfl (.cons rfl (.cons rfl .nil))), rfl⟩
    rintro fr' H' ⟨t, ht, hs4, rfl⟩
    refine GC.weak hs4 ?_
    clear hs4
    refine GC.cond rfl (fun h23 => ?_) (fun h23 => ?_)
    · refine GC.seq ?_
      refine GC.reg ?_  -- region 5, ginmore.go:81
      refine G.v (V.asg rfl) rfl ?_
      refine G.nil ?_
      have h := ht.1 h23
      exact GC.ret1 rfl rfl fun w' hw' => ⟨true, ⟨fun _ => ⟨i - 1, h.2.1, by rw [Nat.sub_add_cancel h.1]; exact h.2.2⟩, fun _ => rfl⟩, rfl, hw'⟩
    refine GC.skip ?_
    refine GC.inBlock ?_
    refine GC.reg ?_  -- region 6, ginmore.go:79
    refine G.v (V.addI (r := ((i + 1 : Nat) : Int)) rfl rfl rfl (by omega) (by omega)) rfl ?_
    refine G.v (V.mv rfl) rfl ?_
    refine G.nil ?_
    refine ih (N - 1) _ _ (by omega) ⟨i + 1, by omega, fun j hj hh => ?_, .cons rfl (.cons rfl (.cons rfl .nil)), rfl⟩
    by_cases hij : j + 1 = i
    · subst hij; exact absurd (ht.2 ⟨by omega, hh.1, hh.2⟩) (by simp [h23])
    · exact hall j (by omega) hh
  refine GC.exit rfl ?_
  refine GC.seq ?_
  refine GC.reg ?_  -- region 7, ginmore.go:84
  refine G.v (V.asg rfl) rfl ?_
  refine G.nil ?_
  exact GC.ret1 rfl rfl fun w' hw' => ⟨false, ⟨fun h => (by cases h), fun ⟨j, h1, h2⟩ => absurd ⟨h1, h2⟩ (hall j (by have := (List.getElem?_eq_some_iff.1 h2).1; omega))⟩, rfl, hw'⟩

end Go.Proofs

/- bufApp: a path that is made anew only where it parts from the text. Printed by wip/mk_gs5.py. -/
namespace Go.Proofs
open Go Bw
set_option maxRecDepth 20000

/-- what has been written: 'out'; M: how much may be written -/
def BufSt (p : List UInt8) (M : Nat) (out : List UInt8) (sv : Value) (Hb : SH) : Prop :=
  ∃ (b m : Nat) (l : List UInt8), sv = .slice (some ⟨b, 0, none⟩) m l.length ∧ Hb = [⟨b, true, .row (bC l) 5 (0, 0)⟩] ∧ out.length ≤ M ∧
    ((m = 0 ∧ l.length = 128 ∧ M = p.length ∧ out = p.take out.length) ∨ (0 < m ∧ m = M ∧ M ≤ l.length ∧ l.take out.length = out))
theorem setL_bC {l : List UInt8} {i : Nat} {x : UInt8} : setL (bC l) (0 + i * 1) (.int .u8 (x.toNat : Int)) = bC (l.set i x) := by
  rw [setL_set, Nat.zero_add, Nat.mul_one]
  simp [bC, Lib.byteCells, List.map_set]
theorem take_set {l : List UInt8} {out : List UInt8} {x : UInt8} (h : l.take out.length = out) (hl : out.length < l.length) : (l.set out.length x).take (out ++ [x]).length = out ++ [x] := by
  rw [List.length_append, List.length_singleton, List.take_set, List.take_add_one, h, List.getElem?_eq_getElem hl]
  simp
theorem f39_any (w : World) (D : Nat → Prop) (vb M : Nat) (p out : List UInt8) (ch : UInt8) (sv : Value) (Hb : SH) (hH : HF w D (⟨vb, true, .row [sv] 47 (0, 0)⟩ :: Hb) w) (hB : BufSt p M out sv Hb) (hlt : out.length < M) (hp : p.length ≤ 5000) :
    Calls Tryd.prog 39 #[Pt vb 0, S p, I (out.length : Nat), .int .u8 (ch.toNat : Int)] w fun e w' => e = .returned (.tuple #[]) ∧ ∃ sv' Hb', BufSt p M (out ++ [ch]) sv' Hb' ∧ (∀ x ∈ Hb', x.w = true) ∧ HF w D (⟨vb, true, .row [sv'] 47 (0, 0)⟩ :: Hb') w' := by
  refine enter D (⟨vb, true, .row [sv] 47 (0, 0)⟩ :: Hb) Tryd.func39 rfl Tryd.ntmps39 rfl rfl hH fun c hc => ?_
  subst hc
  obtain ⟨b, m, l, rfl, rfl, hoM, hcase⟩ := hB
  refine GC.seq ?_
  refine GC.reg ?_  -- region 0, path.go:129
  refine G.v (V.mv rfl) rfl ?_
  refine G.v (V.nc rfl) rfl ?_
  refine G.v (V.ld (b := vb) (off := 0) (wf := true) (l := [.slice (some ⟨b, 0, none⟩) m l.length]) (T := 47) (fz := (0, 0)) (v := .slice (some ⟨b, 0, none⟩) m l.length) Tryd.isAgg47 rfl (.head _) rfl) rfl ?_
  refine G.v (V.asg rfl) rfl ?_
  refine G.nil ?_
  refine GC.seq ?_
  refine GC.seq ?_
  refine GC.reg ?_  -- region 1, path.go:130
  refine G.v (V.mv rfl) rfl ?_
  refine G.v (V.lenL Tryd.underlying47 rfl) rfl ?_
  refine G.v (V.eqI rfl rfl) rfl ?_
  refine G.nil ?_
  refine GC.join (fun fr' H' => ∃ (b2 : Nat) (l2 : List UInt8), M ≤ l2.length ∧ 0 < M ∧ l2.take out.length = out ∧ Sub [(0, Pt vb 0), (1, S p), (2, I (out.length : Nat)), (3, .int .u8 (ch.toNat : Int)), (8, .slice (some ⟨b2, 0, none⟩) M l2.length)] fr' ∧ ⟨vb, true, .row [.slice (some ⟨b2, 0, none⟩) M l2.length] 47 (0, 0)⟩ :: [⟨b2, true, .row (bC l2) 5 (0, 0)⟩] = H') (fun J15 => ?_) ?_
  · refine GC.condD rfl (fun h15 => ?_) (fun h15 => ?_)
    · refine GC.seq ?_
      refine GC.seq ?_
      obtain ⟨hm, hl, rfl, hout⟩ : m = 0 ∧ l.length = 128 ∧ M = p.length ∧ out = p.take out.length := by
        rcases hcase with h | h
        · exact h
        · omega
      subst hm
      obtain ⟨x, hx⟩ : ∃ x, p[out.length]? = some x := ⟨_, List.getElem?_eq_getElem hlt⟩
      refine GC.reg ?_  -- region 2, path.go:134
      refine G.v (V.mv rfl) rfl ?_
      refine G.v (V.mv rfl) rfl ?_
      refine G.v (V.idx (i := out.length) (b := x) Tryd.underlying9 rfl rfl hx) rfl ?_
      refine G.v (V.mv rfl) rfl ?_
      refine G.v (V.eqI rfl rfl) rfl ?_
      refine G.nil ?_
      refine GC.condD rfl (fun h20 => ?_) (fun h20 => ?_)
      · exact GC.ret0 rfl fun w' hw' => ⟨rfl, _, _, ⟨b, 0, l, rfl, rfl, by simp; omega, .inl ⟨rfl, hl, rfl, by rw [List.length_append, List.length_singleton, List.take_add_one, hx, ← hout, UInt8.toNat_inj.1 (show x.toNat = ch.toNat by omega)]; rfl⟩⟩, by simp, hw'⟩
      refine GC.skip ?_
      refine GC.seq ?_
      refine GC.reg ?_  -- region 3, path.go:140
      refine G.v (V.mv rfl) rfl ?_
      refine G.v (V.lenS Tryd.underlying9 rfl) rfl ?_
      refine G.v (V.asg rfl) rfl ?_
      refine G.nil ?_
      refine GC.seq ?_
      refine GC.seq ?_
      refine GC.reg ?_  -- region 4, path.go:141
      refine G.v (V.mv rfl) rfl ?_
      refine G.v (V.mv rfl) rfl ?_
      refine G.v (V.capL Tryd.underlying47 rfl) rfl ?_
      refine G.v (V.gt rfl rfl) rfl ?_
      refine G.nil ?_
      refine GC.join (fun fr' H' => ∃ (b2 : Nat) (l2 : List UInt8), p.length ≤ l2.length ∧ Sub [(0, Pt vb 0), (1, S p), (2, I (out.length : Nat)), (3, .int .u8 (ch.toNat : Int)), (8, .slice (some ⟨b, 0, none⟩) 0 l.length), (9, I (p.length : Nat))] fr' ∧ (∀ w1, HF w D H' w1 → HF w D (⟨vb, true, .row [.slice (some ⟨b2, 0, none⟩) p.length l2.length] 47 (0, 0)⟩ :: [⟨b2, true, .row (bC l2) 5 (0, 0)⟩]) w1)) (fun J26 => ?_) ?_
      · refine GC.condD rfl (fun h26 => ?_) (fun h26 => ?_)
        · refine GC.reg ?_  -- region 5, path.go:142
          refine G.v (V.mv rfl) rfl ?_
          refine G.v (V.mv rfl) rfl ?_
          refine G.new (kb := .row (bC (List.replicate p.length 0)) 5 (0, 0)) (v := fun b => .slice (some ⟨b, 0, none⟩) p.length p.length) (fun a w1 ha hw1 => mkB (i5 := Tryd.t5) Tryd.underlying47 rfl rfl rfl rfl ha rfl rfl (Nat.le_refl _) (by omega)) rfl (fun b2 hb2 => ?_)
          refine G.v (V.nc rfl) rfl ?_
          refine G.st Tryd.sizeOf47 rfl rfl rfl (.s .z) rfl rfl ?_
          refine G.nil ?_
          have e : (List.replicate p.length (0 : UInt8)).length = p.length := List.length_replicate
          refine J26 _ _ ⟨b2, List.replicate p.length 0, by rw [e]; exact Nat.le_refl _, .cons rfl (.cons rfl (.cons rfl (.cons rfl (.cons rfl (.cons rfl .nil))))), fun w1 h => ?_⟩
          rw [e]
          have h2 := (h.perm (List.Perm.swap _ _ _))
          exact h2.sub (by simp [setL])
        refine GC.reg ?_  -- region 6, path.go:144
        refine G.v (V.mv rfl) rfl ?_
        refine G.v (V.mv rfl) rfl ?_
        refine G.v (V.nc rfl) rfl ?_
        refine G.v (V.ld (b := vb) (off := 0) (wf := true) (T := 47) (fz := (0, 0)) (v := .slice (some ⟨b, 0, none⟩) 0 l.length) Tryd.isAgg47 rfl (.head _) rfl) rfl ?_
        refine G.v (V.mv rfl) rfl ?_
        refine G.v (V.slTH (i := p.length) Tryd.underlying47 Tryd.sizeOf5 rfl rfl (by omega)) rfl ?_
        refine G.v (V.nc rfl) rfl ?_
        refine G.st Tryd.sizeOf47 rfl rfl rfl .z rfl rfl ?_
        refine G.nil ?_
        exact J26 _ _ ⟨b, l, by omega, .cons rfl (.cons rfl (.cons rfl (.cons rfl (.cons rfl (.cons rfl .nil))))), fun w1 h => h⟩
      rintro fr' H' ⟨b2, l2, hM, hs26, hH2⟩
      refine GC.weak hs26 ?_
      clear hs26
      refine GC.turn hH2 ?_
      refine GC.seq ?_
      refine GC.reg ?_  -- region 7, path.go:146
      refine G.v (V.mv rfl) rfl ?_
      refine G.v (V.nc rfl) rfl ?_
      refine G.v (V.ld (b := vb) (off := 0) (wf := true) (l := [.slice (some ⟨b2, 0, none⟩) p.length l2.length]) (T := 47) (fz := (0, 0)) (v := .slice (some ⟨b2, 0, none⟩) p.length l2.length) Tryd.isAgg47 rfl (.head _) rfl) rfl ?_
      refine G.v (V.asg rfl) rfl ?_
      refine G.nil ?_
      refine GC.reg ?_  -- region 8, path.go:148
      refine G.v (V.mv rfl) rfl ?_
      refine G.v (V.mv rfl) rfl ?_
      refine G.v (V.mv rfl) rfl ?_
      refine G.v (V.slH (j := out.length) Tryd.underlying9 rfl rfl (by omega)) rfl ?_
      rw [← hout]
      refine G.copyS (i := 1) (l := l2) Tryd.underlying47 rfl rfl rfl (.s .z) (by omega) (by omega) rfl ?_
      refine G.nil ?_
      have e : (out ++ l2.drop out.length).length = l2.length := by simp; omega
      exact J15 _ _ ⟨b2, out ++ l2.drop out.length, by rw [e]; exact hM, by omega, by simp, by rw [e]; exact .cons rfl (.cons rfl (.cons rfl (.cons rfl (.cons rfl .nil)))), by rw [e]; rfl⟩
    refine GC.skip ?_
    obtain ⟨h1, h2, h3, h4⟩ : 0 < m ∧ m = M ∧ M ≤ l.length ∧ l.take out.length = out := by
      rcases hcase with h | h
      · omega
      · exact h
    subst h2
    exact J15 _ _ ⟨b, l, h3, h1, h4, .cons rfl (.cons rfl (.cons rfl (.cons rfl (.cons rfl .nil)))), rfl⟩
  rintro fr' H' ⟨b2, l2, hM, hM0, htk, hs15, rfl⟩
  refine GC.weak hs15 ?_
  clear hs15
  refine GC.reg ?_  -- region 9, path.go:150
  refine G.v (V.mv rfl) rfl ?_
  refine G.v (V.mv rfl) rfl ?_
  refine G.v (V.mv rfl) rfl ?_
  refine G.v (V.ia (i := out.length) Tryd.underlying47 Tryd.sizeOf5 rfl rfl hlt) rfl ?_
  refine G.st (b := b2) (off := 0 + out.length * 1) (l := bC l2) (T := 5) (fz := (0, 0)) Tryd.sizeOf5 rfl rfl rfl (.s .z) (by rw [nth_eq, Nat.zero_add, Nat.mul_one, List.getElem?_eq_getElem (by rw [bC_len]; omega)]; rfl) rfl ?_
  rw [setL_bC]
  refine G.nil ?_
  exact GC.end0 rfl fun w' hw' => ⟨rfl, _, _, ⟨b2, M, l2.set out.length ch, by rw [List.length_set], rfl, by simp; omega, .inr ⟨hM0, rfl, by rw [List.length_set]; exact hM, take_set htk (by omega)⟩⟩, by simp, hw'⟩

end Go.Proofs

/- cleanPath cleans. Printed by wip/mk_gs6.py. -/
namespace Go.Proofs
open Go Bw
set_option maxRecDepth 20000

theorem BufSt.cut {p : List UInt8} {M : Nat} {out : List UInt8} {sv : Value} {Hb : SH} (h : BufSt p M out sv Hb) {k : Nat} (hk : k ≤ out.length) : BufSt p M (out.take k) sv Hb := by
  obtain ⟨b, m, l, h1, h2, h3, h4⟩ := h
  have hl : (out.take k).length = k := by simp; omega
  refine ⟨b, m, l, h1, h2, by omega, ?_⟩
  rcases h4 with ⟨a1, a2, a3, a4⟩ | ⟨a1, a2, a3, a4⟩
  · refine .inl ⟨a1, a2, a3, ?_⟩
    rw [hl]
    conv => lhs; rw [a4]
    rw [List.take_take, Nat.min_eq_left hk]
  · refine .inr ⟨a1, a2, a3, ?_⟩
    rw [hl]
    conv => rhs; rw [← a4]
    rw [List.take_take, Nat.min_eq_left hk]
theorem clean_nil : Gs.clean [] = [47] := by decide
theorem getLast_idx {p : List UInt8} {y : UInt8} (h : p[p.length - 1]? = some y) : p.getLast? = some y := by rw [List.getLast?_eq_getElem?]; exact h
theorem neI_val {x y : UInt8} (h : (!decide ((x.toNat : Int) = (y.toNat : Int))) = false) : x = y := by
  have : decide ((x.toNat : Int) = (y.toNat : Int)) = true := by simpa using h
  exact UInt8.toNat_inj.1 (by have := of_decide_eq_true this; omega)
theorem u46 {x : UInt8} (h : (x.toNat : Int) = 46) : x = 46 := UInt8.toNat_inj.1 (show x.toNat = 46 by omega)
theorem f27_any (w : World) (p : List UInt8) (hp : p.length ≤ 4000) : Calls Tryd.prog 27 #[S p] w fun e w' => e = .returned (S (Gs.clean p)) ∧ HF w (fun _ => False) [] w' := by
  refine enter (fun _ => False) [] Tryd.func27 rfl Tryd.ntmps27 rfl rfl (HF.start w _) fun c hc => ?_
  subst hc
  refine GC.seq ?_
  refine GC.reg ?_  -- region 0, path.go:23
  refine G.v (V.asg rfl) rfl ?_
  refine G.nil ?_
  refine GC.seq ?_
  refine GC.seq ?_
  refine GC.reg ?_  -- region 1, path.go:25
  refine G.v (V.mv rfl) rfl ?_
  refine G.v (V.eqS rfl rfl) rfl ?_
  refine G.nil ?_
  refine GC.condD rfl (fun h9 => ?_) (fun h9 => ?_)
  · refine GC.seq ?_
    refine GC.reg ?_  -- region 2, path.go:26
    refine G.v (V.asg rfl) rfl ?_
    refine G.nil ?_
    subst h9
    exact GC.ret1 rfl rfl fun w' hw' => ⟨by rw [clean_nil], hw'⟩
  refine GC.skip ?_
  refine GC.seq ?_
  refine GC.reg ?_  -- region 3, path.go:31
  refine G.new (kb := .row (bC (List.replicate 128 0)) 5 (0, 0)) (v := fun b => .slice (some ⟨b, 0, none⟩) 0 128) (fun a w1 ha hw1 => mkB (i5 := Tryd.t5) (l := 0) (z := 128) Tryd.underlying47 rfl rfl rfl rfl ha rfl rfl (by omega) (by omega)) rfl (fun b0 hb0 => ?_)
  refine G.al Tryd.zeroValue47 rfl rfl (fun vb hvb => ?_)
  refine G.st Tryd.sizeOf47 rfl rfl rfl .z rfl rfl ?_
  refine G.nil ?_
  refine GC.seq ?_
  refine GC.turn (H' := [⟨vb, true, .row [.slice (some ⟨b0, 0, none⟩) 0 128] 47 (0, 0)⟩, ⟨b0, true, .row (bC (List.replicate 128 0)) 5 (0, 0)⟩]) (fun w1 hw1 => hw1) ?_
  have hpos : 0 < p.length := List.length_pos_iff.2 h9
  obtain ⟨x0, hx0⟩ : ∃ x0, p[0]? = some x0 := ⟨_, List.getElem?_eq_getElem hpos⟩
  have hr128 : (List.replicate 128 (0 : UInt8)).length = 128 := List.length_replicate
  refine GC.reg ?_  -- region 4, path.go:33
  refine G.v (V.mv rfl) rfl ?_
  refine G.v (V.lenS Tryd.underlying9 rfl) rfl ?_
  refine G.v (V.asg rfl) rfl ?_
  refine G.nil ?_
  refine GC.seq ?_
  refine GC.reg ?_  -- region 5, path.go:40
  refine G.v (V.asg rfl) rfl ?_
  refine G.nil ?_
  refine GC.seq ?_
  refine GC.reg ?_  -- region 6, path.go:41
  refine G.v (V.asg rfl) rfl ?_
  refine G.nil ?_
  refine GC.seq ?_
  refine GC.seq ?_
  refine GC.reg ?_  -- region 7, path.go:43
  refine G.v (V.mv rfl) rfl ?_
  refine G.v (V.idx (i := 0) (b := x0) Tryd.underlying9 rfl rfl hx0) rfl ?_
  refine G.v (V.neI rfl rfl) rfl ?_
  refine G.nil ?_
  refine GC.join (fun fr' H' => ∃ (r M : Nat) (sv : Value) (Hb : SH), BufSt p M [47] sv Hb ∧ (∀ x ∈ Hb, x.w = true) ∧ r ≤ 1 ∧ M + r = p.length + 1 ∧ Gs.pfold [] (Gs.secs (p.drop r)) = Gs.pfold [] (Gs.secs p) ∧ (Gs.ld p ↔ Gs.ld (p.drop r)) ∧ Sub [(0, S p), (3, Pt vb 0), (4, I (p.length : Nat)), (5, I ((r : Nat) : Int)), (6, I 1)] fr' ∧ (∀ w1, HF w (fun _ => False) H' w1 → HF w (fun _ => False) (⟨vb, true, .row [sv] 47 (0, 0)⟩ :: Hb) w1)) (fun J15 => ?_) ?_
  · refine GC.cond rfl (fun h15 => ?_) (fun h15 => ?_)
    · refine GC.seq ?_
      refine GC.reg ?_  -- region 8, path.go:44
      refine G.v (V.asg rfl) rfl ?_
      refine G.nil ?_
      refine GC.seq ?_
      refine GC.seq ?_
      refine GC.reg ?_  -- region 9, path.go:46
      refine G.v (V.mv rfl) rfl ?_
      refine G.v (V.addI (r := ((p.length + 1 : Nat) : Int)) rfl rfl rfl (by omega) (by omega)) rfl ?_
      refine G.v (V.gt rfl rfl) rfl ?_
      refine G.nil ?_
      refine GC.join (fun fr' H' => ∃ (b2 : Nat) (l2 : List UInt8), p.length + 1 ≤ l2.length ∧ Sub [(0, S p), (3, Pt vb 0), (4, I (p.length : Nat)), (5, I 0), (6, I 1)] fr' ∧ (∀ w1, HF w (fun _ => False) H' w1 → HF w (fun _ => False) [⟨vb, true, .row [.slice (some ⟨b2, 0, none⟩) (p.length + 1) l2.length] 47 (0, 0)⟩, ⟨b2, true, .row (bC l2) 5 (0, 0)⟩] w1)) (fun J18 => ?_) ?_
      · refine GC.condD rfl (fun h18 => ?_) (fun h18 => ?_)
        · refine GC.reg ?_  -- region 10, path.go:47
          refine G.v (V.mv rfl) rfl ?_
          refine G.v (V.addI (r := ((p.length + 1 : Nat) : Int)) rfl rfl rfl (by omega) (by omega)) rfl ?_
          refine G.new (kb := .row (bC (List.replicate (p.length + 1) 0)) 5 (0, 0)) (v := fun b => .slice (some ⟨b, 0, none⟩) (p.length + 1) (p.length + 1)) (fun a w1 ha hw1 => mkB (i5 := Tryd.t5) Tryd.underlying47 rfl rfl rfl rfl ha rfl rfl (Nat.le_refl _) (by omega)) rfl (fun b2 hb2 => ?_)
          refine G.st Tryd.sizeOf47 rfl rfl rfl (.s .z) rfl rfl ?_
          refine G.nil ?_
          have e : (List.replicate (p.length + 1) (0 : UInt8)).length = p.length + 1 := List.length_replicate
          refine J18 _ _ ⟨b2, List.replicate (p.length + 1) 0, by rw [e]; exact Nat.le_refl _, .cons rfl (.cons rfl (.cons rfl (.cons rfl (.cons rfl .nil)))), fun w1 h => ?_⟩
          rw [e]
          have h2 := (h.perm (List.Perm.swap _ _ _))
          exact h2.sub (by simp [setL])
        refine GC.reg ?_  -- region 11, path.go:49
        refine G.v (V.ld (b := vb) (off := 0) (wf := true) (T := 47) (fz := (0, 0)) (v := .slice (some ⟨b0, 0, none⟩) 0 128) Tryd.isAgg47 rfl (.head _) rfl) rfl ?_
        refine G.v (V.mv rfl) rfl ?_
        refine G.v (V.addI (r := ((p.length + 1 : Nat) : Int)) rfl rfl rfl (by omega) (by omega)) rfl ?_
        refine G.v (V.slTH (i := p.length + 1) Tryd.underlying47 Tryd.sizeOf5 rfl rfl (by omega)) rfl ?_
        refine G.st Tryd.sizeOf47 rfl rfl rfl .z rfl rfl ?_
        refine G.nil ?_
        exact J18 _ _ ⟨b0, List.replicate 128 0, by rw [hr128]; omega, .cons rfl (.cons rfl (.cons rfl (.cons rfl (.cons rfl .nil)))), fun w1 h => by rw [hr128]; exact h⟩
      rintro fr' H' ⟨b2, l2, hl2, hs18, hH18⟩
      refine GC.weak hs18 ?_
      clear hs18
      refine GC.turn hH18 ?_
      refine GC.reg ?_  -- region 12, path.go:51
      refine G.v (V.ld (b := vb) (off := 0) (wf := true) (T := 47) (fz := (0, 0)) (v := .slice (some ⟨b2, 0, none⟩) (p.length + 1) l2.length) Tryd.isAgg47 rfl (.head _) rfl) rfl ?_
      refine G.v (V.ia (i := 0) Tryd.underlying47 Tryd.sizeOf5 rfl rfl (by omega)) rfl ?_
      refine G.st (b := b2) (off := 0 + 0 * 1) (l := bC l2) (T := 5) (fz := (0, 0)) (v := .int .u8 ((47 : UInt8).toNat : Int)) Tryd.sizeOf5 rfl rfl rfl (.s .z) (by rw [nth_eq, Nat.zero_add, Nat.zero_mul, List.getElem?_eq_getElem (by rw [bC_len]; omega)]; rfl) rfl ?_
      rw [setL_bC]
      refine G.nil ?_
      refine J15 _ _ ⟨0, p.length + 1, _, _, ⟨b2, p.length + 1, l2.set 0 47, by rw [List.length_set], rfl, by simp, .inr ⟨by omega, rfl, by rw [List.length_set]; exact hl2, take_set (out := []) (by simp) (by simp; omega)⟩⟩, by simp, by omega, by omega, by simp, by simp, .cons rfl (.cons rfl (.cons rfl (.cons rfl (.cons rfl .nil)))), fun w1 h => h⟩
    refine GC.skip ?_
    have e47 : x0 = 47 := neI_val (y := 47) h15
    subst e47
    have hd1 : p = 47 :: p.drop 1 := by have := Gs.drop_cons hx0; simpa using this
    refine J15 _ _ ⟨1, p.length, _, _, ⟨b0, 0, List.replicate 128 0, by rw [hr128], rfl, by simp; omega, .inl ⟨rfl, hr128, rfl, ?_⟩⟩, by simp, by omega, by omega, ?_, ?_, .cons rfl (.cons rfl (.cons rfl (.cons rfl (.cons rfl .nil)))), fun w1 h => h⟩
    · rw [hd1]; rfl
    · conv => rhs; rw [hd1]
      rw [Gs.pf_cons]
    · conv => lhs; rw [hd1]
      exact Gs.ld_slash [] _
  rintro fr' H' ⟨r0, M, sv0, Hb0, hB0, hHb0, hr0, hM, hpf0, hld0, hs15, hH15⟩
  refine GC.weak hs15 ?_
  clear hs15
  refine GC.turn hH15 ?_
  refine GC.seq ?_
  refine GC.join (fun fr' H' => ∃ T0 : Bool, (T0 = true ↔ 1 < p.length ∧ p.getLast? = some 47) ∧ Sub [(0, S p), (3, Pt vb 0), (4, I (p.length : Nat)), (5, I ((r0 : Nat) : Int)), (6, I 1), (7, .bool T0)] fr' ∧ ⟨vb, true, .row [sv0] 47 (0, 0)⟩ :: Hb0 = H') (fun J13 => ?_) ?_
  · refine GC.reg ?_  -- region 13, path.go:54
    refine G.v (V.mv rfl) rfl ?_
    refine G.v (V.gt rfl rfl) rfl ?_
    refine G.v (V.mv rfl) rfl ?_
    refine G.bc 30 rfl (fun h30 => ?_) (fun h30 => ?_)
    · obtain ⟨yl, hyl⟩ : ∃ yl, p[p.length - 1]? = some yl := ⟨_, List.getElem?_eq_getElem (by omega)⟩
      refine G.vg rfl rfl (V.mv rfl) rfl ?_
      refine G.vg rfl rfl (V.mv rfl) rfl ?_
      refine G.vg rfl rfl (V.subI (r := ((p.length - 1 : Nat) : Int)) rfl rfl (by omega) (by omega) (by omega)) rfl ?_
      refine G.vg rfl rfl (V.idx (i := p.length - 1) (b := yl) Tryd.underlying9 rfl rfl hyl) rfl ?_
      refine G.vg rfl rfl (V.eqI rfl rfl) rfl ?_
      refine G.v (V.pickT rfl rfl) rfl ?_
      refine G.v (V.asg rfl) rfl ?_
      refine G.nil ?_
      refine J13 _ _ ⟨_, ?_, .cons rfl (.cons rfl (.cons rfl (.cons rfl (.cons rfl (.cons rfl .nil))))), rfl⟩
      rw [decide_eq_true_eq, getLast_idx hyl]
      have h1 := of_decide_eq_true h30
      exact ⟨fun e => ⟨by omega, by rw [u47 e]⟩, fun ⟨_, e⟩ => by rw [Option.some.inj e]; rfl⟩
    · refine G.sg rfl rfl rfl rfl rfl rfl ?_
      refine G.sg rfl rfl rfl rfl rfl rfl ?_
      refine G.sg rfl rfl rfl rfl rfl rfl ?_
      refine G.sg rfl rfl rfl rfl rfl rfl ?_
      refine G.sg rfl rfl rfl rfl rfl rfl ?_
      refine G.v (V.pickF rfl rfl) rfl ?_
      refine G.v (V.asg rfl) rfl ?_
      refine G.nil ?_
      exact J13 _ _ ⟨false, ⟨fun h => (by cases h), fun ⟨h1, _⟩ => by have := of_decide_eq_false h30; omega⟩, .cons rfl (.cons rfl (.cons rfl (.cons rfl (.cons rfl (.cons rfl .nil))))), rfl⟩
  rintro fr' H' ⟨T0, hT0, hs13, rfl⟩
  refine GC.weak hs13 ?_
  clear hs13
  refine GC.seq ?_
  refine GC.block ?_
  have hci0 : Gs.CInv p M T0 r0 [] T0 := ⟨by simp, hpf0, .inl ⟨rfl, hld0⟩, by simp [Gs.pout]; omega, fun h => absurd rfl h⟩
  refine GC.loopJ (fun N fr' H' => ∃ (r : Nat) (ps : List (List UInt8)) (T : Bool) (sv : Value) (Hb : SH), r + N = p.length + 2 ∧ Gs.CInv p M T0 r ps T ∧ BufSt p M (Gs.pout ps) sv Hb ∧ (∀ x ∈ Hb, x.w = true) ∧ Sub [(0, S p), (3, Pt vb 0), (4, I (p.length : Nat)), (5, I ((r : Nat) : Int)), (6, I ((Gs.pout ps).length : Nat)), (7, .bool T)] fr' ∧ ⟨vb, true, .row [sv] 47 (0, 0)⟩ :: Hb = H') (p.length + 2 - r0)
    ⟨r0, [], T0, sv0, Hb0, by omega, hci0, hB0, hHb0, .cons rfl (.cons rfl (.cons rfl (.cons rfl (.cons rfl (.cons rfl .nil))))), rfl⟩ ?_
  rintro N fr' H' ⟨r, ps, T, sv, Hb, hrN, hci, hB, hHb, hs, rfl⟩ ih
  refine GC.weak hs ?_
  clear hs
  have hpo1 := Gs.pout_one hci.ok
  refine GC.seq ?_
  refine GC.seq ?_
  refine GC.reg ?_  -- region 14, path.go:61
  refine G.v (V.mv rfl) rfl ?_
  refine G.v (V.mv rfl) rfl ?_
  refine G.v (V.lt rfl rfl) rfl ?_
  refine G.nil ?_
  refine GC.condD rfl (fun h39 => ?_) (fun h39 => ?_)
  · refine GC.skip ?_
    refine GC.block ?_
    refine GC.block ?_
    refine GC.seq ?_
    have hrn : r < p.length := by omega
    obtain ⟨x, hx⟩ : ∃ x, p[r]? = some x := ⟨_, List.getElem?_eq_getElem hrn⟩
    refine GC.join (fun fr' H' => ∃ t : Bool, (t = true ↔ x = 47) ∧ Sub [(0, S p), (3, Pt vb 0), (4, I (p.length : Nat)), (5, I ((r : Nat) : Int)), (6, I ((Gs.pout ps).length : Nat)), (7, .bool T), (66, .bool t)] fr' ∧ ⟨vb, true, .row [sv] 47 (0, 0)⟩ :: Hb = H') (fun J22 => ?_) ?_
    · refine GC.reg ?_  -- region 22, path.go:63
      refine G.v (V.mv rfl) rfl ?_
      refine G.v (V.mv rfl) rfl ?_
      refine G.v (V.idx (i := r) (b := x) Tryd.underlying9 rfl rfl hx) rfl ?_
      refine G.v (V.eqI rfl rfl) rfl ?_
      refine G.v (V.asg rfl) rfl ?_
      refine G.nil ?_
      exact J22 _ _ ⟨_, by rw [decide_eq_true_eq]; exact ⟨fun e => u47 e, fun e => by rw [e]; rfl⟩, .cons rfl (.cons rfl (.cons rfl (.cons rfl (.cons rfl (.cons rfl (.cons rfl .nil)))))), rfl⟩
    rintro fr' H' ⟨t66, ht66, hs22, rfl⟩
    refine GC.weak hs22 ?_
    clear hs22
    refine GC.cond rfl (fun h66 => ?_) (fun h66 => ?_)
    · refine GC.reg ?_  -- region 23, path.go:65
      refine G.v (V.mv rfl) rfl ?_
      refine G.v (V.addI (r := ((r + 1 : Nat) : Int)) rfl rfl rfl (by omega) (by omega)) rfl ?_
      refine G.v (V.asg rfl) rfl ?_
      refine G.nil ?_
      refine GC.inBlock ?_
      refine GC.inBlock ?_
      have e := ht66.1 h66
      subst e
      exact ih (p.length + 2 - (r + 1)) _ _ (by omega) ⟨r + 1, ps, T, sv, Hb, by omega, hci.slash hx, hB, hHb, .cons rfl (.cons rfl (.cons rfl (.cons rfl (.cons rfl (.cons rfl .nil))))), rfl⟩
    refine GC.seq ?_
    refine GC.join (fun fr' H' => ∃ t : Bool, (t = true ↔ x = 46 ∧ r + 1 = p.length) ∧ Sub [(0, S p), (3, Pt vb 0), (4, I (p.length : Nat)), (5, I ((r : Nat) : Int)), (6, I ((Gs.pout ps).length : Nat)), (7, .bool T), (73, .bool t)] fr' ∧ ⟨vb, true, .row [sv] 47 (0, 0)⟩ :: Hb = H') (fun J24 => ?_) ?_
    · refine GC.reg ?_  -- region 24, path.go:67
      refine G.v (V.mv rfl) rfl ?_
      refine G.v (V.mv rfl) rfl ?_
      refine G.v (V.idx (i := r) (b := x) Tryd.underlying9 rfl rfl hx) rfl ?_
      refine G.v (V.eqI rfl rfl) rfl ?_
      refine G.v (V.mv rfl) rfl ?_
      refine G.bc 78 rfl (fun h78 => ?_) (fun h78 => ?_)
      · refine G.vg rfl rfl (V.mv rfl) rfl ?_
        refine G.vg rfl rfl (V.addI (r := ((r + 1 : Nat) : Int)) rfl rfl rfl (by omega) (by omega)) rfl ?_
        refine G.vg rfl rfl (V.mv rfl) rfl ?_
        refine G.vg rfl rfl (V.eqI rfl rfl) rfl ?_
        refine G.v (V.pickT rfl rfl) rfl ?_
        refine G.v (V.asg rfl) rfl ?_
        refine G.nil ?_
        have e := u46 (of_decide_eq_true h78)
        exact J24 _ _ ⟨_, by rw [decide_eq_true_eq]; exact ⟨fun h => ⟨e, by omega⟩, fun h => by omega⟩, .cons rfl (.cons rfl (.cons rfl (.cons rfl (.cons rfl (.cons rfl (.cons rfl .nil)))))), rfl⟩
      · refine G.sg rfl rfl rfl rfl rfl rfl ?_
        refine G.sg rfl rfl rfl rfl rfl rfl ?_
        refine G.sg rfl rfl rfl rfl rfl rfl ?_
        refine G.sg rfl rfl rfl rfl rfl rfl ?_
        refine G.v (V.pickF rfl rfl) rfl ?_
        refine G.v (V.asg rfl) rfl ?_
        refine G.nil ?_
        exact J24 _ _ ⟨false, ⟨fun h => (by cases h), fun h => by rw [h.1] at h78; exact absurd h78 (by decide)⟩, .cons rfl (.cons rfl (.cons rfl (.cons rfl (.cons rfl (.cons rfl (.cons rfl .nil)))))), rfl⟩
    rintro fr' H' ⟨t73, ht73, hs24, rfl⟩
    refine GC.weak hs24 ?_
    clear hs24
    refine GC.cond rfl (fun h73 => ?_) (fun h73 => ?_)
    · refine GC.seq ?_
      refine GC.reg ?_  -- region 25, path.go:68
      refine G.v (V.asg rfl) rfl ?_
      refine G.nil ?_
      refine GC.reg ?_  -- region 26, path.go:69
      refine G.v (V.mv rfl) rfl ?_
      refine G.v (V.addI (r := ((r + 1 : Nat) : Int)) rfl rfl rfl (by omega) (by omega)) rfl ?_
      refine G.v (V.asg rfl) rfl ?_
      refine G.nil ?_
      refine GC.inBlock ?_
      refine GC.inBlock ?_
      have e := ht73.1 h73
      exact ih (p.length + 2 - (r + 1)) _ _ (by omega) ⟨r + 1, ps, true, sv, Hb, by omega, hci.dot (by rw [hx, e.1]) e.2, hB, hHb, .cons rfl (.cons rfl (.cons rfl (.cons rfl (.cons rfl (.cons rfl .nil))))), rfl⟩
    refine GC.seq ?_
    refine GC.join (fun fr' H' => ∃ t : Bool, (t = true ↔ x = 46 ∧ p[r + 1]? = some 47) ∧ Sub [(0, S p), (3, Pt vb 0), (4, I (p.length : Nat)), (5, I ((r : Nat) : Int)), (6, I ((Gs.pout ps).length : Nat)), (7, .bool T), (86, .bool t)] fr' ∧ ⟨vb, true, .row [sv] 47 (0, 0)⟩ :: Hb = H') (fun J27 => ?_) ?_
    · refine GC.reg ?_  -- region 27, path.go:71
      refine G.v (V.mv rfl) rfl ?_
      refine G.v (V.mv rfl) rfl ?_
      refine G.v (V.idx (i := r) (b := x) Tryd.underlying9 rfl rfl hx) rfl ?_
      refine G.v (V.eqI rfl rfl) rfl ?_
      refine G.v (V.mv rfl) rfl ?_
      refine G.bc 91 rfl (fun h91 => ?_) (fun h91 => ?_)
      · have e46 := u46 (of_decide_eq_true h91)
        obtain ⟨y, hy⟩ : ∃ y, p[r + 1]? = some y := ⟨_, List.getElem?_eq_getElem (by have : r + 1 ≠ p.length := fun h => absurd (ht73.2 ⟨e46, h⟩) (by simp [h73]); omega)⟩
        refine G.vg rfl rfl (V.mv rfl) rfl ?_
        refine G.vg rfl rfl (V.mv rfl) rfl ?_
        refine G.vg rfl rfl (V.addI (r := ((r + 1 : Nat) : Int)) rfl rfl rfl (by omega) (by omega)) rfl ?_
        refine G.vg rfl rfl (V.idx (i := r + 1) (b := y) Tryd.underlying9 rfl rfl hy) rfl ?_
        refine G.vg rfl rfl (V.eqI rfl rfl) rfl ?_
        refine G.v (V.pickT rfl rfl) rfl ?_
        refine G.v (V.asg rfl) rfl ?_
        refine G.nil ?_
        exact J27 _ _ ⟨_, by rw [decide_eq_true_eq, hy]; exact ⟨fun h => ⟨e46, by rw [u47 h]⟩, fun h => by rw [Option.some.inj h.2]; rfl⟩, .cons rfl (.cons rfl (.cons rfl (.cons rfl (.cons rfl (.cons rfl (.cons rfl .nil)))))), rfl⟩
      · refine G.sg rfl rfl rfl rfl rfl rfl ?_
        refine G.sg rfl rfl rfl rfl rfl rfl ?_
        refine G.sg rfl rfl rfl rfl rfl rfl ?_
        refine G.sg rfl rfl rfl rfl rfl rfl ?_
        refine G.sg rfl rfl rfl rfl rfl rfl ?_
        refine G.v (V.pickF rfl rfl) rfl ?_
        refine G.v (V.asg rfl) rfl ?_
        refine G.nil ?_
        exact J27 _ _ ⟨false, ⟨fun h => (by cases h), fun h => by rw [h.1] at h91; exact absurd h91 (by decide)⟩, .cons rfl (.cons rfl (.cons rfl (.cons rfl (.cons rfl (.cons rfl (.cons rfl .nil)))))), rfl⟩
    rintro fr' H' ⟨t86, ht86, hs27, rfl⟩
    refine GC.weak hs27 ?_
    clear hs27
    refine GC.cond rfl (fun h86 => ?_) (fun h86 => ?_)
    · refine GC.reg ?_  -- region 28, path.go:73
      refine G.v (V.mv rfl) rfl ?_
      refine G.v (V.addI (r := ((r + 2 : Nat) : Int)) rfl rfl rfl (by omega) (by omega)) rfl ?_
      refine G.v (V.asg rfl) rfl ?_
      refine G.nil ?_
      refine GC.inBlock ?_
      refine GC.inBlock ?_
      have e := ht86.1 h86
      exact ih (p.length + 2 - (r + 2)) _ _ (by omega) ⟨r + 2, ps, T, sv, Hb, by omega, hci.dots (by rw [hx, e.1]) e.2, hB, hHb, .cons rfl (.cons rfl (.cons rfl (.cons rfl (.cons rfl (.cons rfl .nil))))), rfl⟩
    refine GC.seq ?_
    refine GC.join (fun fr' H' => ∃ t : Bool, (t = true ↔ x = 46 ∧ p[r + 1]? = some 46 ∧ (r + 2 = p.length ∨ p[r + 2]? = some 47)) ∧ Sub [(0, S p), (3, Pt vb 0), (4, I (p.length : Nat)), (5, I ((r : Nat) : Int)), (6, I ((Gs.pout ps).length : Nat)), (7, .bool T), (100, .bool t)] fr' ∧ ⟨vb, true, .row [sv] 47 (0, 0)⟩ :: Hb = H') (fun J29 => ?_) ?_
    · refine GC.reg ?_  -- region 29, path.go:75
      refine G.v (V.mv rfl) rfl ?_
      refine G.v (V.mv rfl) rfl ?_
      refine G.v (V.idx (i := r) (b := x) Tryd.underlying9 rfl rfl hx) rfl ?_
      refine G.v (V.eqI rfl rfl) rfl ?_
      refine G.v (V.mv rfl) rfl ?_
      refine G.bc 105 rfl (fun h105 => ?_) (fun h105 => ?_)
      · have e46 := u46 (of_decide_eq_true h105)
        obtain ⟨y, hy⟩ : ∃ y, p[r + 1]? = some y := ⟨_, List.getElem?_eq_getElem (by have : r + 1 ≠ p.length := fun h => absurd (ht73.2 ⟨e46, h⟩) (by simp [h73]); omega)⟩
        refine G.vg rfl rfl (V.mv rfl) rfl ?_
        refine G.vg rfl rfl (V.mv rfl) rfl ?_
        refine G.vg rfl rfl (V.addI (r := ((r + 1 : Nat) : Int)) rfl rfl rfl (by omega) (by omega)) rfl ?_
        refine G.vg rfl rfl (V.idx (i := r + 1) (b := y) Tryd.underlying9 rfl rfl hy) rfl ?_
        refine G.vg rfl rfl (V.eqI rfl rfl) rfl ?_
        refine G.v (V.pickT rfl rfl) rfl ?_
        refine G.v (V.mv rfl) rfl ?_
        refine G.bc 112 rfl (fun h112 => ?_) (fun h112 => ?_)
        · have f46 := u46 (of_decide_eq_true h112)
          have hl1 := (List.getElem?_eq_some_iff.1 hy).1
          refine G.vg rfl rfl (V.mv rfl) rfl ?_
          refine G.vg rfl rfl (V.addI (r := ((r + 2 : Nat) : Int)) rfl rfl rfl (by omega) (by omega)) rfl ?_
          refine G.vg rfl rfl (V.mv rfl) rfl ?_
          refine G.vg rfl rfl (V.eqI rfl rfl) rfl ?_
          refine G.vg rfl rfl (V.mv rfl) rfl ?_
          refine G.bc 117 rfl (fun h117 => ?_) (fun h117 => ?_)
          · refine G.sg rfl rfl rfl rfl rfl rfl ?_
            refine G.sg rfl rfl rfl rfl rfl rfl ?_
            refine G.sg rfl rfl rfl rfl rfl rfl ?_
            refine G.sg rfl rfl rfl rfl rfl rfl ?_
            refine G.sg rfl rfl rfl rfl rfl rfl ?_
            refine G.vg rfl rfl (V.pickT rfl rfl) rfl ?_
            refine G.v (V.pickT rfl rfl) rfl ?_
            refine G.v (V.asg rfl) rfl ?_
            refine G.nil ?_
            refine J29 _ _ ⟨true, ⟨fun _ => ⟨e46, by rw [hy, f46], .inl (by have := of_decide_eq_true h117; omega)⟩, fun _ => rfl⟩, .cons rfl (.cons rfl (.cons rfl (.cons rfl (.cons rfl (.cons rfl (.cons rfl .nil)))))), rfl⟩
          · obtain ⟨z, hz⟩ : ∃ z, p[r + 2]? = some z := ⟨_, List.getElem?_eq_getElem (by have := of_decide_eq_false h117; omega)⟩
            refine G.vg rfl rfl (V.mv rfl) rfl ?_
            refine G.vg rfl rfl (V.mv rfl) rfl ?_
            refine G.vg rfl rfl (V.addI (r := ((r + 2 : Nat) : Int)) rfl rfl rfl (by omega) (by omega)) rfl ?_
            refine G.vg rfl rfl (V.idx (i := r + 2) (b := z) Tryd.underlying9 rfl rfl hz) rfl ?_
            refine G.vg rfl rfl (V.eqI rfl rfl) rfl ?_
            refine G.vg rfl rfl (V.pickF rfl rfl) rfl ?_
            refine G.v (V.pickT rfl rfl) rfl ?_
            refine G.v (V.asg rfl) rfl ?_
            refine G.nil ?_
            refine J29 _ _ ⟨_, ?_, .cons rfl (.cons rfl (.cons rfl (.cons rfl (.cons rfl (.cons rfl (.cons rfl .nil)))))), rfl⟩
            rw [decide_eq_true_eq, hz]
            refine ⟨fun h => ⟨e46, by rw [hy, f46], .inr (by rw [u47 h])⟩, fun h => ?_⟩
            rcases h.2.2 with h2 | h2
            · have := of_decide_eq_false h117; omega
            · rw [Option.some.inj h2]; rfl
        · refine G.sg rfl rfl rfl rfl rfl rfl ?_
          refine G.sg rfl rfl rfl rfl rfl rfl ?_
          refine G.sg rfl rfl rfl rfl rfl rfl ?_
          refine G.sg rfl rfl rfl rfl rfl rfl ?_
          refine G.sg rfl rfl rfl rfl rfl rfl ?_
          refine G.sgU rfl rfl rfl rfl rfl ?_
          refine G.sgU rfl rfl rfl rfl rfl ?_
          refine G.sgU rfl rfl rfl rfl rfl ?_
          refine G.sgU rfl rfl rfl rfl rfl ?_
          refine G.sgU rfl rfl rfl rfl rfl ?_
          refine G.sg rfl rfl rfl rfl rfl rfl ?_
          refine G.v (V.pickF rfl rfl) rfl ?_
          refine G.v (V.asg rfl) rfl ?_
          refine G.nil ?_
          exact J29 _ _ ⟨false, ⟨fun h => (by cases h), fun h => by rw [hy] at h; rw [Option.some.inj h.2.1] at h112; exact absurd h112 (by decide)⟩, .cons rfl (.cons rfl (.cons rfl (.cons rfl (.cons rfl (.cons rfl (.cons rfl .nil)))))), rfl⟩
      · refine G.sg rfl rfl rfl rfl rfl rfl ?_
        refine G.sg rfl rfl rfl rfl rfl rfl ?_
        refine G.sg rfl rfl rfl rfl rfl rfl ?_
        refine G.sg rfl rfl rfl rfl rfl rfl ?_
        refine G.sg rfl rfl rfl rfl rfl rfl ?_
        refine G.v (V.pickF rfl rfl) rfl ?_
        refine G.v (V.mv rfl) rfl ?_
        refine G.sg rfl rfl rfl rfl rfl rfl ?_
        refine G.sg rfl rfl rfl rfl rfl rfl ?_
        refine G.sg rfl rfl rfl rfl rfl rfl ?_
        refine G.sg rfl rfl rfl rfl rfl rfl ?_
        refine G.sg rfl rfl rfl rfl rfl rfl ?_
        refine G.sgU rfl rfl rfl rfl rfl ?_
        refine G.sgU rfl rfl rfl rfl rfl ?_
        refine G.sgU rfl rfl rfl rfl rfl ?_
        refine G.sgU rfl rfl rfl rfl rfl ?_
        refine G.sgU rfl rfl rfl rfl rfl ?_
        refine G.sg rfl rfl rfl rfl rfl rfl ?_
        refine G.v (V.pickF rfl rfl) rfl ?_
        refine G.v (V.asg rfl) rfl ?_
        refine G.nil ?_
        exact J29 _ _ ⟨false, ⟨fun h => (by cases h), fun h => by rw [h.1] at h105; exact absurd h105 (by decide)⟩, .cons rfl (.cons rfl (.cons rfl (.cons rfl (.cons rfl (.cons rfl (.cons rfl .nil)))))), rfl⟩
    rintro fr' H' ⟨t100, ht100, hs29, rfl⟩
    refine GC.weak hs29 ?_
    clear hs29
    refine GC.cond rfl (fun h100 => ?_) (fun h100 => ?_)
    · refine GC.seq ?_
      refine GC.reg ?_  -- region 30, path.go:77
      refine G.v (V.mv rfl) rfl ?_
      refine G.v (V.addI (r := ((r + 3 : Nat) : Int)) rfl rfl rfl (by omega) (by omega)) rfl ?_
      refine G.v (V.asg rfl) rfl ?_
      refine G.nil ?_
      refine GC.seq ?_
      refine GC.reg ?_  -- region 31, path.go:79
      refine G.v (V.mv rfl) rfl ?_
      refine G.v (V.gt rfl rfl) rfl ?_
      refine G.nil ?_
      refine GC.join (fun fr' H' => Sub [(0, S p), (3, Pt vb 0), (4, I (p.length : Nat)), (5, I ((r + 3 : Nat) : Int)), (6, I ((Gs.pout ps.dropLast).length : Nat)), (7, .bool T)] fr' ∧ BufSt p M (Gs.pout ps.dropLast) sv Hb ∧ ⟨vb, true, .row [sv] 47 (0, 0)⟩ :: Hb = H') (fun J128 => ?_) ?_
      · refine GC.condD rfl (fun h128 => ?_) (fun h128 => ?_)
        · refine GC.seq ?_
          have hne : ps ≠ [] := hpo1.2.1 (by omega)
          obtain ⟨k1, k2, k3, k4⟩ := Gs.pout_back hci.ok hne
          have hpq := (Gs.pout_one (ps := ps.dropLast) (fun x hx => hci.ok x (List.dropLast_subset _ hx))).1
          have hBd : BufSt p M (Gs.pout ps.dropLast) sv Hb := by have := hB.cut (Nat.le_of_lt k2); rw [k1] at this; exact this
          obtain ⟨m0, hm0⟩ : ∃ m0, (Gs.pout ps.dropLast).length = m0 := ⟨_, rfl⟩
          obtain ⟨o, ho⟩ : ∃ o, Gs.pout ps = o := ⟨_, rfl⟩
          rw [hm0] at k2 k3 k4 hpq
          rw [ho] at k2 k3 k4
          have hBo := hB
          rw [ho] at hBo
          have hoM : o.length ≤ M := by
            obtain ⟨_, _, _, _, _, q, _⟩ := hBo
            exact q
          rw [ho]
          rw [ho] at hpo1
          refine GC.reg ?_  -- region 32, path.go:81
          refine G.v (V.mv rfl) rfl ?_
          refine G.v (V.subI (r := ((o.length - 1 : Nat) : Int)) rfl rfl (by omega) (by omega) (by omega)) rfl ?_
          refine G.v (V.asg rfl) rfl ?_
          refine G.nil ?_
          refine GC.seq ?_
          refine GC.reg ?_  -- region 33, path.go:83
          obtain ⟨bb, mm, ll, hsv, hHb2, q1, q2⟩ := id hBo
          subst hsv
          refine G.v (V.ld (b := vb) (off := 0) (wf := true) (T := 47) (fz := (0, 0)) (v := .slice (some ⟨bb, 0, none⟩) mm ll.length) Tryd.isAgg47 rfl (.head _) rfl) rfl ?_
          refine G.v (V.lenL Tryd.underlying47 rfl) rfl ?_
          refine G.v (V.eqI rfl rfl) rfl ?_
          refine G.nil ?_
          refine GC.condD rfl (fun h133 => ?_) (fun h133 => ?_)
          · refine GC.block ?_
            refine GC.loopJ (fun N2 fr' H' => m0 + N2 < o.length ∧ Sub [(0, S p), (3, Pt vb 0), (4, I (p.length : Nat)), (5, I ((r + 3 : Nat) : Int)), (6, I ((m0 + N2 : Nat) : Int)), (7, .bool T)] fr' ∧ ⟨vb, true, .row [.slice (some ⟨bb, 0, none⟩) mm ll.length] 47 (0, 0)⟩ :: Hb = H') (o.length - 1 - m0)
              ⟨by omega, .cons rfl (.cons rfl (.cons rfl (.cons rfl (.cons (by rw [Nat.add_sub_cancel' (by omega)]; rfl) (.cons rfl .nil))))), rfl⟩ ?_
            rintro N2 fr' H' ⟨hN2, hs, rfl⟩ ih2
            refine GC.weak hs ?_
            clear hs
            obtain ⟨y, hy⟩ : ∃ y, o[m0 + N2]? = some y := ⟨_, List.getElem?_eq_getElem hN2⟩
            have hstop : (1 < m0 + N2 ∧ y ≠ 47) ↔ 0 < N2 := by
              constructor
              · rintro ⟨h1, h2⟩
                rcases Nat.eq_zero_or_pos N2 with h0 | h0
                · subst h0
                  have := k4 (by omega)
                  rw [Nat.add_zero, this] at hy
                  exact absurd (Option.some.inj hy).symm h2
                · exact h0
              · exact fun h0 => ⟨by omega, k3 _ _ (by omega) hy⟩
            refine GC.seq ?_
            refine GC.seq ?_
            refine GC.join (fun fr' H' => ∃ t : Bool, (t = true ↔ 0 < N2) ∧ Sub [(0, S p), (3, Pt vb 0), (4, I (p.length : Nat)), (5, I ((r + 3 : Nat) : Int)), (6, I ((m0 + N2 : Nat) : Int)), (7, .bool T), (141, .bool t)] fr' ∧ ⟨vb, true, .row [.slice (some ⟨bb, 0, none⟩) mm ll.length] 47 (0, 0)⟩ :: Hb = H') (fun J34 => ?_) ?_
            · refine GC.reg ?_  -- region 34, path.go:84
              refine G.v (V.mv rfl) rfl ?_
              refine G.v (V.gt rfl rfl) rfl ?_
              refine G.v (V.mv rfl) rfl ?_
              refine G.bc 136 rfl (fun h136 => ?_) (fun h136 => ?_)
              · refine G.vg rfl rfl (V.mv rfl) rfl ?_
                refine G.vg rfl rfl (V.mv rfl) rfl ?_
                have hpy : p[m0 + N2]? = some y := by
                  rcases q2 with ⟨_, _, _, z4⟩ | ⟨z1, _, _, _⟩
                  · rw [z4, List.getElem?_take_of_lt (by omega)] at hy; exact hy
                  · omega
                refine G.vg rfl rfl (V.idx (i := m0 + N2) (b := y) Tryd.underlying9 rfl rfl hpy) rfl ?_
                refine G.vg rfl rfl (V.neI rfl rfl) rfl ?_
                refine G.v (V.pickT rfl rfl) rfl ?_
                refine G.nil ?_
                refine J34 _ _ ⟨_, ?_, .cons rfl (.cons rfl (.cons rfl (.cons rfl (.cons rfl (.cons rfl (.cons rfl .nil)))))), rfl⟩
                rw [← hstop]
                have h1 := of_decide_eq_true h136
                rw [Bool.not_eq_true', decide_eq_false_iff_not]
                exact ⟨fun e => ⟨by omega, fun e2 => e (by rw [e2]; rfl)⟩, fun e e2 => e.2 (u47 e2)⟩
              · refine G.sg rfl rfl rfl rfl rfl rfl ?_
                refine G.sg rfl rfl rfl rfl rfl rfl ?_
                refine G.sg rfl rfl rfl rfl rfl rfl ?_
                refine G.sg rfl rfl rfl rfl rfl rfl ?_
                refine G.v (V.pickF rfl rfl) rfl ?_
                refine G.nil ?_
                exact J34 _ _ ⟨false, ⟨fun h => (by cases h), fun h => by have := hstop.2 h; have := of_decide_eq_false h136; omega⟩, .cons rfl (.cons rfl (.cons rfl (.cons rfl (.cons rfl (.cons rfl (.cons rfl .nil)))))), rfl⟩
            rintro fr' H' ⟨tt, htt, hsj, rfl⟩
            refine GC.weak hsj ?_
            clear hsj
            refine GC.cond rfl (fun h141 => ?_) (fun h141 => ?_)
            · refine GC.skip ?_
              refine GC.block ?_
              refine GC.reg ?_  -- region 35, path.go:85
              refine G.v (V.mv rfl) rfl ?_
              refine G.v (V.subI (r := ((m0 + (N2 - 1) : Nat) : Int)) rfl rfl (by have := htt.1 (by assumption); omega) (by omega) (by omega)) rfl ?_
              refine G.v (V.asg rfl) rfl ?_
              refine G.nil ?_
              refine GC.inBlock ?_
              have hN0 := htt.1 (by assumption)
              exact ih2 (N2 - 1) _ _ (by omega) ⟨by omega, .cons rfl (.cons rfl (.cons rfl (.cons rfl (.cons rfl (.cons rfl .nil))))), rfl⟩
            refine GC.exit rfl ?_
            have h0 : N2 = 0 := by have := mt htt.2 (by simp_all); omega
            subst h0
            subst hm0
            exact J128 _ _ ⟨.cons rfl (.cons rfl (.cons rfl (.cons rfl (.cons rfl (.cons rfl .nil))))), hBd, rfl⟩
          refine GC.block ?_
          refine GC.loopJ (fun N2 fr' H' => m0 + N2 < o.length ∧ Sub [(0, S p), (3, Pt vb 0), (4, I (p.length : Nat)), (5, I ((r + 3 : Nat) : Int)), (6, I ((m0 + N2 : Nat) : Int)), (7, .bool T)] fr' ∧ ⟨vb, true, .row [.slice (some ⟨bb, 0, none⟩) mm ll.length] 47 (0, 0)⟩ :: Hb = H') (o.length - 1 - m0)
            ⟨by omega, .cons rfl (.cons rfl (.cons rfl (.cons rfl (.cons (by rw [Nat.add_sub_cancel' (by omega)]; rfl) (.cons rfl .nil))))), rfl⟩ ?_
          rintro N2 fr' H' ⟨hN2, hs, rfl⟩ ih2
          refine GC.weak hs ?_
          clear hs
          obtain ⟨y, hy⟩ : ∃ y, o[m0 + N2]? = some y := ⟨_, List.getElem?_eq_getElem hN2⟩
          have hstop : (1 < m0 + N2 ∧ y ≠ 47) ↔ 0 < N2 := by
            constructor
            · rintro ⟨h1, h2⟩
              rcases Nat.eq_zero_or_pos N2 with h0 | h0
              · subst h0
                have := k4 (by omega)
                rw [Nat.add_zero, this] at hy
                exact absurd (Option.some.inj hy).symm h2
              · exact h0
            · exact fun h0 => ⟨by omega, k3 _ _ (by omega) hy⟩
          refine GC.seq ?_
          refine GC.seq ?_
          refine GC.join (fun fr' H' => ∃ t : Bool, (t = true ↔ 0 < N2) ∧ Sub [(0, S p), (3, Pt vb 0), (4, I (p.length : Nat)), (5, I ((r + 3 : Nat) : Int)), (6, I ((m0 + N2 : Nat) : Int)), (7, .bool T), (152, .bool t)] fr' ∧ ⟨vb, true, .row [.slice (some ⟨bb, 0, none⟩) mm ll.length] 47 (0, 0)⟩ :: Hb = H') (fun J36 => ?_) ?_
          · refine GC.reg ?_  -- region 36, path.go:88
            refine G.v (V.mv rfl) rfl ?_
            refine G.v (V.gt rfl rfl) rfl ?_
            refine G.v (V.mv rfl) rfl ?_
            refine G.bc 146 rfl (fun h146 => ?_) (fun h146 => ?_)
            · refine G.vg rfl rfl (V.ld (b := vb) (off := 0) (wf := true) (T := 47) (fz := (0, 0)) (v := .slice (some ⟨bb, 0, none⟩) mm ll.length) Tryd.isAgg47 rfl (.head _) rfl) rfl ?_
              refine G.vg rfl rfl (V.mv rfl) rfl ?_
              refine G.vg rfl rfl (V.ia (i := m0 + N2) Tryd.underlying47 Tryd.sizeOf5 rfl rfl (by rcases q2 with ⟨z1, _⟩ | ⟨_, z2, _⟩ <;> omega)) rfl ?_
              have hly : ll[m0 + N2]? = some y := by
                rcases q2 with ⟨z1, _⟩ | ⟨_, _, _, z4⟩
                · omega
                · rw [← z4, List.getElem?_take_of_lt (by omega)] at hy; exact hy
              refine G.vg rfl rfl (V.ld (b := bb) (off := 0 + (m0 + N2) * 1) (wf := true) (l := bC ll) (T := 5) (fz := (0, 0)) (v := .int .u8 (y.toNat : Int)) Tryd.isAgg5 rfl (by rw [hHb2]; exact .tail _ (.head _)) (by rw [nth_eq, Nat.zero_add, Nat.mul_one]; simp [bC, Lib.byteCells, hly])) rfl ?_
              refine G.vg rfl rfl (V.neI rfl rfl) rfl ?_
              refine G.v (V.pickT rfl rfl) rfl ?_
              refine G.nil ?_
              refine J36 _ _ ⟨_, ?_, .cons rfl (.cons rfl (.cons rfl (.cons rfl (.cons rfl (.cons rfl (.cons rfl .nil)))))), rfl⟩
              rw [← hstop]
              have h1 := of_decide_eq_true h146
              rw [Bool.not_eq_true', decide_eq_false_iff_not]
              exact ⟨fun e => ⟨by omega, fun e2 => e (by rw [e2]; rfl)⟩, fun e e2 => e.2 (u47 e2)⟩
            · refine G.sg rfl rfl rfl rfl rfl rfl ?_
              refine G.sg rfl rfl rfl rfl rfl rfl ?_
              refine G.sg rfl rfl rfl rfl rfl rfl ?_
              refine G.sg rfl rfl rfl rfl rfl rfl ?_
              refine G.sg rfl rfl rfl rfl rfl rfl ?_
              refine G.v (V.pickF rfl rfl) rfl ?_
              refine G.nil ?_
              exact J36 _ _ ⟨false, ⟨fun h => (by cases h), fun h => by have := hstop.2 h; have := of_decide_eq_false h146; omega⟩, .cons rfl (.cons rfl (.cons rfl (.cons rfl (.cons rfl (.cons rfl (.cons rfl .nil)))))), rfl⟩
          rintro fr' H' ⟨tt, htt, hsj, rfl⟩
          refine GC.weak hsj ?_
          clear hsj
          refine GC.cond rfl (fun h152 => ?_) (fun h152 => ?_)
          · refine GC.skip ?_
            refine GC.block ?_
            refine GC.reg ?_  -- region 37, path.go:89
            refine G.v (V.mv rfl) rfl ?_
            refine G.v (V.subI (r := ((m0 + (N2 - 1) : Nat) : Int)) rfl rfl (by have := htt.1 (by assumption); omega) (by omega) (by omega)) rfl ?_
            refine G.v (V.asg rfl) rfl ?_
            refine G.nil ?_
            refine GC.inBlock ?_
            have hN0 := htt.1 (by assumption)
            exact ih2 (N2 - 1) _ _ (by omega) ⟨by omega, .cons rfl (.cons rfl (.cons rfl (.cons rfl (.cons rfl (.cons rfl .nil))))), rfl⟩
          refine GC.exit rfl ?_
          have h0 : N2 = 0 := by have := mt htt.2 (by simp_all); omega
          subst h0
          subst hm0
          exact J128 _ _ ⟨.cons rfl (.cons rfl (.cons rfl (.cons rfl (.cons rfl (.cons rfl .nil))))), hBd, rfl⟩
        refine GC.skip ?_
        have he : ps = [] := by
          by_cases he : ps = []
          · exact he
          · have := hpo1.2.2 he; omega
        subst he
        exact J128 _ _ ⟨.cons rfl (.cons rfl (.cons rfl (.cons rfl (.cons rfl (.cons rfl .nil))))), hB, rfl⟩
      rintro fr' H' ⟨hs128, hB128, rfl⟩
      refine GC.weak hs128 ?_
      clear hs128
      refine GC.inBlock ?_
      refine GC.inBlock ?_
      have e := ht100.1 h100
      exact ih (p.length + 2 - (r + 3)) _ _ (by omega) ⟨r + 3, ps.dropLast, T, sv, Hb, by omega, hci.back (by rw [hx, e.1]) e.2.1 e.2.2, hB128, hHb, .cons rfl (.cons rfl (.cons rfl (.cons rfl (.cons rfl (.cons rfl .nil))))), rfl⟩
    refine GC.seq ?_
    refine GC.seq ?_
    obtain ⟨e, t, hde, he47, hte⟩ := Gs.esplit (p.drop r)
    have hx47 : x ≠ 47 := fun h => absurd (ht66.2 h) (by simp [h66])
    have hxs : ∀ {z}, p[r]? = some z → x = z := fun h => Option.some.inj (hx.symm.trans h)
    have hoe := Gs.okP_elem hde he47 hte hx hx47 (fun h => absurd (ht73.2 ⟨hxs h.1, h.2⟩) (by simp [h73])) (fun h => absurd (ht86.2 ⟨hxs h.1, h.2⟩) (by simp [h86])) (fun h => absurd (ht100.2 ⟨hxs h.1, h.2⟩) (by simp [h100]))
    have hci2 := hci.elem hrn hde hoe hte (fun h => hx47 (hxs h)) (fun h => (hT0.1 h).2)
    have hgk : ∀ k, p[r + k]? = (e ++ t)[k]? := fun k => by rw [← hde, List.getElem?_drop]
    have hlen : p.length - r = e.length + t.length := by have := congrArg List.length hde; simpa using this
    obtain ⟨o1, ho1⟩ : ∃ o1, (if ps = [] then [47] else Gs.pout ps ++ [47]) = o1 := ⟨_, rfl⟩
    have hpo2 : Gs.pout (ps ++ [e]) = o1 ++ e := by rw [← ho1]; exact Gs.pout_push e
    have hb1 := hci.b1
    have ho1l : o1.length + (p.length - r) ≤ M := by
      rw [← ho1]
      by_cases hq : ps = []
      · subst hq; simp [Gs.pout] at hb1 ⊢; omega
      · rw [if_neg hq]
        rcases hci.b2 hq with h2 | h2 | h2
        · simp; omega
        · exact absurd (hxs h2) hx47
        · omega
    refine GC.reg ?_  -- region 15, path.go:97
    refine G.v (V.mv rfl) rfl ?_
    refine G.v (V.gt rfl rfl) rfl ?_
    refine G.nil ?_
    refine GC.join (fun fr' H' => ∃ (sv2 : Value) (Hb2 : SH), BufSt p M o1 sv2 Hb2 ∧ (∀ x ∈ Hb2, x.w = true) ∧ Sub [(0, S p), (3, Pt vb 0), (4, I (p.length : Nat)), (5, I ((r : Nat) : Int)), (6, I (o1.length : Nat)), (7, .bool T)] fr' ∧ ⟨vb, true, .row [sv2] 47 (0, 0)⟩ :: Hb2 = H') (fun J41 => ?_) ?_
    · refine GC.condD rfl (fun h41 => ?_) (fun h41 => ?_)
      · refine GC.seq ?_
        have hne : ps ≠ [] := hpo1.2.1 (by omega)
        rw [if_neg hne] at ho1
        have ho1e : (Gs.pout ps).length + 1 = o1.length := by rw [← ho1]; simp
        refine GC.reg ?_  -- region 16, path.go:98
        refine G.v (V.mv rfl) rfl ?_
        refine G.v (V.mv rfl) rfl ?_
        refine G.callL (H1 := ⟨vb, true, .row [sv] 47 (0, 0)⟩ :: Hb) (Hk := []) (fun v H1' => ∃ (sv2 : Value) (Hb2 : SH), BufSt p M (Gs.pout ps ++ [47]) sv2 Hb2 ∧ (∀ x ∈ Hb2, x.w = true) ∧ v = .tuple #[] ∧ ⟨vb, true, .row [sv2] 47 (0, 0)⟩ :: Hb2 = H1') (.of_eq (by simp)) (fun e0 he0 => by rcases List.mem_cons.1 he0 with rfl | he0; rfl; exact hHb e0 he0) Tryd.call39 rfl rfl (fun w1 hw1 _ => ?_) ?_
        · exact (f39_any w1 _ vb M p (Gs.pout ps) 47 sv Hb hw1 hB (by omega) (by omega)).mono fun e w' ⟨h1, s2, b2, h2, h3, h4⟩ => ⟨_, _, h1, (fun e0 he0 => by rcases List.mem_cons.1 he0 with rfl | he0; rfl; exact h3 e0 he0), h4, s2, b2, h2, h3, rfl, rfl⟩
        rintro v H1' ⟨sv2, Hb2, hB2, hHb2, rfl, rfl⟩
        rw [List.append_nil]
        refine G.nil ?_
        refine GC.reg ?_  -- region 17, path.go:99
        refine G.v (V.mv rfl) rfl ?_
        refine G.v (V.addI (r := (((Gs.pout ps).length + 1 : Nat) : Int)) rfl rfl rfl (by omega) (by omega)) rfl ?_
        rw [ho1e]
        refine G.v (V.asg rfl) rfl ?_
        refine G.nil ?_
        rw [ho1] at hB2
        exact J41 _ _ ⟨sv2, Hb2, hB2, hHb2, .cons rfl (.cons rfl (.cons rfl (.cons rfl (.cons rfl (.cons rfl .nil))))), rfl⟩
      refine GC.skip ?_
      have he : ps = [] := by
        by_cases he : ps = []
        · exact he
        · have := hpo1.2.2 he; omega
      rw [if_pos he] at ho1
      have ho2 : Gs.pout ps = o1 := by rw [he, ← ho1]; rfl
      rw [ho2] at hB ⊢
      exact J41 _ _ ⟨sv, Hb, hB, hHb, .cons rfl (.cons rfl (.cons rfl (.cons rfl (.cons rfl (.cons rfl .nil))))), rfl⟩
    rintro fr' H' ⟨sv1, Hb1, hB1, hHb1, hs41, rfl⟩
    refine GC.weak hs41 ?_
    clear hs41
    refine GC.block ?_
    refine GC.loopJ (fun N3 fr' H' => ∃ (k : Nat) (sv2 : Value) (Hb2 : SH), k + N3 = e.length ∧ BufSt p M (o1 ++ e.take k) sv2 Hb2 ∧ (∀ x ∈ Hb2, x.w = true) ∧ Sub [(0, S p), (3, Pt vb 0), (4, I (p.length : Nat)), (5, I ((r + k : Nat) : Int)), (6, I ((o1.length + k : Nat) : Int)), (7, .bool T)] fr' ∧ ⟨vb, true, .row [sv2] 47 (0, 0)⟩ :: Hb2 = H') e.length
      ⟨0, sv1, Hb1, by omega, by simpa using hB1, hHb1, .cons rfl (.cons rfl (.cons rfl (.cons rfl (.cons rfl (.cons rfl .nil))))), rfl⟩ ?_
    rintro N3 fr' H' ⟨k, sv3, Hb3, hk, hB3, hHb3, hs, rfl⟩ ih3
    refine GC.weak hs ?_
    clear hs
    refine GC.seq ?_
    refine GC.seq ?_
    refine GC.join (fun fr' H' => ∃ t : Bool, (t = true ↔ k < e.length) ∧ Sub [(0, S p), (3, Pt vb 0), (4, I (p.length : Nat)), (5, I ((r + k : Nat) : Int)), (6, I ((o1.length + k : Nat) : Int)), (7, .bool T), (55, .bool t)] fr' ∧ ⟨vb, true, .row [sv3] 47 (0, 0)⟩ :: Hb3 = H') (fun J18b => ?_) ?_
    · refine GC.reg ?_  -- region 18, path.go:103
      refine G.v (V.mv rfl) rfl ?_
      refine G.v (V.mv rfl) rfl ?_
      refine G.v (V.lt rfl rfl) rfl ?_
      refine G.v (V.mv rfl) rfl ?_
      refine G.bc 50 rfl (fun h50 => ?_) (fun h50 => ?_)
      · obtain ⟨y, hy⟩ : ∃ y, p[r + k]? = some y := ⟨_, List.getElem?_eq_getElem (by have := of_decide_eq_true h50; omega)⟩
        have hyk := hy
        rw [hgk] at hyk
        refine G.vg rfl rfl (V.mv rfl) rfl ?_
        refine G.vg rfl rfl (V.mv rfl) rfl ?_
        refine G.vg rfl rfl (V.idx (i := r + k) (b := y) Tryd.underlying9 rfl rfl hy) rfl ?_
        refine G.vg rfl rfl (V.neI rfl rfl) rfl ?_
        refine G.v (V.pickT rfl rfl) rfl ?_
        refine G.nil ?_
        refine J18b _ _ ⟨_, ?_, .cons rfl (.cons rfl (.cons rfl (.cons rfl (.cons rfl (.cons rfl (.cons rfl .nil)))))), rfl⟩
        rw [Bool.not_eq_true', decide_eq_false_iff_not]
        constructor
        · intro h1
          rcases Nat.lt_or_ge k e.length with h2 | h2
          · exact h2
          · exfalso
            have hke : k = e.length := by omega
            rw [hke, List.getElem?_append_right (Nat.le_refl _), Nat.sub_self] at hyk
            rcases hte with rfl | ⟨t', rfl⟩
            · simp at hyk
            · simp at hyk; exact h1 (by rw [← hyk]; rfl)
        · intro h1 h2
          rw [List.getElem?_append_left h1] at hyk
          exact he47 (by rw [← u47 h2]; exact List.mem_of_getElem? hyk)
      · refine G.sg rfl rfl rfl rfl rfl rfl ?_
        refine G.sg rfl rfl rfl rfl rfl rfl ?_
        refine G.sg rfl rfl rfl rfl rfl rfl ?_
        refine G.sg rfl rfl rfl rfl rfl rfl ?_
        refine G.v (V.pickF rfl rfl) rfl ?_
        refine G.nil ?_
        exact J18b _ _ ⟨false, ⟨fun h => (by cases h), fun h => by have := of_decide_eq_false h50; omega⟩, .cons rfl (.cons rfl (.cons rfl (.cons rfl (.cons rfl (.cons rfl (.cons rfl .nil)))))), rfl⟩
    rintro fr' H' ⟨t55, ht55, hs18, rfl⟩
    refine GC.weak hs18 ?_
    clear hs18
    refine GC.cond rfl (fun h55 => ?_) (fun h55 => ?_)
    · refine GC.skip ?_
      refine GC.block ?_
      refine GC.seq ?_
      have hke := ht55.1 (by assumption)
      obtain ⟨y, hy⟩ : ∃ y, p[r + k]? = some y := ⟨_, List.getElem?_eq_getElem (by omega)⟩
      have hyk := hy
      rw [hgk, List.getElem?_append_left hke] at hyk
      have hol : (o1 ++ e.take k).length = o1.length + k := by simp; omega
      refine GC.reg ?_  -- region 19, path.go:104
      refine G.v (V.mv rfl) rfl ?_
      refine G.v (V.mv rfl) rfl ?_
      refine G.v (V.mv rfl) rfl ?_
      refine G.v (V.mv rfl) rfl ?_
      refine G.v (V.idx (i := r + k) (b := y) Tryd.underlying9 rfl rfl hy) rfl ?_
      rw [← hol]
      refine G.callL (H1 := ⟨vb, true, .row [sv3] 47 (0, 0)⟩ :: Hb3) (Hk := []) (fun v H1' => ∃ (sv2 : Value) (Hb2 : SH), BufSt p M (o1 ++ e.take k ++ [y]) sv2 Hb2 ∧ (∀ x ∈ Hb2, x.w = true) ∧ v = .tuple #[] ∧ ⟨vb, true, .row [sv2] 47 (0, 0)⟩ :: Hb2 = H1') (.of_eq (by simp)) (fun e0 he0 => by rcases List.mem_cons.1 he0 with rfl | he0; rfl; exact hHb3 e0 he0) Tryd.call39 rfl rfl (fun w1 hw1 _ => ?_) ?_
      · exact (f39_any w1 _ vb M p (o1 ++ e.take k) y sv3 Hb3 hw1 hB3 (by omega) (by omega)).mono fun e w' ⟨h1, s2, b2, h2, h3, h4⟩ => ⟨_, _, h1, (fun e0 he0 => by rcases List.mem_cons.1 he0 with rfl | he0; rfl; exact h3 e0 he0), h4, s2, b2, h2, h3, rfl, rfl⟩
      rintro v H1' ⟨sv2, Hb2, hB2, hHb2, rfl, rfl⟩
      rw [List.append_nil]
      rw [hol]
      refine G.nil ?_
      refine GC.seq ?_
      refine GC.reg ?_  -- region 20, path.go:105
      refine G.v (V.mv rfl) rfl ?_
      refine G.v (V.addI (r := ((o1.length + (k + 1) : Nat) : Int)) rfl rfl (by omega) (by omega) (by omega)) rfl ?_
      refine G.v (V.asg rfl) rfl ?_
      refine G.nil ?_
      refine GC.reg ?_  -- region 21, path.go:106
      refine G.v (V.mv rfl) rfl ?_
      refine G.v (V.addI (r := ((r + (k + 1) : Nat) : Int)) rfl rfl (by omega) (by omega) (by omega)) rfl ?_
      refine G.v (V.asg rfl) rfl ?_
      refine G.nil ?_
      refine GC.inBlock ?_
      have hB4 : BufSt p M (o1 ++ e.take (k + 1)) sv2 Hb2 := by
        rw [List.take_add_one, hyk]
        simpa using hB2
      exact ih3 (N3 - 1) _ _ (by omega) ⟨k + 1, sv2, Hb2, by omega, hB4, hHb2, .cons rfl (.cons rfl (.cons rfl (.cons rfl (.cons rfl (.cons rfl .nil))))), rfl⟩
    refine GC.exit rfl ?_
    refine GC.inBlock ?_
    refine GC.inBlock ?_
    have hke : k = e.length := by have := mt ht55.2 (by simp_all); omega
    subst hke
    rw [List.take_length, ← hpo2] at hB3
    have hol2 : o1.length + e.length = (Gs.pout (ps ++ [e])).length := by rw [hpo2]; simp
    rw [hol2]
    have hel : 0 < e.length := List.length_pos_iff.2 hoe.1
    exact ih (p.length + 2 - (r + e.length)) _ _ (by omega) ⟨r + e.length, ps ++ [e], T, sv3, Hb3, by omega, hci2, hB3, hHb3, .cons rfl (.cons rfl (.cons rfl (.cons rfl (.cons rfl (.cons rfl .nil))))), rfl⟩
  refine GC.exit rfl ?_
  refine GC.seq ?_
  refine GC.seq ?_
  clear ih
  obtain ⟨hcl, hroom⟩ := hci.fin (by omega) hT0
  refine GC.join (fun fr' H' => ∃ t : Bool, (t = true ↔ T = true ∧ ps ≠ []) ∧ Sub [(0, S p), (3, Pt vb 0), (4, I (p.length : Nat)), (6, I ((Gs.pout ps).length : Nat)), (159, .bool t)] fr' ∧ ⟨vb, true, .row [sv] 47 (0, 0)⟩ :: Hb = H') (fun J38 => ?_) ?_
  · refine GC.reg ?_  -- region 38, path.go:112
    refine G.v (V.mv rfl) rfl ?_
    refine G.v (V.mv rfl) rfl ?_
    refine G.bc 156 rfl (fun h156 => ?_) (fun h156 => ?_)
    · refine G.vg rfl rfl (V.mv rfl) rfl ?_
      refine G.vg rfl rfl (V.gt rfl rfl) rfl ?_
      refine G.v (V.pickT rfl rfl) rfl ?_
      refine G.nil ?_
      exact J38 _ _ ⟨_, by rw [decide_eq_true_eq]; exact ⟨fun h => ⟨h156, hpo1.2.1 (by omega)⟩, fun h => by have := hpo1.2.2 h.2; omega⟩, .cons rfl (.cons rfl (.cons rfl (.cons rfl (.cons rfl .nil)))), rfl⟩
    · refine G.sg rfl rfl rfl rfl rfl rfl ?_
      refine G.sg rfl rfl rfl rfl rfl rfl ?_
      refine G.v (V.pickF rfl rfl) rfl ?_
      refine G.nil ?_
      exact J38 _ _ ⟨false, ⟨fun h => (by cases h), fun h => by rw [h.1] at h156; cases h156⟩, .cons rfl (.cons rfl (.cons rfl (.cons rfl (.cons rfl .nil)))), rfl⟩
  rintro fr' H' ⟨t159, ht159, hs38, rfl⟩
  refine GC.weak hs38 ?_
  clear hs38
  refine GC.join (fun fr' H' => ∃ (o2 : List UInt8) (sv2 : Value) (Hb2 : SH), Gs.clean p = o2 ∧ BufSt p M o2 sv2 Hb2 ∧ Sub [(0, S p), (3, Pt vb 0), (4, I (p.length : Nat)), (6, I (o2.length : Nat))] fr' ∧ ⟨vb, true, .row [sv2] 47 (0, 0)⟩ :: Hb2 = H') (fun J159 => ?_) ?_
  · refine GC.cond rfl (fun h159 => ?_) (fun h159 => ?_)
    · refine GC.seq ?_
      have h9 := ht159.1 h159
      have hroom2 := hroom h9.1 h9.2
      refine GC.reg ?_  -- region 39, path.go:113
      refine G.v (V.mv rfl) rfl ?_
      refine G.v (V.mv rfl) rfl ?_
      refine G.callL (H1 := ⟨vb, true, .row [sv] 47 (0, 0)⟩ :: Hb) (Hk := []) (fun v H1' => ∃ (sv2 : Value) (Hb2 : SH), BufSt p M (Gs.pout ps ++ [47]) sv2 Hb2 ∧ (∀ x ∈ Hb2, x.w = true) ∧ v = .tuple #[] ∧ ⟨vb, true, .row [sv2] 47 (0, 0)⟩ :: Hb2 = H1') (.of_eq (by simp)) (fun e0 he0 => by rcases List.mem_cons.1 he0 with rfl | he0; rfl; exact hHb e0 he0) Tryd.call39 rfl rfl (fun w1 hw1 _ => ?_) ?_
      · exact (f39_any w1 _ vb M p (Gs.pout ps) 47 sv Hb hw1 hB (by omega) (by omega)).mono fun e w' ⟨h1, s2, b2, h2, h3, h4⟩ => ⟨_, _, h1, (fun e0 he0 => by rcases List.mem_cons.1 he0 with rfl | he0; rfl; exact h3 e0 he0), h4, s2, b2, h2, h3, rfl, rfl⟩
      rintro v H1' ⟨sv2, Hb2, hB2, hHb2, rfl, rfl⟩
      rw [List.append_nil]
      refine G.nil ?_
      refine GC.reg ?_  -- region 40, path.go:114
      refine G.v (V.mv rfl) rfl ?_
      refine G.v (V.addI (r := (((Gs.pout ps).length + 1 : Nat) : Int)) rfl rfl rfl (by omega) (by omega)) rfl ?_
      refine G.v (V.asg rfl) rfl ?_
      refine G.nil ?_
      rw [if_pos h9] at hcl
      have hle : (Gs.pout ps).length + 1 = (Gs.pout ps ++ [47]).length := by simp
      rw [hle]
      exact J159 _ _ ⟨_, sv2, Hb2, hcl, hB2, .cons rfl (.cons rfl (.cons rfl (.cons rfl .nil))), rfl⟩
    refine GC.skip ?_
    rw [if_neg (fun h => absurd (ht159.2 h) (by simp_all)), List.append_nil] at hcl
    exact J159 _ _ ⟨_, sv, Hb, hcl, hB, .cons rfl (.cons rfl (.cons rfl (.cons rfl .nil))), rfl⟩
  rintro fr' H' ⟨o2, sv2, Hb2, hcl2, hB2, hs159, rfl⟩
  refine GC.weak hs159 ?_
  clear hs159
  refine GC.seq ?_
  refine GC.seq ?_
  obtain ⟨bb, mm, ll, rfl, rfl, q1, q2⟩ := hB2
  refine GC.reg ?_  -- region 41, path.go:120
  refine G.v (V.ld (b := vb) (off := 0) (wf := true) (T := 47) (fz := (0, 0)) (v := .slice (some ⟨bb, 0, none⟩) mm ll.length) Tryd.isAgg47 rfl (.head _) rfl) rfl ?_
  refine G.v (V.lenL Tryd.underlying47 rfl) rfl ?_
  refine G.v (V.eqI rfl rfl) rfl ?_
  refine G.nil ?_
  refine GC.condD rfl (fun h167 => ?_) (fun h167 => ?_)
  · refine GC.seq ?_
    obtain ⟨z1, z2, z3, z4⟩ : mm = 0 ∧ ll.length = 128 ∧ M = p.length ∧ o2 = p.take o2.length := by
      rcases q2 with h | h
      · exact h
      · omega
    refine GC.reg ?_  -- region 42, path.go:121
    refine G.v (V.mv rfl) rfl ?_
    refine G.v (V.mv rfl) rfl ?_
    refine G.v (V.slH (j := o2.length) Tryd.underlying9 rfl rfl (by omega)) rfl ?_
    rw [← z4]
    refine G.v (V.asg rfl) rfl ?_
    refine G.nil ?_
    exact GC.ret1 rfl rfl fun w' hw' => ⟨by rw [hcl2], hw'.sub (List.nil_sublist _)⟩
  refine GC.skip ?_
  refine GC.seq ?_
  obtain ⟨z1, z2, z3, z4⟩ : 0 < mm ∧ mm = M ∧ M ≤ ll.length ∧ ll.take o2.length = o2 := by
    rcases q2 with h | h
    · omega
    · exact h
  refine GC.reg ?_  -- region 43, path.go:123
  refine G.v (V.ld (b := vb) (off := 0) (wf := true) (T := 47) (fz := (0, 0)) (v := .slice (some ⟨bb, 0, none⟩) mm ll.length) Tryd.isAgg47 rfl (.head _) rfl) rfl ?_
  refine G.v (V.mv rfl) rfl ?_
  refine G.v (V.slTH (i := o2.length) Tryd.underlying47 Tryd.sizeOf5 rfl rfl (by omega)) rfl ?_
  refine G.v (V.cvBS (l := ll) (T := 5) (wf := true) Tryd.underlying47 Tryd.underlying5 Tryd.underlying9 rfl (.tail _ (.head _)) (by omega)) rfl ?_
  rw [z4]
  refine G.v (V.asg rfl) rfl ?_
  refine G.nil ?_
  exact GC.ret1 rfl rfl fun w' hw' => ⟨by rw [hcl2], hw'.sub (List.nil_sublist _)⟩

theorem f17_any (w : World) (p : List UInt8) (hp : p.length ≤ 4000) : Calls Tryd.prog 17 #[S p] w fun e w' => e = .returned (S (Gs.clean p)) ∧ HF w (fun _ => False) [] w' := by
  refine enter (fun _ => False) [] Tryd.func17 rfl Tryd.ntmps17 rfl rfl (HF.start w _) fun c hc => ?_
  subst hc
  refine GC.seq ?_
  refine GC.reg ?_  -- region 0, zz_tree.go:106
  refine G.v (V.asg rfl) rfl ?_
  refine G.nil ?_
  refine GC.seq ?_
  refine GC.reg ?_  -- region 1, zz_tree.go:106
  refine G.v (V.mv rfl) rfl ?_
  refine G.callP Tryd.call27 rfl rfl (fun w1 hw1 => f27_any w1 p hp) ?_
  refine G.v (V.asg rfl) rfl ?_
  refine G.nil ?_
  exact GC.ret1 rfl rfl fun w' hw' => ⟨rfl, hw'⟩

theorem f9_any (w : World) (p : List UInt8) (hp : p.length ≤ 4000) : Calls Tryd.prog 9 #[S p] w fun e w' => e = .returned (S (Gs.clean p)) ∧ HF w (fun _ => False) [] w' := by
  refine enter (fun _ => False) [] Tryd.func9 rfl Tryd.ntmps9 rfl rfl (HF.start w _) fun c hc => ?_
  subst hc
  refine GC.seq ?_
  refine GC.reg ?_  -- region 0, ginmore.go:25
  refine G.v (V.asg rfl) rfl ?_
  refine G.nil ?_
  refine GC.seq ?_
  refine GC.reg ?_  -- region 1, ginmore.go:26
  refine G.v (V.mv rfl) rfl ?_
  refine G.callP Tryd.call17 rfl rfl (fun w1 hw1 => f17_any w1 p hp) ?_
  refine G.v (V.asg rfl) rfl ?_
  refine G.nil ?_
  exact GC.ret1 rfl rfl fun w' hw' => ⟨rfl, hw'⟩

end Go.Proofs
