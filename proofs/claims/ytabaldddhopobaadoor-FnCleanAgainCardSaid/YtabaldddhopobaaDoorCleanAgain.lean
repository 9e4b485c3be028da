/- The law FnCleanAgain holds for every input: a cleaned path is cleaned as itself. -/
import Derived.Test.YtabaldddhopobaaDoorEd
import Derived.Test.YtabaldddhopobaaDoorPa
import Derived.Test.YtabaldddhopobaaDoorRow
/- The law of paths that are cleaned again. Printed by wip/mk_gs15.py. -/
namespace Go.Proofs
open Go Bw
set_option maxRecDepth 20000

theorem _root_.Bw.V.neS0 {P : Program} {c : Cx} {n : Nat} {fr : SF} {H : SH} {ty t u : TypeId} {x y : Operand} {i j : List UInt8} (hx : ev fr x = some (S i)) (hy : ev fr y = some (S j)) (h : i = j) : Val P c n (.binOp .neq t x y u) ty fr H (.bool false) := by
  have h1 : Val P c n (.binOp .neq t x y u) ty fr H _ := V.neS hx hy
  simpa [h] using h1
theorem _root_.Bw.V.rem {P : Program} {c : Cx} {n : Nat} {fr : SF} {H : SH} {x y : Operand} {t u ty : TypeId} {i j : Nat} (hx : ev fr x = some (I (i : Int))) (hy : ev fr y = some (I (j : Int))) (hj : 0 < j) (hi : i ≤ 9223372036854775807) : Val P c n (.binOp .rem t x y u) ty fr H (I ((i % j : Nat) : Int)) := by
  intro a w ha hw dst pos aft g
  have h0 : ¬ ((j : Int) = 0) := by omega
  have h1 : (Int.tmod (i : Int) (j : Int)) = ((i % j : Nat) : Int) := by rw [Int.tmod_eq_emod_of_nonneg (by omega)]; rfl
  simp [execOp, ha.eval hx, ha.eval hy, eqGuard, binOp, Op.intDiv, show ¬ (j = 0) by omega, h1]
def NN (l : List Nat) : List Value := l.map fun x : Nat => I (x : Int)
theorem f3_any (w : World) (p : List UInt8) (at0 : Nat) (hat : at0 ≤ 65535) (name : List UInt8) : Calls Tryd.prog 3 #[S p, .int .u16 (at0 : Int), S name] w fun e w' => e = .returned (.bool true) ∧ HF w (fun _ => False) [] w' := by
  refine enter (fun _ => False) [] Tryd.func3 rfl Tryd.ntmps3 rfl rfl (HF.start w _) fun c hc => ?_
  subst hc
  refine GC.seq ?_
  refine GC.reg ?_  -- region 0, ginmore.go:29
  refine G.v (V.asg rfl) rfl ?_
  refine G.nil ?_
  refine GC.seq ?_
  refine GC.seq ?_
  refine GC.join (fun fr' H' => ∃ t : Bool, (t = false → p.length ≤ 2147483647 ∧ name.length ≤ 2147483647) ∧ Sub [(0, S p), (1, .int .u16 (at0 : Int)), (2, S name), (18, .bool t)] fr' ∧ H' = []) (fun J1 => ?_) ?_
  · refine GC.reg ?_  -- region 1, ginmore.go:30
    refine G.v (V.mv rfl) rfl ?_
    refine G.v (V.lenS Tryd.underlying9 rfl) rfl ?_
    refine G.v (V.gt rfl rfl) rfl ?_
    refine G.v (V.mv rfl) rfl ?_
    refine G.bc 14 rfl (fun h14 => ?_) (fun h14 => ?_)
    · refine G.sg rfl rfl rfl rfl rfl rfl ?_
      refine G.sg rfl rfl rfl rfl rfl rfl ?_
      refine G.sg rfl rfl rfl rfl rfl rfl ?_
      refine G.v (V.pickT rfl rfl) rfl ?_
      refine G.nil ?_
      exact J1 _ _ ⟨true, fun h => (by cases h), .cons rfl (.cons rfl (.cons rfl (.cons rfl .nil))), rfl⟩
    · refine G.vg rfl rfl (V.mv rfl) rfl ?_
      refine G.vg rfl rfl (V.lenS Tryd.underlying9 rfl) rfl ?_
      refine G.vg rfl rfl (V.gt rfl rfl) rfl ?_
      refine G.v (V.pickF rfl rfl) rfl ?_
      refine G.nil ?_
      exact J1 _ _ ⟨_, fun h => ⟨by have := of_decide_eq_false h14; omega, by have := of_decide_eq_false h; omega⟩, .cons rfl (.cons rfl (.cons rfl (.cons rfl .nil))), rfl⟩
  rintro fr' H' ⟨t18, ht18, hs1, rfl⟩
  refine GC.weak hs1 ?_
  clear hs1
  refine GC.cond rfl (fun h18 => ?_) (fun h18 => ?_)
  · refine GC.seq ?_
    refine GC.reg ?_  -- region 2, ginmore.go:31
    refine G.v (V.asg rfl) rfl ?_
    refine G.nil ?_
    exact GC.ret1 rfl rfl fun w' hw' => ⟨rfl, hw'.sub (List.nil_sublist _)⟩
  refine GC.skip ?_
  refine GC.seq ?_
  refine GC.seq ?_
  obtain ⟨z1, z2⟩ := ht18 h18
  refine GC.join (fun fr' H' => ∃ t : Bool, (t = false → p.length ≤ 1000 ∧ name.length ≤ 100 ∧ Gs.okP name) ∧ Sub [(0, S p), (1, .int .u16 (at0 : Int)), (2, S name), (43, .bool t)] fr' ∧ H' = []) (fun J3 => ?_) ?_
  · refine GC.reg ?_  -- region 3, ginmore.go:33
    refine G.v (V.mv rfl) rfl ?_
    refine G.v (V.lenS Tryd.underlying9 rfl) rfl ?_
    refine G.v (V.gt rfl rfl) rfl ?_
    refine G.v (V.mv rfl) rfl ?_
    refine G.bc 22 rfl (fun h22 => ?_) (fun h22 => ?_)
    · refine G.sg rfl rfl rfl rfl rfl rfl ?_
      refine G.sg rfl rfl rfl rfl rfl rfl ?_
      refine G.sg rfl rfl rfl rfl rfl rfl ?_
      refine G.v (V.pickT rfl rfl) rfl ?_
      refine G.v (V.mv rfl) rfl ?_
      refine G.sg rfl rfl rfl rfl rfl rfl ?_
      refine G.sg rfl rfl rfl rfl rfl rfl ?_
      refine G.sg rfl rfl rfl rfl rfl rfl ?_
      refine G.v (V.pickT rfl rfl) rfl ?_
      refine G.v (V.mv rfl) rfl ?_
      refine G.sg rfl rfl rfl rfl rfl rfl ?_
      refine G.sg rfl rfl rfl rfl rfl rfl ?_
      refine G.v (V.pickT rfl rfl) rfl ?_
      refine G.v (V.mv rfl) rfl ?_
      refine G.sg rfl rfl rfl rfl rfl rfl ?_
      refine G.sg rfl rfl rfl rfl rfl rfl ?_
      refine G.v (V.pickT rfl rfl) rfl ?_
      refine G.v (V.mv rfl) rfl ?_
      refine G.sg rfl rfl rfl rfl rfl rfl ?_
      refine G.sg rfl rfl rfl rfl rfl rfl ?_
      refine G.v (V.pickT rfl rfl) rfl ?_
      refine G.nil ?_
      exact J3 _ _ ⟨true, fun h => (by cases h), .cons rfl (.cons rfl (.cons rfl (.cons rfl .nil))), rfl⟩
    · refine G.vg rfl rfl (V.mv rfl) rfl ?_
      refine G.vg rfl rfl (V.lenS Tryd.underlying9 rfl) rfl ?_
      refine G.vg rfl rfl (V.gt rfl rfl) rfl ?_
      refine G.v (V.pickF rfl rfl) rfl ?_
      refine G.v (V.mv rfl) rfl ?_
      refine G.bc 27 rfl (fun h27 => ?_) (fun h27 => ?_)
      · refine G.sg rfl rfl rfl rfl rfl rfl ?_
        refine G.sg rfl rfl rfl rfl rfl rfl ?_
        refine G.sg rfl rfl rfl rfl rfl rfl ?_
        refine G.v (V.pickT rfl rfl) rfl ?_
        refine G.v (V.mv rfl) rfl ?_
        refine G.sg rfl rfl rfl rfl rfl rfl ?_
        refine G.sg rfl rfl rfl rfl rfl rfl ?_
        refine G.v (V.pickT rfl rfl) rfl ?_
        refine G.v (V.mv rfl) rfl ?_
        refine G.sg rfl rfl rfl rfl rfl rfl ?_
        refine G.sg rfl rfl rfl rfl rfl rfl ?_
        refine G.v (V.pickT rfl rfl) rfl ?_
        refine G.v (V.mv rfl) rfl ?_
        refine G.sg rfl rfl rfl rfl rfl rfl ?_
        refine G.sg rfl rfl rfl rfl rfl rfl ?_
        refine G.v (V.pickT rfl rfl) rfl ?_
        refine G.nil ?_
        exact J3 _ _ ⟨true, fun h => (by cases h), .cons rfl (.cons rfl (.cons rfl (.cons rfl .nil))), rfl⟩
      · refine G.vg rfl rfl (V.mv rfl) rfl ?_
        refine G.gd rfl rfl ?_
        refine G.callP Tryd.call7 rfl rfl (fun w1 hw1 => f7_any w1 name 47 (by omega)) ?_
        refine G.vg rfl rfl (V.gt rfl rfl) rfl ?_
        refine G.v (V.pickF rfl rfl) rfl ?_
        refine G.v (V.mv rfl) rfl ?_
        refine G.bc 32 rfl (fun h32 => ?_) (fun h32 => ?_)
        · refine G.sg rfl rfl rfl rfl rfl rfl ?_
          refine G.sg rfl rfl rfl rfl rfl rfl ?_
          refine G.v (V.pickT rfl rfl) rfl ?_
          refine G.v (V.mv rfl) rfl ?_
          refine G.sg rfl rfl rfl rfl rfl rfl ?_
          refine G.sg rfl rfl rfl rfl rfl rfl ?_
          refine G.v (V.pickT rfl rfl) rfl ?_
          refine G.v (V.mv rfl) rfl ?_
          refine G.sg rfl rfl rfl rfl rfl rfl ?_
          refine G.sg rfl rfl rfl rfl rfl rfl ?_
          refine G.v (V.pickT rfl rfl) rfl ?_
          refine G.nil ?_
          exact J3 _ _ ⟨true, fun h => (by cases h), .cons rfl (.cons rfl (.cons rfl (.cons rfl .nil))), rfl⟩
        · refine G.vg rfl rfl (V.mv rfl) rfl ?_
          refine G.vg rfl rfl (V.eqS rfl rfl) rfl ?_
          refine G.v (V.pickF rfl rfl) rfl ?_
          refine G.v (V.mv rfl) rfl ?_
          refine G.bc 36 rfl (fun h36 => ?_) (fun h36 => ?_)
          · refine G.sg rfl rfl rfl rfl rfl rfl ?_
            refine G.sg rfl rfl rfl rfl rfl rfl ?_
            refine G.v (V.pickT rfl rfl) rfl ?_
            refine G.v (V.mv rfl) rfl ?_
            refine G.sg rfl rfl rfl rfl rfl rfl ?_
            refine G.sg rfl rfl rfl rfl rfl rfl ?_
            refine G.v (V.pickT rfl rfl) rfl ?_
            refine G.nil ?_
            exact J3 _ _ ⟨true, fun h => (by cases h), .cons rfl (.cons rfl (.cons rfl (.cons rfl .nil))), rfl⟩
          · refine G.vg rfl rfl (V.mv rfl) rfl ?_
            refine G.vg rfl rfl (V.eqS rfl rfl) rfl ?_
            refine G.v (V.pickF rfl rfl) rfl ?_
            refine G.v (V.mv rfl) rfl ?_
            refine G.bc 40 rfl (fun h40 => ?_) (fun h40 => ?_)
            · refine G.sg rfl rfl rfl rfl rfl rfl ?_
              refine G.sg rfl rfl rfl rfl rfl rfl ?_
              refine G.v (V.pickT rfl rfl) rfl ?_
              refine G.nil ?_
              exact J3 _ _ ⟨true, fun h => (by cases h), .cons rfl (.cons rfl (.cons rfl (.cons rfl .nil))), rfl⟩
            · refine G.vg rfl rfl (V.mv rfl) rfl ?_
              refine G.vg rfl rfl (V.eqS rfl rfl) rfl ?_
              refine G.v (V.pickF rfl rfl) rfl ?_
              refine G.nil ?_
              refine J3 _ _ ⟨_, fun h => ⟨by have := of_decide_eq_false h22; omega, by have := of_decide_eq_false h27; omega, ?_, ?_, ?_, ?_⟩, .cons rfl (.cons rfl (.cons rfl (.cons rfl .nil))), rfl⟩
              · exact of_decide_eq_false h36
              · exact of_decide_eq_false h40
              · exact of_decide_eq_false h
              · exact fun hm => by have := of_decide_eq_false h32; have := List.count_pos_iff.2 hm; omega
  rintro fr' H' ⟨t43, ht43, hs3, rfl⟩
  refine GC.weak hs3 ?_
  clear hs3
  refine GC.cond rfl (fun h43 => ?_) (fun h43 => ?_)
  · refine GC.seq ?_
    refine GC.reg ?_  -- region 4, ginmore.go:34
    refine G.callP Tryd.call8 rfl rfl (fun w1 hw1 => f8_any w1) ?_
    refine G.v (V.asg rfl) rfl ?_
    refine G.nil ?_
    exact GC.ret1 rfl rfl fun w' hw' => ⟨rfl, hw'.sub (List.nil_sublist _)⟩
  refine GC.skip ?_
  refine GC.seq ?_
  obtain ⟨hpl, hnl, hnm⟩ := ht43 h43
  have hsl := Gs.clean_len p
  have hs0 := Gs.clean_head p
  have hcc := Gs.clean_clean p
  have hnd := Gs.clean_dbl p
  obtain ⟨s, hs⟩ : ∃ s, Gs.clean p = s := ⟨_, rfl⟩
  rw [hs] at hsl hs0 hcc hnd
  have hslen := (List.getElem?_eq_some_iff.1 hs0).1
  refine GC.reg ?_  -- region 5, ginmore.go:36
  refine G.v (V.mv rfl) rfl ?_
  refine G.callP (v := S s) Tryd.call9 rfl rfl (fun w1 hw1 => (f9_any w1 p (by omega)).mono fun e w' h => by rw [hs] at h; exact h) ?_
  refine G.v (V.asg rfl) rfl ?_
  refine G.nil ?_
  refine GC.seq ?_
  refine GC.seq ?_
  refine GC.reg ?_  -- region 6, ginmore.go:37
  refine G.v (V.mv rfl) rfl ?_
  refine G.v (V.eqS rfl rfl) rfl ?_
  refine G.v (V.mv rfl) rfl ?_
  refine G.bc 49 rfl (fun h49 => ?_) (fun h49 => ?_)
  · exact absurd (of_decide_eq_true h49) (fun e => by rw [e] at hs0; cases hs0)
  · refine G.vg rfl rfl (V.mv rfl) rfl ?_
    refine G.vg rfl rfl (V.idx (i := 0) (b := 47) Tryd.underlying9 rfl rfl hs0) rfl ?_
    refine G.vg rfl rfl (V.neI0 rfl rfl) rfl ?_
    refine G.v (V.pickF rfl rfl) rfl ?_
    refine G.v (V.mv rfl) rfl ?_
    refine G.bc 54 rfl (fun h54 => ?_) (fun h54 => ?_)
    · exact absurd h54 (by decide)
    · refine G.vg rfl rfl (V.mv rfl) rfl ?_
      refine G.gd rfl rfl ?_
      refine G.callP (v := .bool false) Tryd.call10 rfl rfl (fun w1 hw1 => (f10_any w1 s (by omega)).mono fun e w' ⟨b, h1, h2, h3⟩ => ⟨by rw [h2, show b = false from Bool.eq_false_iff.2 (fun hb => by obtain ⟨i, d1, d2⟩ := h1.1 hb; exact hnd i d1 d2)], h3⟩) ?_
      refine G.v (V.pickF rfl rfl) rfl ?_
      refine G.v (V.mv rfl) rfl ?_
      refine G.bc 58 rfl (fun h58 => ?_) (fun h58 => ?_)
      · exact absurd h58 (by decide)
      · refine G.vg rfl rfl (V.mv rfl) rfl ?_
        refine G.gd rfl rfl ?_
        refine G.callP (v := S s) Tryd.call9 rfl rfl (fun w1 hw1 => (f9_any w1 s (by omega)).mono fun e w' h => by rw [hcc] at h; exact h) ?_
        refine G.vg rfl rfl (V.mv rfl) rfl ?_
        refine G.vg rfl rfl (V.neS0 rfl rfl rfl) rfl ?_
        refine G.v (V.pickF rfl rfl) rfl ?_
        refine G.nil ?_
        refine GC.condF rfl ?_
        refine GC.skip ?_
        refine GC.seq ?_
        refine GC.reg ?_  -- region 8, ginmore.go:41
        refine G.v (V.asg rfl) rfl ?_
        refine G.nil ?_
        refine GC.seq ?_
        refine GC.seq ?_
        refine GC.reg ?_  -- region 9, ginmore.go:42
        refine G.v (V.mv rfl) rfl ?_
        refine G.v (V.lenS Tryd.underlying9 rfl) rfl ?_
        refine G.v (V.mv rfl) rfl ?_
        refine G.nil ?_
        refine GC.block ?_
        refine GC.loopJ (fun N fr' H' => ∃ (i : Nat) (pl : List Nat) (sv : Value) (Hs : SH), i + N = s.length ∧ pl.length ≤ i ∧ (0 < i → pl ≠ []) ∧ (∀ k ∈ pl, ∃ j, k = j + 1 ∧ s[j]? = some 47) ∧ Own 3 1 sv pl.length (NN pl) Hs ∧ Sub [(0, S p), (1, .int .u16 (at0 : Int)), (2, S name), (7, S s), (8, sv), (65, I (s.length : Nat)), (66, I ((i : Nat) : Int))] fr' ∧ Hs = H') s.length
          ⟨0, [], _, [], by omega, by simp, fun h => by omega, by simp, .nil, .cons rfl (.cons rfl (.cons rfl (.cons rfl (.cons rfl (.cons rfl (.cons rfl .nil)))))), rfl⟩ ?_
        rintro N fr' H' ⟨i, pl, sv, Hs, hi, hpll, hpne, hpls, hown, hs9, rfl⟩ ih
        refine GC.weak hs9 ?_
        clear hs9
        refine GC.seq ?_
        refine GC.reg ?_  -- region 10, ginmore.go:42
        refine G.v (V.lt rfl rfl) rfl ?_
        refine G.nil ?_
        refine GC.seq ?_
        refine GC.condD rfl (fun h67 => ?_) (fun h67 => ?_)
        · refine GC.skip ?_
          refine GC.seq ?_
          refine GC.block ?_
          refine GC.seq ?_
          have hlt : i < s.length := by omega
          obtain ⟨x, hx⟩ : ∃ x, s[i]? = some x := ⟨_, List.getElem?_eq_getElem hlt⟩
          obtain ⟨ads, cps, rfl⟩ := hown.slice
          refine GC.reg ?_  -- region 11, ginmore.go:42
          refine G.v (V.mv rfl) rfl ?_
          refine G.v (V.asg rfl) rfl ?_
          refine G.nil ?_
          refine GC.seq ?_
          refine GC.reg ?_  -- region 12, ginmore.go:43
          refine G.v (V.mv rfl) rfl ?_
          refine G.v (V.mv rfl) rfl ?_
          refine G.v (V.idx (i := i) (b := x) Tryd.underlying9 rfl rfl hx) rfl ?_
          refine G.v (V.eqI rfl rfl) rfl ?_
          refine G.nil ?_
          refine GC.join (fun fr' H' => ∃ (pl' : List Nat) (sv' : Value) (Hs' : SH), pl'.length ≤ i + 1 ∧ pl' ≠ [] ∧ (∀ k ∈ pl', ∃ j, k = j + 1 ∧ s[j]? = some 47) ∧ Own 3 1 sv' pl'.length (NN pl') Hs' ∧ Sub [(0, S p), (1, .int .u16 (at0 : Int)), (2, S name), (7, S s), (8, sv'), (65, I (s.length : Nat)), (66, I ((i : Nat) : Int))] fr' ∧ (∀ w1, HF w (fun _ => False) H' w1 → HF w (fun _ => False) Hs' w1)) (fun J72 => ?_) ?_
          · refine GC.condD rfl (fun h72 => ?_) (fun h72 => ?_)
            · refine GC.reg ?_  -- region 13, ginmore.go:44
              refine G.v (V.mv rfl) rfl ?_
              refine G.v (V.mv rfl) rfl ?_
              refine G.v (V.addI (r := ((i + 1 : Nat) : Int)) rfl rfl rfl (by omega) (by omega)) rfl ?_
              refine G.bs (BS.one Tryd.underlying27 Tryd.sizeOf3 Tryd.zeroValue3 (v := I ((i + 1 : Nat) : Int)) rfl) rfl rfl (fun tb htb => ?_)
              refine G.app (i := Tryd.t3) (sz := 1) (by_ := 8) Tryd.underlying27 rfl rfl rfl rfl rfl rfl rfl hown (H' := [⟨tb, true, .row [I ((i + 1 : Nat) : Int)] 3 (0, 0)⟩]) (List.perm_append_comm (l₁ := ([⟨tb, true, .row [I ((i + 1 : Nat) : Int)] 3 (0, 0)⟩] : SH))) (src_row (vs := [I ((i + 1 : Nat) : Int)]) (r := []) (.head _)) rfl (by simp [Value.oneCell']) (by omega) (by omega) (by omega) rfl (fun sv2 Hs2 hown2 => ?_)
              refine G.v (V.asg rfl) rfl ?_
              refine G.nil ?_
              have hown3 : Own 3 1 sv2 (pl ++ [i + 1]).length (NN (pl ++ [i + 1])) Hs2 := by simpa [NN] using hown2
              refine J72 _ _ ⟨pl ++ [i + 1], sv2, Hs2, by simp; omega, by simp, fun k hk => ?_, hown3, .cons rfl (.cons rfl (.cons rfl (.cons rfl (.cons rfl (.cons rfl (.cons rfl .nil)))))), fun w1 h => h.sub (List.sublist_append_right _ _)⟩
              rcases List.mem_append.1 hk with hk | hk
              · exact hpls k hk
              · rw [List.mem_singleton.1 hk]; exact ⟨i, rfl, by rw [hx, UInt8.toNat_inj.1 (show x.toNat = (47 : UInt8).toNat by have h0 : (47 : UInt8).toNat = 47 := rfl; omega)]⟩
            refine GC.skip ?_
            refine J72 _ _ ⟨pl, _, Hs, by omega, ?_, hpls, hown, .cons rfl (.cons rfl (.cons rfl (.cons rfl (.cons rfl (.cons rfl (.cons rfl .nil)))))), fun w1 h => h⟩
            rcases Nat.eq_zero_or_pos i with h0 | h0
            · subst h0; rw [hs0] at hx; rw [← Option.some.inj hx] at h72; exact absurd rfl h72
            · exact hpne h0
          rintro fr' H' ⟨pl2, sv2, Hs2, hpll2, hpne2, hpls2, hown2, hs72, hH72⟩
          refine GC.weak hs72 ?_
          clear hs72
          refine GC.turn hH72 ?_
          refine GC.inBlock ?_
          refine GC.reg ?_  -- region 14, ginmore.go:42
          refine G.v (V.addI (r := ((i + 1 : Nat) : Int)) rfl rfl rfl (by omega) (by omega)) rfl ?_
          refine G.v (V.mv rfl) rfl ?_
          refine G.nil ?_
          exact ih (N - 1) _ _ (by omega) ⟨i + 1, pl2, sv2, Hs2, by omega, hpll2, fun _ => hpne2, hpls2, hown2, .cons rfl (.cons rfl (.cons rfl (.cons rfl (.cons rfl (.cons rfl (.cons rfl .nil)))))), rfl⟩
        refine GC.exit rfl ?_
        refine GC.seq ?_
        have hie : i = s.length := by omega
        subst hie
        clear ih
        have hne := hpne hslen
        have hpos : 0 < pl.length := List.length_pos_iff.2 hne
        obtain ⟨ads, cps, rfl⟩ := hown.slice
        have hxl : at0 % pl.length < pl.length := Nat.mod_lt _ hpos
        obtain ⟨ix, hix⟩ : ∃ ix, at0 % pl.length = ix := ⟨_, rfl⟩
        rw [hix] at hxl
        obtain ⟨k, hk⟩ : ∃ k, pl[ix]? = some k := ⟨_, List.getElem?_eq_getElem hxl⟩
        obtain ⟨j, rfl, hj⟩ := hpls k (List.mem_of_getElem? hk)
        obtain ⟨ob, oc, osp, hoe, rfl⟩ := hown.at hxl
        cases hoe
        have hjl := (List.getElem?_eq_some_iff.1 hj).1
        have hwr : IntKind.i64.wrap (at0 : Int) = (at0 : Int) := wrap_i64 (by omega) (by omega)
        refine GC.reg ?_  -- region 15, ginmore.go:47
        refine G.v (V.mv rfl) rfl ?_
        refine G.v (V.mv rfl) rfl ?_
        refine G.v (V.cvI Tryd.underlying22 Tryd.underlying3 rfl) rfl ?_
        rw [hwr]
        refine G.v (V.mv rfl) rfl ?_
        refine G.v (V.lenL Tryd.underlying27 rfl) rfl ?_
        refine G.v (V.rem (i := at0) (j := pl.length) rfl rfl hpos (by omega)) rfl ?_
        rw [hix]
        refine G.v (V.ia (i := ix) Tryd.underlying27 Tryd.sizeOf3 rfl rfl hxl) rfl ?_
        refine G.v (V.ld (b := ob) (off := 0 + ix * 1) (wf := true) (l := NN pl ++ osp) (T := 3) (fz := (0, 0)) (v := I ((j + 1 : Nat) : Int)) Tryd.isAgg3 rfl (.head _) (by rw [nth_eq, Nat.zero_add, Nat.mul_one, List.getElem?_append_left (by simpa [NN] using hxl), NN, List.getElem?_map, hk]; rfl)) rfl ?_
        refine G.v (V.asg rfl) rfl ?_
        refine G.nil ?_
        refine GC.seq ?_
        refine GC.seq ?_
        refine GC.reg ?_  -- region 16, ginmore.go:48
        refine G.v (V.mv rfl) rfl ?_
        refine G.v (V.mv rfl) rfl ?_
        refine G.v (V.lenS Tryd.underlying9 rfl) rfl ?_
        refine G.v (V.eqI rfl rfl) rfl ?_
        refine G.nil ?_
        refine GC.condD rfl (fun h90 => ?_) (fun h90 => ?_)
        · refine GC.seq ?_
          refine GC.reg ?_  -- region 17, ginmore.go:49
          refine G.callP Tryd.call8 rfl rfl (fun w1 hw1 => f8_any w1) ?_
          refine G.v (V.asg rfl) rfl ?_
          refine G.nil ?_
          exact GC.ret1 rfl rfl fun w' hw' => ⟨rfl, hw'.sub (List.nil_sublist _)⟩
        refine GC.skip ?_
        refine GC.seq ?_
        obtain ⟨a, b, hab, hb, htk, hdr⟩ := Gs.cut_at hj (by omega)
        have hal : s.length = a.length + 1 + b.length := by rw [hab]; simp; omega
        have q1 : Gs.clean (a ++ [47] ++ [46, 47] ++ b) = s := by
          have := Gs.clean_put (x := [46]) hab hb Gs.pf_dot
          rw [hcc] at this
          rw [← this]; simp
        have q2 : Gs.clean (a ++ [47] ++ name ++ [47, 46, 46, 47] ++ b) = s := by
          have := Gs.clean_put (x := name ++ 47 :: [46, 46]) hab hb (Gs.pf_back hnm)
          rw [hcc] at this
          rw [← this]; simp
        have q3 : Gs.clean (a ++ [47] ++ [47] ++ b) = s := by
          have := Gs.clean_put (x := []) hab hb Gs.pf_nil
          rw [hcc] at this
          rw [← this]; simp
        refine GC.regQ mixed (by kernel_rfl) ?_  -- region 18, ginmore.go:51
        refine GQ.v (V.mv rfl) rfl ?_
        refine GQ.v (V.mv rfl) rfl ?_
        refine GQ.v (V.slH (j := j + 1) Tryd.underlying9 rfl rfl (by omega)) rfl ?_
        rw [htk]
        refine GQ.v (V.cat (l := a ++ [47]) (m := [46, 47]) rfl rfl (by simp; omega)) rfl ?_
        refine GQ.v (V.mv rfl) rfl ?_
        refine GQ.v (V.mv rfl) rfl ?_
        refine GQ.v (V.slL (i := j + 1) Tryd.underlying9 rfl rfl (by omega)) rfl ?_
        rw [hdr]
        refine GQ.v (V.cat (l := a ++ [47] ++ [46, 47]) (m := b) rfl rfl (by simp; omega)) rfl ?_
        refine GQ.callP (v := S s) Tryd.call9 rfl rfl (fun w1 hw1 => (f9_any w1 (a ++ [47] ++ [46, 47] ++ b) (by simp; omega)).mono fun e w' h => by rw [q1] at h; exact h) ?_
        refine GQ.v (V.mv rfl) rfl ?_
        refine GQ.v (V.eqS1 rfl rfl rfl) rfl ?_
        refine GQ.v (V.mv rfl) rfl ?_
        refine GQ.bc 103 rfl (fun h103 => ?_) (fun h103 => ?_)
        · refine GQ.vg rfl rfl (V.mv rfl) rfl ?_
          refine GQ.vg rfl rfl (V.mv rfl) rfl ?_
          refine GQ.vg rfl rfl (V.slH (j := j + 1) Tryd.underlying9 rfl rfl (by omega)) rfl ?_
          rw [htk]
          refine GQ.vg rfl rfl (V.mv rfl) rfl ?_
          refine GQ.vg rfl rfl (V.cat (l := a ++ [47]) (m := name) rfl rfl (by simp; omega)) rfl ?_
          refine GQ.vg rfl rfl (V.cat (l := a ++ [47] ++ name) (m := [47, 46, 46, 47]) rfl rfl (by simp; omega)) rfl ?_
          refine GQ.vg rfl rfl (V.mv rfl) rfl ?_
          refine GQ.vg rfl rfl (V.mv rfl) rfl ?_
          refine GQ.vg rfl rfl (V.slL (i := j + 1) Tryd.underlying9 rfl rfl (by omega)) rfl ?_
          rw [hdr]
          refine GQ.vg rfl rfl (V.cat (l := a ++ [47] ++ name ++ [47, 46, 46, 47]) (m := b) rfl rfl (by simp; omega)) rfl ?_
          refine GQ.gd rfl rfl ?_
          refine GQ.callP (v := S s) Tryd.call9 rfl rfl (fun w1 hw1 => (f9_any w1 (a ++ [47] ++ name ++ [47, 46, 46, 47] ++ b) (by simp; omega)).mono fun e w' h => by rw [q2] at h; exact h) ?_
          refine GQ.vg rfl rfl (V.mv rfl) rfl ?_
          refine GQ.vg rfl rfl (V.eqS1 rfl rfl rfl) rfl ?_
          refine GQ.v (V.pickT rfl rfl) rfl ?_
          refine GQ.v (V.mv rfl) rfl ?_
          refine GQ.bc 118 rfl (fun h118 => ?_) (fun h118 => ?_)
          · refine GQ.vg rfl rfl (V.mv rfl) rfl ?_
            refine GQ.vg rfl rfl (V.mv rfl) rfl ?_
            refine GQ.vg rfl rfl (V.slH (j := j + 1) Tryd.underlying9 rfl rfl (by omega)) rfl ?_
            rw [htk]
            refine GQ.vg rfl rfl (V.cat (l := a ++ [47]) (m := [47]) rfl rfl (by simp; omega)) rfl ?_
            refine GQ.vg rfl rfl (V.mv rfl) rfl ?_
            refine GQ.vg rfl rfl (V.mv rfl) rfl ?_
            refine GQ.vg rfl rfl (V.slL (i := j + 1) Tryd.underlying9 rfl rfl (by omega)) rfl ?_
            rw [hdr]
            refine GQ.vg rfl rfl (V.cat (l := a ++ [47] ++ [47]) (m := b) rfl rfl (by simp; omega)) rfl ?_
            refine GQ.gd rfl rfl ?_
            refine GQ.callP (v := S s) Tryd.call9 rfl rfl (fun w1 hw1 => (f9_any w1 (a ++ [47] ++ [47] ++ b) (by simp; omega)).mono fun e w' h => by rw [q3] at h; exact h) ?_
            refine GQ.vg rfl rfl (V.mv rfl) rfl ?_
            refine GQ.vg rfl rfl (V.eqS1 rfl rfl rfl) rfl ?_
            refine GQ.v (V.pickT rfl rfl) rfl ?_
            refine GQ.v (V.mv rfl) rfl ?_
            refine GQ.bc 131 rfl (fun h131 => ?_) (fun h131 => ?_)
            · refine GQ.gd rfl rfl ?_
              refine GQ.callP Tryd.call8 rfl rfl (fun w1 hw1 => f8_any w1) ?_
              refine GQ.v (V.pickT rfl rfl) rfl ?_
              refine GQ.v (V.asg rfl) rfl ?_
              refine GQ.nil ?_
              exact GC.ret1 rfl rfl fun w' hw' => ⟨rfl, hw'.sub (List.nil_sublist _)⟩
            · exact absurd h131 (by decide)
          · exact absurd h118 (by decide)
        · exact absurd h103 (by decide)
end Go.Proofs

/- A law's card out of its walk: FnCleanAgain. -/
set_option maxRecDepth 100000
namespace Go.Proofs.YtabaldddhopobaaDoor.cleanagain
open Go Bw Go.ChangeShapes Go.WideShapes Go.ChangeAt Go.RowKit

theorem contract (H : Type) (enc : TypeId × Value → H) (W : World) (base : Nat) (args : Array Value) (ds gs : List (DataW H)) (before : List MemPlace)
    (hval : ∀ (j : Nat) t v, Tryd.f3.params[j]? = some t → args[j]? = some v → Value.okWide Tryd.prog W .any base t v)
    (hW : DataW.Whole enc Tryd.prog Tryd.f3.params.toList Rows.fnCleanAgainSpec.vars false W args.toList ds gs before) :
    Calls Tryd.prog 3 args W fun e W' => ∃ v, e = .returned v ∧ Rows.fnCleanAgainSpec.post enc Tryd.prog Tryd.f3 false true false false W args v W' := by
  have hW' := hW
  obtain ⟨p, q, hA0, hV, rfl, hfz, hnd⟩ := hW
  have hA : DataW.TrodAll enc Tryd.prog W 0 (fun _ => true) true [9, 22, 9] args.toList ds p := hA0
  obtain ⟨v0, vs0, d0, ds0, p0, q0, hargs, rfl, rfl, h0, r0⟩ := trodAll_cons hA
  obtain ⟨v1, vs_1, d1, ds1, p1, q1, rfl, rfl, rfl, h1, r1⟩ := trodAll_cons r0
  obtain ⟨v2, vs_2, d2, ds2, p2, q2, rfl, rfl, rfl, h2, r2⟩ := trodAll_cons r1
  obtain ⟨rfl, rfl, rfl⟩ := trodAll_nil r2
  obtain rfl : args = #[v0, v1, v2] := by cases args; simp_all
  obtain ⟨l0, rfl⟩ := open_str Tryd.underlying9 (hval 0 9 v0 rfl rfl)
  obtain ⟨n1, hn1, rfl⟩ := open_u16 Tryd.underlying22 (hval 1 22 v1 rfl rfl) h1
  obtain ⟨l2, rfl⟩ := open_str Tryd.underlying9 (hval 2 9 v2 rfl rfl)
  refine (f3_any W l0 n1 hn1 l2).mono fun e W' ⟨he, hf⟩ => ⟨_, he, ?_⟩
  refine post_law hW' rfl rfl ?_ (by kernel_rfl) (below_of hf)
  obtain ⟨rfl, rfl⟩ := trodVars_none hV
  rfl

theorem laid_met (os : Os) : laidMet Tryd.prog Rows.fnCleanAgainRow.laid ((laidWorld os).forCall (fun _ _ => 0) ⟨#[], #[.string ⟨#[]⟩, .int .u16 0, .string ⟨#[]⟩], []⟩).memory := laid_all os _
theorem reads (os : Os) {H : Type} (enc : TypeId × Value → H) : ∃ places, DataW.whole enc Tryd.prog ((laidWorld os).forCall (fun _ _ => 0) ⟨#[], #[.string ⟨#[]⟩, .int .u16 0, .string ⟨#[]⟩], []⟩).memory Tryd.f3.params.toList Rows.fnCleanAgainSpec.vars false (#[.string ⟨#[]⟩, .int .u16 0, .string ⟨#[]⟩] : Array Value).toList 8 = some ([.lit (.string []), .lit (.int .u16 0), .lit (.string [])], [], places) :=
  ⟨[], by kernel_rfl⟩

theorem lifted (os : Os) (started : os.Started) (H : Type) (enc : TypeId × Value → H) (F : Stop.Interp) :
    ReturnsInHanded {} Tryd.checked os 3 .any ((OpenSpec.ofChange Rows.fnCleanAgainSpec).preRow enc Tryd.prog Tryd.f3 Rows.fnCleanAgainRow.domain false Rows.fnCleanAgainRow.laid) (((OpenSpec.ofChange Rows.fnCleanAgainSpec).at F).post enc Tryd.prog Tryd.f3 false true false false) := by
  obtain ⟨places, hx⟩ := reads os enc
  refine returnsInHanded_of_row (C := Tryd.checked) (s := OpenSpec.ofChange Rows.fnCleanAgainSpec) tryd_own started (by kernel_rfl) Tryd.func3
    (witness_row_atRef (enc := enc) (C := Tryd.checked) false (laidWorld os) #[.string ⟨#[]⟩, .int .u16 0, .string ⟨#[]⟩] rfl (by kernel_rfl) (by kernel_rfl) (by kernel_rfl)
      (OpenSpec.preRow_of_cond 8 hx (by kernel_rfl) (fun k hk => by cases hk) (by kernel_rfl) (laid_met os))) ?_
  intro W base args ds gs before hval hW _ _ _ hL _ _
  exact contract H enc W base args ds gs before hval hW

theorem said : Rows.FnCleanAgainSaid :=
  OpenClaim.holds_of_cond 3 Tryd.f3 rfl rfl rfl rfl rfl rfl rfl ⟨rfl, rfl, rfl, rfl, rfl⟩ rfl rfl rfl rfl rfl (by kernel_rfl) Tryd.func3 (by kernel_rfl)
    (of_decide_eq_true (by kernel_rfl)) (by unfold Func.isWrapper; first | (rw [if_pos (by decide +kernel)]; kernel_rfl) | (rw [if_neg (by decide +kernel)]; exact ⟨rfl, rfl⟩))
    (fun os started H enc _ F => by rw [OpenClaim.pre_eq_preRow]; exact lifted os started H enc F)

theorem plain (f : FuncId) (fn : Func) (hf : Tryd.pinned.checked.prog.funcNamed "pub-bridleway/laws.FnCleanAgain" = some f) (hfn : Tryd.pinned.checked.prog.funcs[f]? = some fn) :
    false = Tryd.pinned.checked.prog.looks [] ∧ ∀ (j : Nat) t, fn.params[j]? = some t → Tryd.pinned.checked.prog.wantsStandIn t = false := by
  obtain rfl : f = 3 := Option.some.inj ((show Tryd.prog.funcNamed "pub-bridleway/laws.FnCleanAgain" = some 3 by kernel_rfl).symm.trans hf) |>.symm
  obtain rfl : fn = Tryd.f3 := (Option.some.inj (Tryd.func3.symm.trans hfn)).symm
  refine ⟨by kernel_rfl, fun j t ht => ?_⟩
  have hm : t ∈ [9, 22, 9] := by have := Array.mem_of_getElem? ht; simpa [Tryd.params3] using this
  have hall : ∀ u ∈ [9, 22, 9], Tryd.prog.wantsStandIn u = false := by
    intro u hu
    simp only [List.mem_cons, List.not_mem_nil, or_false] at hu
    rcases hu with rfl | rfl | rfl
    · exact (show Tryd.prog.wantsStandIn 9 = false by kernel_rfl)
    · exact (show Tryd.prog.wantsStandIn 22 = false by kernel_rfl)
    · exact (show Tryd.prog.wantsStandIn 9 = false by kernel_rfl)
  exact hall t hm

theorem card : Rows.FnCleanAgainCardSaid :=
  Claim7.holds_tied_plain_at .later [] _ _ _ _ said (fun _ h => by cases h) (by kernel_rfl) (fun _ h => by cases h) fnCleanAgain_row_tie rfl ⟨rfl, rfl⟩ (by kernel_rfl) rfl plain (by kernel_rfl)
end Go.Proofs.YtabaldddhopobaaDoor.cleanagain
