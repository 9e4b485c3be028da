/- The law FnEchoText holds for every input: a route without parameters is found by its path. -/
import Derived.Test.YtekclaobeccbdaaDoorBm
import Derived.Test.YtekclaobeccbdaaDoorBk
/- FnEchoText. Printed by wip/mk_i3.py. -/
namespace Go.Proofs
open Go Bw
set_option maxRecDepth 20000

theorem rts_cells {w : World} {ad : Option Addr} {Rs : List RB} (h : RtsAt w ad Rs) : ∀ j v, (Rs.flatMap RB.cells)[j]? = some v → ∃ b o, ad = some ⟨b, o, none⟩ ∧ w.cell? ⟨b, o + j, none⟩ = some v := by
  have key : ∀ (Rs : List RB) (j : Nat) v, (Rs.flatMap RB.cells)[j]? = some v → ∃ i r k, Rs[i]? = some r ∧ r.cells[k]? = some v ∧ j = i * 3 + k := by
    intro Rs
    induction Rs with
    | nil => intro j v h; simp at h
    | cons a l ih =>
      intro j v hj
      rw [List.flatMap_cons] at hj
      by_cases h3 : j < 3
      · rw [List.getElem?_append_left (by simp [RB.cells]; omega)] at hj
        exact ⟨0, a, j, rfl, hj, by omega⟩
      · rw [List.getElem?_append_right (by simp [RB.cells]; omega)] at hj
        obtain ⟨i, r, k, h1, h2, h4⟩ := ih _ _ hj
        have : a.cells.length = 3 := rfl
        exact ⟨i + 1, r, k, by simpa using h1, h2, by omega⟩
  intro j v hj
  obtain ⟨i, r, k, h1, h2, rfl⟩ := key Rs j v hj
  obtain ⟨b, o, rfl, h4⟩ := h i r h1
  exact ⟨b, o, rfl, by have := h4 k v h2; rw [← Nat.add_assoc]; exact this⟩

theorem flat_len (Rs : List RB) : (Rs.flatMap RB.cells).length = Rs.length * 3 := by
  induction Rs with
  | nil => rfl
  | cons a l ih => rw [List.flatMap_cons, List.length_append, ih, List.length_cons]; show 3 + _ = _; omega
theorem add_at' (b o j : Nat) : (⟨b, o, none⟩ : Addr).add j = ⟨b, o + j, none⟩ := by
  by_cases h : j = 0
  · subst h; simp [Addr.add]
  · simp [Addr.add, h]
theorem f6_any (w : World) (ad : Option Addr) (cp : Nat) (Rs : List RB) (r : RB) (hat : RtsAt w ad Rs) : Calls Tryd.prog 6 #[.slice ad Rs.length cp, .agg r.cells.toArray] w fun e w' => e = .returned (.bool true) ∧ HF w (fun _ => False) [] w' := by
  refine enter (fun _ => False) [] Tryd.func6 rfl Tryd.ntmps6 rfl rfl (HF.start w _) fun c hc => ?_
  subst hc
  refine GC.seq ?_
  refine GC.reg ?_  -- region 0, echo.go:179
  refine G.bx (l := r.cells) rfl (by simp [cells_agg, RB.cells]) rfl (fun b3 hb3 => ?_)
  refine G.v (V.asg rfl) rfl ?_
  refine G.nil ?_
  refine GC.seq ?_
  refine GC.seq ?_
  refine GC.reg ?_  -- region 1, echo.go:180
  refine G.v (V.mv rfl) rfl ?_
  refine G.callP Tryd.call23 rfl rfl (fun w1 hw1 => f23_any w1 ad cp Rs (fun i r hr => by obtain ⟨b, o, h1, h2⟩ := hat i r hr; exact ⟨b, o, h1, fun j v hj => hw1.cellOld (h2 j v hj) id⟩)) ?_
  refine G.v (V.not rfl) rfl ?_
  refine G.v (V.mv rfl) rfl ?_
  refine G.bc 10 rfl (fun h10 => ?_) (fun h10 => ?_)
  · refine G.sg rfl rfl rfl rfl rfl rfl ?_
    refine G.sg rfl rfl rfl rfl rfl rfl ?_
    refine G.sg rfl rfl rfl rfl rfl rfl ?_
    refine G.v (V.pickT rfl rfl) rfl ?_
    refine G.nil ?_
    refine GC.condT rfl ?_
    refine GC.seq ?_
    refine GC.reg ?_  -- region 2, echo.go:181
    refine G.v (V.asg rfl) rfl ?_
    refine G.nil ?_
    exact GC.ret1 rfl rfl fun w' hw' => ⟨rfl, hw'.sub (List.nil_sublist _)⟩
  · refine G.vg rfl rfl (V.ldA (cs := r.cells) Tryd.isAgg23 Tryd.sizeOf23 rfl (.head _) rfl rfl) rfl ?_
    refine G.gd rfl rfl ?_
    refine G.callP Tryd.call12 rfl rfl (fun w1 hw1 => f12_any w1 r) ?_
    refine G.vg rfl rfl (V.not rfl) rfl ?_
    refine G.v (V.pickF rfl rfl) rfl ?_
    refine G.nil ?_
    refine GC.cond rfl (fun h14 => ?_) (fun h14 => ?_)
    · refine GC.seq ?_
      refine GC.reg ?_  -- region 2, echo.go:181
      refine G.v (V.asg rfl) rfl ?_
      refine G.nil ?_
      exact GC.ret1 rfl rfl fun w' hw' => ⟨rfl, hw'.sub (List.nil_sublist _)⟩
    refine GC.skip ?_
    refine GC.seq ?_
    refine GC.join (fun fr' H' => ∃ ada cpa Ha, Own 23 3 (.slice ada (r :: Rs).length cpa) (r :: Rs).length ((r :: Rs).flatMap RB.cells) Ha ∧ Sub [(3, Pt b3 0), (5, .slice ada (r :: Rs).length cpa)] fr' ∧ (∀ w1, HF w (fun _ => False) H' w1 → HF w (fun _ => False) (Ha ++ [⟨b3, true, .row r.cells 23 (0, 0)⟩]) w1)) (fun J3 => ?_) ?_
    · refine GC.reg ?_  -- region 3, echo.go:183
      have hftR : fitsRs Rs = true := by simpa using h10
      refine G.v (V.ldA (cs := r.cells) Tryd.isAgg23 Tryd.sizeOf23 rfl (.head _) rfl rfl) rfl ?_
      refine G.bs (BS.three (a := S r.m) (b := S r.p) (c := S r.nm) Tryd.underlying28 Tryd.sizeOf23 Tryd.zeroValue23) rfl rfl (fun tb htb => ?_)
      have hnR : Rs.length ≤ 2147483647 := by simp only [fitsRs, Bool.and_eq_true, decide_eq_true_eq] at hftR; exact hftR.1
      have hownb : Own 23 3 (.slice (some ⟨tb, 0, none⟩) 1 1) 1 r.cells [⟨tb, true, .row (r.cells ++ []) 23 (0, 0)⟩] := .row rfl rfl (Nat.le_refl _)
      refine G.turn (H' := [⟨tb, true, .row (r.cells ++ []) 23 (0, 0)⟩] ++ [⟨b3, true, .row r.cells 23 (0, 0)⟩]) (fun w1 hw1 => by simpa [RB.cells] using hw1) ?_
      refine G.v (V.mv rfl) rfl ?_
      by_cases hRe : Rs.length = 0
      · have hR0 : Rs = [] := List.length_eq_zero_iff.1 hRe
        subst hR0
        refine G.appZ (l := 1) (cp := 1) (i := Tryd.t23) Tryd.underlying28 rfl rfl rfl (Nat.le_refl _) rfl ?_
        refine G.v (V.asg rfl) rfl ?_
        refine G.nil ?_
        exact J3 _ _ ⟨some ⟨tb, 0, none⟩, 1, _, hownb, .cons rfl (.cons rfl .nil), fun w1 h => h⟩
      have hcells := rts_cells hat
      obtain ⟨r0, hr0⟩ : ∃ r0, Rs[0]? = some r0 := ⟨_, List.getElem?_eq_getElem (by omega)⟩
      obtain ⟨sb, so, rfl, _⟩ := hat 0 r0 hr0
      refine G.app (ad := ⟨sb, so, none⟩) (m := Rs.length) (vs := Rs.flatMap RB.cells) (i := Tryd.t23) (sz := 3) (by_ := 48) Tryd.underlying28 rfl rfl rfl rfl rfl rfl rfl hownb (H' := [⟨b3, true, .row r.cells 23 (0, 0)⟩]) (.refl _) (fun w1 hw1 j u hj => ?_) (by rw [flat_len]) (fun u hu => ?_) (by omega) (by omega) (by omega) rfl (fun sv' Hs' hown' => ?_)
      · obtain ⟨b, o, e, h1⟩ := hcells j u hj
        cases e
        rw [add_at']
        exact hw1.cellOld h1 id
      · obtain ⟨q, _, hq⟩ := List.mem_flatMap.1 hu
        simp only [RB.cells, List.mem_cons, List.not_mem_nil, or_false] at hq
        rcases hq with rfl | rfl | rfl <;> rfl
      obtain ⟨ada, cpa, rfl⟩ := hown'.slice
      refine G.v (V.asg rfl) rfl ?_
      refine G.nil ?_
      have e1 : 1 + Rs.length = (r :: Rs).length := by simp [Nat.add_comm]
      rw [e1] at hown'
      refine J3 _ _ ⟨ada, cpa, _, hown', .cons rfl (.cons (by rw [e1]; rfl) .nil), fun w1 h => h.perm List.perm_append_comm⟩
    rintro fr' H' ⟨ada, cpa, Ha, howna, hs3, hH3⟩
    refine GC.weak hs3 ?_
    clear hs3
    refine GC.turn hH3 ?_
    refine GC.seq ?_
    refine GC.seq ?_
    refine GC.reg ?_  -- region 4, echo.go:184
    refine G.v (V.mv rfl) rfl ?_
    refine G.callW (fun v H2 => ∃ b : Bool, (b = true ↔ Right (r :: Rs)) ∧ v = .bool b ∧ H2 = Ha ++ [⟨b3, true, .row r.cells 23 (0, 0)⟩]) Tryd.call14 rfl rfl (fun w1 hw1 => ?_) ?_
    · refine (f14_any w1 ada cpa (r :: Rs) (rts_own hw1 (fun e he => List.mem_append_left _ he) howna)).mono fun e w' ⟨b, h1, h2, h3⟩ => ⟨_, _, h2, ?_, b, h1, rfl, rfl⟩
      exact hw1.after0 h3 (fun e he => by cases he)
    rintro v H2 ⟨br, hbr, rfl, rfl⟩
    refine G.v (V.not rfl) rfl ?_
    refine G.v (V.mv rfl) rfl ?_
    refine G.bc 22 rfl (fun h22 => ?_) (fun h22 => ?_)
    · refine G.sg rfl rfl rfl rfl rfl rfl ?_
      refine G.sg rfl rfl rfl rfl rfl rfl ?_
      refine G.sg rfl rfl rfl rfl rfl rfl ?_
      refine G.v (V.pickT rfl rfl) rfl ?_
      refine G.v (V.mv rfl) rfl ?_
      refine G.sg rfl rfl rfl rfl rfl rfl ?_
      refine G.sg rfl rfl rfl rfl rfl rfl ?_
      refine G.sg rfl rfl rfl rfl rfl rfl ?_
      refine G.v (V.pickT rfl rfl) rfl ?_
      refine G.v (V.mv rfl) rfl ?_
      refine G.sg rfl rfl rfl rfl rfl rfl ?_
      refine G.sg rfl rfl rfl rfl rfl rfl ?_
      refine G.sg rfl rfl rfl rfl rfl rfl ?_
      refine G.sg rfl rfl rfl rfl rfl rfl ?_
      refine G.sg rfl rfl rfl rfl rfl rfl ?_
      refine G.v (V.pickT rfl rfl) rfl ?_
      refine G.nil ?_
      refine GC.condT rfl ?_
      refine GC.seq ?_
      refine GC.reg ?_  -- region 5, echo.go:185
      refine G.callP Tryd.call16 rfl rfl (fun w1 hw1 => f16_any w1) ?_
      refine G.v (V.asg rfl) rfl ?_
      refine G.nil ?_
      exact GC.ret1 rfl rfl fun w' hw' => ⟨rfl, hw'.sub (List.nil_sublist _)⟩
    · refine G.vg rfl rfl (V.mv rfl) rfl ?_
      have hRt : Right (r :: Rs) := hbr.1 (by simpa using h22)
      refine G.gd rfl rfl ?_
      refine G.callW (fun v H2 => ∃ b : Bool, (b = true ↔ ((r :: Rs).map ekey).Nodup) ∧ v = .bool b ∧ H2 = Ha ++ [⟨b3, true, .row r.cells 23 (0, 0)⟩]) Tryd.call25 rfl rfl (fun w1 hw1 => ?_) ?_
      · refine (f25_any w1 ada cpa (r :: Rs) (rts_own hw1 (fun e he => List.mem_append_left _ he) howna) (by have := hRt.1; omega) (fun x hx => ⟨by have := (hRt.2 x hx).ml; omega, by have := (hRt.2 x hx).pl; omega⟩)).mono fun e w' ⟨b, h1, h2, h3⟩ => ⟨_, _, h2, ?_, b, h1, rfl, rfl⟩
        exact hw1.after0 h3 (fun e he => by cases he)
      rintro v H2 ⟨ba, hba, rfl, rfl⟩
      refine G.vg rfl rfl (V.not rfl) rfl ?_
      refine G.v (V.pickF rfl rfl) rfl ?_
      refine G.v (V.mv rfl) rfl ?_
      refine G.bc 27 rfl (fun h27 => ?_) (fun h27 => ?_)
      · refine G.sg rfl rfl rfl rfl rfl rfl ?_
        refine G.sg rfl rfl rfl rfl rfl rfl ?_
        refine G.sg rfl rfl rfl rfl rfl rfl ?_
        refine G.v (V.pickT rfl rfl) rfl ?_
        refine G.v (V.mv rfl) rfl ?_
        refine G.sg rfl rfl rfl rfl rfl rfl ?_
        refine G.sg rfl rfl rfl rfl rfl rfl ?_
        refine G.sg rfl rfl rfl rfl rfl rfl ?_
        refine G.sg rfl rfl rfl rfl rfl rfl ?_
        refine G.sg rfl rfl rfl rfl rfl rfl ?_
        refine G.v (V.pickT rfl rfl) rfl ?_
        refine G.nil ?_
        refine GC.condT rfl ?_
        refine GC.seq ?_
        refine GC.reg ?_  -- region 5, echo.go:185
        refine G.callP Tryd.call16 rfl rfl (fun w1 hw1 => f16_any w1) ?_
        refine G.v (V.asg rfl) rfl ?_
        refine G.nil ?_
        exact GC.ret1 rfl rfl fun w' hw' => ⟨rfl, hw'.sub (List.nil_sublist _)⟩
      · refine G.vg rfl rfl (V.fa F23_0 rfl) rfl ?_
        refine G.vg rfl rfl (V.ld (b := b3) (off := 0 + 0) (wf := true) (l := r.cells) (T := 23) (fz := (0, 0)) (v := S r.m) Tryd.isAgg9 rfl (by simp) rfl) rfl ?_
        refine G.vg rfl rfl (V.eqS rfl rfl) rfl ?_
        refine G.v (V.pickF rfl rfl) rfl ?_
        refine G.v (V.mv rfl) rfl ?_
        refine G.bc 32 rfl (fun h32 => ?_) (fun h32 => ?_)
        · refine G.sg rfl rfl rfl rfl rfl rfl ?_
          refine G.sg rfl rfl rfl rfl rfl rfl ?_
          refine G.sg rfl rfl rfl rfl rfl rfl ?_
          refine G.sg rfl rfl rfl rfl rfl rfl ?_
          refine G.sg rfl rfl rfl rfl rfl rfl ?_
          refine G.v (V.pickT rfl rfl) rfl ?_
          refine G.nil ?_
          refine GC.condT rfl ?_
          refine GC.seq ?_
          refine GC.reg ?_  -- region 5, echo.go:185
          refine G.callP Tryd.call16 rfl rfl (fun w1 hw1 => f16_any w1) ?_
          refine G.v (V.asg rfl) rfl ?_
          refine G.nil ?_
          exact GC.ret1 rfl rfl fun w' hw' => ⟨rfl, hw'.sub (List.nil_sublist _)⟩
        · refine G.vg rfl rfl (V.fa F23_1 rfl) rfl ?_
          have hR := hRt.2 r (.head _)
          have heP := ePath_of hR.hd
          refine G.vg rfl rfl (V.ld (b := b3) (off := 0 + 1) (wf := true) (l := r.cells) (T := 23) (fz := (0, 0)) (v := S r.p) Tryd.isAgg9 rfl (by simp) rfl) rfl ?_
          refine G.gd rfl rfl ?_
          refine G.callW (fun v H2 => ∃ ad cp, v = .slice ad (prs r.p none).2.length cp ∧ H2 = Ha ++ [⟨b3, true, .row r.cells 23 (0, 0)⟩]) Tryd.call15 rfl rfl (fun w1 hw1 => ?_) ?_
          · have hpl := hR.pl
            refine (f15_any w1 r.p (by omega)).mono fun e w' ⟨v, H1, h1, h2, h3⟩ => ?_
            rw [heP] at h2
            obtain ⟨ad', cp', rfl⟩ := h2.slice
            exact ⟨_, _, h1, (hw1.after0 h3 h2.w).sub (List.sublist_append_right _ _), ad', cp', rfl, rfl⟩
          rintro v H2 ⟨adn, cpn, rfl, rfl⟩
          refine G.vg rfl rfl (V.lenL Tryd.underlying24 rfl) rfl ?_
          refine G.vg rfl rfl (V.gt rfl rfl) rfl ?_
          refine G.v (V.pickF rfl rfl) rfl ?_
          refine G.nil ?_
          refine GC.cond rfl (fun h38 => ?_) (fun h38 => ?_)
          · refine GC.seq ?_
            refine GC.reg ?_  -- region 5, echo.go:185
            refine G.callP Tryd.call16 rfl rfl (fun w1 hw1 => f16_any w1) ?_
            refine G.v (V.asg rfl) rfl ?_
            refine G.nil ?_
            exact GC.ret1 rfl rfl fun w' hw' => ⟨rfl, hw'.sub (List.nil_sublist _)⟩
          refine GC.skip ?_
          refine GC.seq ?_
          refine GC.join (fun fr' H' => ∃ b7 adn cpn adv0 cpv, Sub [(6, Pt b7 0)] fr' ∧ (∀ w1, HF w (fun _ => False) H' w1 → HF w (fun _ => False) [⟨b7, true, .row [I 0, S r.p, .slice adn 0 cpn, .slice adv0 0 cpv, S []] 33 (0, 0)⟩] w1)) (fun J6 => ?_) ?_
          · have hnd : ((r :: Rs).map ekey).Nodup := hba.1 (by simpa using h27)
            have hmn : r.m ≠ nfName := of_decide_eq_false h32
            have hnn : (prs r.p none).2 = [] := List.length_eq_zero_iff.1 (by simp at h38; exact h38 ▸ rfl)
            have hSb : ∀ (H : SH) w1, HF w (fun _ => False) H w1 → (⟨b3, true, .row r.cells 23 (0, 0)⟩ : Ent) ∈ H → ∀ j v, r.cells[j]? = some v → w1.cell? ⟨b3, j, none⟩ = some v := fun H w1 hw h1 j v hj => cell_row hw h1 (by rw [nth_eq]; exact hj)
            refine GC.regA (fun w1 => ∀ j v, r.cells[j]? = some v → w1.cell? ⟨b3, j, none⟩ = some v) mixed ?_
            refine GA.p 0 rfl (by kernel_rfl) (fun w1 hw1 => hSb _ w1 hw1 (by simp)) (fun _ => V.mv rfl) rfl ?_
            refine GA.p 2 rfl (by kernel_rfl) (fun w1 hw1 => hSb _ w1 hw1 (by simp)) (fun _ => V.fa F23_0 rfl) rfl ?_
            refine GA.ld 3 rfl (by kernel_rfl) (fun w1 hw1 => hSb _ w1 hw1 (by simp)) Tryd.isAgg9 rfl (fun w1 h => h 0 (S r.m) rfl) rfl ?_
            refine GA.p 4 rfl (by kernel_rfl) (fun w1 hw1 => hSb _ w1 hw1 (by simp)) (fun _ => V.fa F23_1 rfl) rfl ?_
            refine GA.ld 5 rfl (by kernel_rfl) (fun w1 hw1 => hSb _ w1 hw1 (by simp)) Tryd.isAgg9 rfl (fun w1 h => h 1 (S r.p) rfl) rfl ?_
            refine GA.via (fun fr' H' => ∃ b7, ∃ adn cpn adv0 cpv, Sub [(6, Pt b7 0), (47, .agg #[I 0, S r.p, .slice adn 0 cpn, .slice adv0 0 cpv, S []]), (40, .slice ada (r :: Rs).length cpa), (43, S r.m), (45, S r.p)] fr' ∧ (∀ w1, HF w (fun _ => False) H' w1 → HF w (fun _ => False) (⟨b7, true, .row [I 0, S [], .slice none 0 0, .slice none 0 0, S []] 33 (0, 0)⟩ :: [⟨b3, true, .row r.cells 23 (0, 0)⟩]) w1)) #[true, true, true, true, true, true, true, true, true, false] 1 ?_ (fun finB3 => ?_)
            · rintro fr' H' ⟨b7, adn, cpn, adv0, cpv, hs9, hH⟩
              refine GA.weak hs9 ?_
              clear hs9
              refine GA.turn hH ?_
              refine GA.one 9 rfl (by kernel_rfl) ?_
              refine GB.stA (cs := [I 0, S r.p, .slice adn 0 cpn, .slice adv0 0 cpv, S []]) Tryd.sizeOf33 rfl rfl (fun v hv => ?_) .z rfl (fun w1 hw1 => hSb _ w1 hw1 (by simp [putE])) ?_
              · simp only [List.mem_cons, List.not_mem_nil, or_false] at hv
                rcases hv with rfl | rfl | rfl | rfl | rfl <;> rfl
              refine GA.done (by kernel_rfl) ?_
              exact J6 _ _ ⟨b7, adn, cpn, adv0, cpv, .cons rfl .nil, fun w1 h => h.sub (List.Sublist.cons_cons _ (List.nil_sublist _))⟩
            refine GA.via (fun fr' H' => ∃ adn cpn adv0 cpv, Sub [(47, .agg #[I 0, S r.p, .slice adn 0 cpn, .slice adv0 0 cpv, S []]), (40, .slice ada (r :: Rs).length cpa), (43, S r.m), (45, S r.p)] fr' ∧ (∀ w1, HF w (fun _ => False) H' w1 → HF w (fun _ => False) ([⟨b3, true, .row r.cells 23 (0, 0)⟩]) w1)) #[true, true, true, true, true, true, true, true, false, false] 2 ?_ (fun finA3 => ?_)
            · rintro fr' H' ⟨adn, cpn, adv0, cpv, hs9, hH⟩
              refine GA.weak hs9 ?_
              clear hs9
              refine GA.turn hH ?_
              refine GA.one 8 rfl (by kernel_rfl) ?_
              refine GB.al Tryd.zeroValue33 rfl (fun w1 hw1 => hSb _ w1 hw1 (by simp)) rfl (fun b7 => ?_)
              exact finB3 _ _ _ (by kernel_rfl) ⟨b7, adn, cpn, adv0, cpv, .cons rfl (.cons rfl (.cons rfl (.cons rfl (.cons rfl .nil)))), fun w1 h => h⟩
            refine GA.via (fun fr' H' => ∃ b7, ∃ adr cpr Hs, Own 51 3 (.slice adr (r :: Rs).length cpr) (r :: Rs).length ((r :: Rs).flatMap RB.cells) Hs ∧ Sub [(6, Pt b7 0), (41, .slice adr (r :: Rs).length cpr), (46, S r.p), (40, .slice ada (r :: Rs).length cpa), (43, S r.m), (45, S r.p)] fr' ∧ (∀ w1, HF w (fun _ => False) H' w1 → HF w (fun _ => False) (⟨b7, true, .row [I 0, S [], .slice none 0 0, .slice none 0 0, S []] 33 (0, 0)⟩ :: (Hs ++ (Ha ++ [⟨b3, true, .row r.cells 23 (0, 0)⟩]))) w1)) #[true, true, true, true, true, true, true, false, true, false] 2 ?_ (fun finB2 => ?_)
            · rintro fr' H' ⟨b7, adr, cpr, Hs, hownr, hs9, hH⟩
              refine GA.weak hs9 ?_
              clear hs9
              refine GA.turn hH ?_
              refine GA.one 7 rfl (by kernel_rfl) ?_
              refine GB.callW (xs := [.tmp 41, .tmp 43, .tmp 46]) (vs := [.slice adr (r :: Rs).length cpr, S r.m, S r.p]) (fun v H2 => ∃ adn cpn adv0 cpv, v = .agg #[I 0, S r.p, .slice adn 0 cpn, .slice adv0 0 cpv, S []] ∧ H2 = ⟨b7, true, .row [I 0, S [], .slice none 0 0, .slice none 0 0, S []] 33 (0, 0)⟩ :: [⟨b3, true, .row r.cells 23 (0, 0)⟩]) Tryd.call18 rfl rfl (fun v H2 ⟨adn, cpn, adv0, cpv, _, h2⟩ w1 hw1 => hSb _ w1 hw1 (by rw [h2]; simp)) (fun w1 hw1 => ?_) ?_
              · refine (f18_any w1 adr cpr (r :: Rs) r.m r.p (rts_own hw1 (fun e he => by simp [he]) hownr) (fun x h => (hRt.2 x h).ok) hRt.1 (by have := hR.pl; omega)).mono fun e w' ⟨num, p, ns, vs2, al, vn, vv, Hn, Hv, h1, _, h2, h3, h4, h5⟩ => ?_
                have htf := textFound hRt hnd (i := 0) (a := r) rfl hmn hnn
                rw [htf] at h1
                obtain ⟨rfl, rfl, rfl, rfl, rfl, _⟩ := fres_hit h1
                rw [hnn] at h3
                obtain ⟨adn, cpn, rfl⟩ := h3.slice
                obtain ⟨adv0, cpv, rfl⟩ := h4.slice
                refine ⟨_, _, h2, ?_, adn, cpn, adv0, cpv, rfl, rfl⟩
                have := hw1.after0 h5 (fun e he => by
                  rcases List.mem_append.1 he with he | he
                  · exact h3.w e he
                  · exact h4.w e he)
                exact this.sub (by refine List.Sublist.trans ?_ (List.sublist_append_right _ _); exact ((List.sublist_append_right Ha _).trans (List.sublist_append_right Hs _)).cons_cons _)
              rintro v H2 ⟨adn, cpn, adv0, cpv, rfl, rfl⟩
              exact finB3 _ _ _ (by kernel_rfl) ⟨b7, adn, cpn, adv0, cpv, .cons rfl (.cons rfl (.cons rfl (.cons rfl (.cons rfl .nil)))), fun w1 h => h⟩
            refine GA.via (fun fr' H' => ∃ adr cpr Hs, Own 51 3 (.slice adr (r :: Rs).length cpr) (r :: Rs).length ((r :: Rs).flatMap RB.cells) Hs ∧ Sub [(41, .slice adr (r :: Rs).length cpr), (46, S r.p), (40, .slice ada (r :: Rs).length cpa), (43, S r.m), (45, S r.p)] fr' ∧ (∀ w1, HF w (fun _ => False) H' w1 → HF w (fun _ => False) ((Hs ++ (Ha ++ [⟨b3, true, .row r.cells 23 (0, 0)⟩]))) w1)) #[true, true, true, true, true, true, true, false, false, false] 3 ?_ (fun finA2 => ?_)
            · rintro fr' H' ⟨adr, cpr, Hs, hownr, hs9, hH⟩
              refine GA.weak hs9 ?_
              clear hs9
              refine GA.turn hH ?_
              refine GA.two 7 8 rfl rfl (by kernel_rfl) ?_ ?_
              · refine GB.callW (xs := [.tmp 41, .tmp 43, .tmp 46]) (vs := [.slice adr (r :: Rs).length cpr, S r.m, S r.p]) (fun v H2 => ∃ adn cpn adv0 cpv, v = .agg #[I 0, S r.p, .slice adn 0 cpn, .slice adv0 0 cpv, S []] ∧ H2 = [⟨b3, true, .row r.cells 23 (0, 0)⟩]) Tryd.call18 rfl rfl (fun v H2 ⟨adn, cpn, adv0, cpv, _, h2⟩ w1 hw1 => hSb _ w1 hw1 (by rw [h2]; simp)) (fun w1 hw1 => ?_) ?_
                · refine (f18_any w1 adr cpr (r :: Rs) r.m r.p (rts_own hw1 (fun e he => by simp [he]) hownr) (fun x h => (hRt.2 x h).ok) hRt.1 (by have := hR.pl; omega)).mono fun e w' ⟨num, p, ns, vs2, al, vn, vv, Hn, Hv, h1, _, h2, h3, h4, h5⟩ => ?_
                  have htf := textFound hRt hnd (i := 0) (a := r) rfl hmn hnn
                  rw [htf] at h1
                  obtain ⟨rfl, rfl, rfl, rfl, rfl, _⟩ := fres_hit h1
                  rw [hnn] at h3
                  obtain ⟨adn, cpn, rfl⟩ := h3.slice
                  obtain ⟨adv0, cpv, rfl⟩ := h4.slice
                  refine ⟨_, _, h2, ?_, adn, cpn, adv0, cpv, rfl, rfl⟩
                  have := hw1.after0 h5 (fun e he => by
                    rcases List.mem_append.1 he with he | he
                    · exact h3.w e he
                    · exact h4.w e he)
                  exact this.sub (by refine List.Sublist.trans ?_ (List.sublist_append_right _ _); exact (List.sublist_append_right Ha _).trans (List.sublist_append_right Hs _))
                rintro v H2 ⟨adn, cpn, adv0, cpv, rfl, rfl⟩
                exact finA3 _ _ _ (by kernel_rfl) ⟨adn, cpn, adv0, cpv, .cons rfl (.cons rfl (.cons rfl (.cons rfl .nil))), fun w1 h => h⟩
              · refine GB.al Tryd.zeroValue33 rfl (fun w1 hw1 => hSb _ w1 hw1 (by simp)) rfl (fun b7 => ?_)
                exact finB2 _ _ _ (by kernel_rfl) ⟨b7, adr, cpr, Hs, hownr, .cons rfl (.cons rfl (.cons rfl (.cons rfl (.cons rfl (.cons rfl .nil))))), fun w1 h => h⟩
            refine GA.via (fun fr' H' => ∃ b7, ∃ adr cpr Hs, Own 51 3 (.slice adr (r :: Rs).length cpr) (r :: Rs).length ((r :: Rs).flatMap RB.cells) Hs ∧ Sub [(6, Pt b7 0), (41, .slice adr (r :: Rs).length cpr), (40, .slice ada (r :: Rs).length cpa), (43, S r.m), (45, S r.p)] fr' ∧ (∀ w1, HF w (fun _ => False) H' w1 → HF w (fun _ => False) (⟨b7, true, .row [I 0, S [], .slice none 0 0, .slice none 0 0, S []] 33 (0, 0)⟩ :: (Hs ++ (Ha ++ [⟨b3, true, .row r.cells 23 (0, 0)⟩]))) w1)) #[true, true, true, true, true, true, false, false, true, false] 3 ?_ (fun finB1 => ?_)
            · rintro fr' H' ⟨b7, adr, cpr, Hs, hownr, hs9, hH⟩
              refine GA.weak hs9 ?_
              clear hs9
              refine GA.turn hH ?_
              refine GA.one 6 rfl (by kernel_rfl) ?_
              refine GB.callW (xs := [.tmp 45]) (vs := [S r.p]) (fun v H2 => v = S r.p ∧ H2 = ⟨b7, true, .row [I 0, S [], .slice none 0 0, .slice none 0 0, S []] 33 (0, 0)⟩ :: (Hs ++ (Ha ++ [⟨b3, true, .row r.cells 23 (0, 0)⟩]))) Tryd.call21 rfl rfl (fun v H2 ⟨_, h2⟩ w1 hw1 => hSb _ w1 hw1 (by rw [h2]; simp)) (fun w1 hw1 => ?_) ?_
              · refine (f21_any w1 r.p (by have := hR.pl; omega)).mono fun e w' ⟨h1, h2⟩ => ⟨_, _, h1, hw1.after0 h2 (fun e he => by cases he), by rw [heP], rfl⟩
              rintro v H2 ⟨rfl, rfl⟩
              exact finB2 _ _ _ (by kernel_rfl) ⟨b7, adr, cpr, Hs, hownr, .cons rfl (.cons rfl (.cons rfl (.cons rfl (.cons rfl (.cons rfl .nil))))), fun w1 h => h⟩
            refine GA.via (fun fr' H' => ∃ adr cpr Hs, Own 51 3 (.slice adr (r :: Rs).length cpr) (r :: Rs).length ((r :: Rs).flatMap RB.cells) Hs ∧ Sub [(41, .slice adr (r :: Rs).length cpr), (40, .slice ada (r :: Rs).length cpa), (43, S r.m), (45, S r.p)] fr' ∧ (∀ w1, HF w (fun _ => False) H' w1 → HF w (fun _ => False) ((Hs ++ (Ha ++ [⟨b3, true, .row r.cells 23 (0, 0)⟩]))) w1)) #[true, true, true, true, true, true, false, false, false, false] 4 ?_ (fun finA1 => ?_)
            · rintro fr' H' ⟨adr, cpr, Hs, hownr, hs9, hH⟩
              refine GA.weak hs9 ?_
              clear hs9
              refine GA.turn hH ?_
              refine GA.two 6 8 rfl rfl (by kernel_rfl) ?_ ?_
              · refine GB.callW (xs := [.tmp 45]) (vs := [S r.p]) (fun v H2 => v = S r.p ∧ H2 = (Hs ++ (Ha ++ [⟨b3, true, .row r.cells 23 (0, 0)⟩]))) Tryd.call21 rfl rfl (fun v H2 ⟨_, h2⟩ w1 hw1 => hSb _ w1 hw1 (by rw [h2]; simp)) (fun w1 hw1 => ?_) ?_
                · refine (f21_any w1 r.p (by have := hR.pl; omega)).mono fun e w' ⟨h1, h2⟩ => ⟨_, _, h1, hw1.after0 h2 (fun e he => by cases he), by rw [heP], rfl⟩
                rintro v H2 ⟨rfl, rfl⟩
                exact finA2 _ _ _ (by kernel_rfl) ⟨adr, cpr, Hs, hownr, .cons rfl (.cons rfl (.cons rfl (.cons rfl (.cons rfl .nil)))), fun w1 h => h⟩
              · refine GB.al Tryd.zeroValue33 rfl (fun w1 hw1 => hSb _ w1 hw1 (by simp)) rfl (fun b7 => ?_)
                exact finB1 _ _ _ (by kernel_rfl) ⟨b7, adr, cpr, Hs, hownr, .cons rfl (.cons rfl (.cons rfl (.cons rfl (.cons rfl .nil)))), fun w1 h => h⟩
            refine GA.via (fun fr' H' => ∃ b7, Sub [(6, Pt b7 0), (40, .slice ada (r :: Rs).length cpa), (43, S r.m), (45, S r.p)] fr' ∧ (∀ w1, HF w (fun _ => False) H' w1 → HF w (fun _ => False) (⟨b7, true, .row [I 0, S [], .slice none 0 0, .slice none 0 0, S []] 33 (0, 0)⟩ :: (Ha ++ [⟨b3, true, .row r.cells 23 (0, 0)⟩])) w1)) #[true, false, true, true, true, true, false, false, true, false] 4 ?_ (fun finB0 => ?_)
            · rintro fr' H' ⟨b7, hs9, hH⟩
              refine GA.weak hs9 ?_
              clear hs9
              refine GA.turn hH ?_
              refine GA.one 1 rfl (by kernel_rfl) ?_
              refine GB.callW (xs := [.tmp 40]) (vs := [.slice ada (r :: Rs).length cpa]) (fun v H2 => ∃ Hs, Own 51 3 v (r :: Rs).length ((r :: Rs).flatMap RB.cells) Hs ∧ H2 = Hs ++ (⟨b7, true, .row [I 0, S [], .slice none 0 0, .slice none 0 0, S []] 33 (0, 0)⟩ :: Ha ++ [⟨b3, true, .row r.cells 23 (0, 0)⟩])) Tryd.call19 rfl rfl (fun v H2 ⟨Hs, _, h2⟩ w1 hw1 => hSb _ w1 hw1 (by rw [h2]; simp)) (fun w1 hw1 => ?_) ?_
              · refine (f19_any w1 ada cpa (r :: Rs) (rts_own hw1 (fun e he => by simp [he]) howna) (by have := hRt.1; omega)).mono fun e w' ⟨v, Hs, h1, h2, h3⟩ => ⟨v, _, h1, hw1.after0 h3 h2.w, Hs, h2, rfl⟩
              rintro v H2 ⟨Hs, hownr, rfl⟩
              obtain ⟨adr, cpr, rfl⟩ := hownr.slice
              exact finB1 _ _ _ (by kernel_rfl) ⟨b7, adr, cpr, Hs, hownr, .cons rfl (.cons rfl (.cons rfl (.cons rfl (.cons rfl .nil)))), fun w1 h => h.perm List.perm_middle⟩
            refine GA.via (fun fr' H' => Sub [(40, .slice ada (r :: Rs).length cpa), (43, S r.m), (45, S r.p)] fr' ∧ (∀ w1, HF w (fun _ => False) H' w1 → HF w (fun _ => False) ((Ha ++ [⟨b3, true, .row r.cells 23 (0, 0)⟩])) w1)) #[true, false, true, true, true, true, false, false, false, false] 5 ?_ (fun finA0 => ?_)
            · rintro fr' H' ⟨hs9, hH⟩
              refine GA.weak hs9 ?_
              clear hs9
              refine GA.turn hH ?_
              refine GA.two 1 8 rfl rfl (by kernel_rfl) ?_ ?_
              · refine GB.callW (xs := [.tmp 40]) (vs := [.slice ada (r :: Rs).length cpa]) (fun v H2 => ∃ Hs, Own 51 3 v (r :: Rs).length ((r :: Rs).flatMap RB.cells) Hs ∧ H2 = Hs ++ (Ha ++ [⟨b3, true, .row r.cells 23 (0, 0)⟩])) Tryd.call19 rfl rfl (fun v H2 ⟨Hs, _, h2⟩ w1 hw1 => hSb _ w1 hw1 (by rw [h2]; simp)) (fun w1 hw1 => ?_) ?_
                · refine (f19_any w1 ada cpa (r :: Rs) (rts_own hw1 (fun e he => by simp [he]) howna) (by have := hRt.1; omega)).mono fun e w' ⟨v, Hs, h1, h2, h3⟩ => ⟨v, _, h1, hw1.after0 h3 h2.w, Hs, h2, rfl⟩
                rintro v H2 ⟨Hs, hownr, rfl⟩
                obtain ⟨adr, cpr, rfl⟩ := hownr.slice
                exact finA1 _ _ _ (by kernel_rfl) ⟨adr, cpr, Hs, hownr, .cons rfl (.cons rfl (.cons rfl (.cons rfl .nil))), fun w1 h => h⟩
              · refine GB.al Tryd.zeroValue33 rfl (fun w1 hw1 => hSb _ w1 hw1 (by simp)) rfl (fun b7 => ?_)
                exact finB0 _ _ _ (by kernel_rfl) ⟨b7, .cons rfl (.cons rfl (.cons rfl (.cons rfl .nil))), fun w1 h => h⟩
            exact finA0 _ _ _ (by kernel_rfl) ⟨.cons rfl (.cons rfl (.cons rfl .nil)), fun w1 h => h⟩
          rintro fr' H' ⟨b7, adn, cpn, adv0, cpv, hs6, hH6⟩
          refine GC.weak hs6 ?_
          clear hs6
          refine GC.turn hH6 ?_
          refine GC.seq ?_
          refine GC.reg ?_  -- region 7, echo.go:188
          refine G.callP Tryd.call16 rfl rfl (fun w1 hw1 => f16_any w1) ?_
          refine G.v (V.mv rfl) rfl ?_
          refine G.bc 49 rfl (fun h49 => ?_) (fun h49 => ?_)
          · refine G.vg rfl rfl (V.fa F33_0 rfl) rfl ?_
            refine G.vg rfl rfl (V.ld Tryd.isAgg3 rfl (.head _) rfl) rfl ?_
            refine G.vg rfl rfl (V.eqI rfl rfl) rfl ?_
            refine G.v (V.pickT rfl rfl) rfl ?_
            refine G.v (V.mv rfl) rfl ?_
            refine G.bc 54 rfl (fun h54 => ?_) (fun h54 => ?_)
            · refine G.vg rfl rfl (V.fa F33_3 rfl) rfl ?_
              refine G.vg rfl rfl (V.ld Tryd.isAgg24 rfl (.head _) rfl) rfl ?_
              refine G.vg rfl rfl (V.lenL Tryd.underlying24 rfl) rfl ?_
              refine G.vg rfl rfl (V.eqI rfl rfl) rfl ?_
              refine G.v (V.pickT rfl rfl) rfl ?_
              refine G.v (V.asg rfl) rfl ?_
              refine G.nil ?_
              exact GC.ret1 rfl rfl fun w' hw' => ⟨rfl, hw'.sub (List.nil_sublist _)⟩
            · exact absurd h54 (by decide)
          · exact absurd h49 (by decide)
end Go.Proofs

/- A law's card out of its walk: FnEchoText. -/
set_option maxRecDepth 100000
namespace Go.Proofs.YtekclaobeccbdaaDoor.text
open Go Bw Go.ChangeShapes Go.WideShapes Go.ChangeAt Go.RowKit

/-- what bytes.ErrTooLarge is laid as -/
abbrev tooS : ByteArray := { data := #[98, 121, 116, 101, 115, 46, 66, 117, 102, 102, 101, 114, 58, 32, 116, 111, 111, 32, 108, 97, 114, 103, 101] }
noncomputable def low : Nat := (World.holding Tryd.prog default ⟨#[], #[], []⟩).heap.size
noncomputable def laidWorld (os : Os) : World :=
  let w0 := World.holding Tryd.prog os ⟨#[.cells #[.string tooS] 217], #[], []⟩
  { w0 with heap := w0.heap.modify 1 fun
      | .cells _ t frozen => .cells #[.iface 200 (.pointer (some ⟨low, 0, none⟩))] t frozen
      | o => o }

theorem contract (H : Type) (enc : TypeId × Value → H) (W : World) (base : Nat) (args : Array Value) (ds gs : List (DataW H)) (before : List MemPlace)
    (hval : ∀ (j : Nat) t v, Tryd.f6.params[j]? = some t → args[j]? = some v → Value.okWide Tryd.prog W .any base t v)
    (hW : DataW.Whole enc Tryd.prog Tryd.f6.params.toList Rows.fnEchoTextSpec.vars false W args.toList ds gs before) :
    Calls Tryd.prog 6 args W fun e W' => ∃ v, e = .returned v ∧ Rows.fnEchoTextSpec.post enc Tryd.prog Tryd.f6 false true false false W args v W' := by
  have hW' := hW
  obtain ⟨p, q, hA0, hV, rfl, hfz, hnd⟩ := hW
  have hA : DataW.TrodAll enc Tryd.prog W 0 (fun _ => true) true [28, 23] args.toList ds p := hA0
  obtain ⟨v0, vs0, d0, ds0, p0, q0, hargs, rfl, rfl, h0, r0⟩ := trodAll_cons hA
  obtain ⟨v1, vs_1, d1, ds1, p1, q1, rfl, rfl, rfl, h1, r1⟩ := trodAll_cons r0
  obtain ⟨rfl, rfl, rfl⟩ := trodAll_nil r1
  obtain rfl : args = #[v0, v1] := by cases args; simp_all
  obtain ⟨ad0, cp0, Rs, rfl, hcp0, hat0⟩ := open_rts Tryd.underlying28 Tryd.underlying23 tryd_c23 ⟨rfl, rfl⟩ ⟨rfl, rfl⟩ ⟨rfl, rfl⟩ Tryd.underlying9 tryd_c9 (hval 0 28 v0 rfl rfl) h0
  obtain ⟨r1, rfl⟩ := open_rb Tryd.underlying23 (by kernel_rfl) tryd_c23 Tryd.underlying9 (hval 1 23 v1 rfl rfl)
  refine (f6_any W ad0 cp0 Rs r1 hat0).mono fun e W' ⟨he, hf⟩ => ⟨_, he, ?_⟩
  refine post_law hW' rfl rfl ?_ (by kernel_rfl) (below_of hf)
  obtain ⟨rfl, rfl⟩ := trodVars_none hV
  rfl

theorem laid_met (os : Os) : laidMet Tryd.prog Rows.fnEchoTextRow.laid ((laidWorld os).forCall (fun _ _ => 0) ⟨#[], #[.slice none 0 0, .agg #[.string ⟨#[]⟩, .string ⟨#[]⟩, .string ⟨#[]⟩]], []⟩).memory :=
  laidMet_of_run (ps := [.cell 1 0, .cell low 0]) 8 (by kernel_rfl) (by kernel_rfl) (by kernel_rfl)
theorem reads (os : Os) {H : Type} (enc : TypeId × Value → H) : ∃ places, DataW.whole enc Tryd.prog ((laidWorld os).forCall (fun _ _ => 0) ⟨#[], #[.slice none 0 0, .agg #[.string ⟨#[]⟩, .string ⟨#[]⟩, .string ⟨#[]⟩]], []⟩).memory Tryd.f6.params.toList Rows.fnEchoTextSpec.vars false (#[.slice none 0 0, .agg #[.string ⟨#[]⟩, .string ⟨#[]⟩, .string ⟨#[]⟩]] : Array Value).toList 8 = some ([.nil, .agg [.lit (.string []), .lit (.string []), .lit (.string [])]], [], places) :=
  ⟨[], by kernel_rfl⟩

theorem lifted (os : Os) (started : os.Started) (H : Type) (enc : TypeId × Value → H) (F : Stop.Interp) :
    ReturnsInHanded {} Tryd.checked os 6 .any ((OpenSpec.ofChange Rows.fnEchoTextSpec).preRow enc Tryd.prog Tryd.f6 Rows.fnEchoTextRow.domain false Rows.fnEchoTextRow.laid) (((OpenSpec.ofChange Rows.fnEchoTextSpec).at F).post enc Tryd.prog Tryd.f6 false true false false) := by
  obtain ⟨places, hx⟩ := reads os enc
  refine returnsInHanded_of_row (C := Tryd.checked) (s := OpenSpec.ofChange Rows.fnEchoTextSpec) tryd_own started (by kernel_rfl) Tryd.func6
    (witness_row_at (enc := enc) (C := Tryd.checked) false (laidWorld os) #[.slice none 0 0, .agg #[.string ⟨#[]⟩, .string ⟨#[]⟩, .string ⟨#[]⟩]] rfl (by kernel_rfl) (by kernel_rfl) (by kernel_rfl)
      (OpenSpec.preRow_of_cond 8 hx (by kernel_rfl) (fun k hk => by cases hk) (by kernel_rfl) (laid_met os))) ?_
  intro W base args ds gs before hval hW _ _ _ hL _ _
  exact contract H enc W base args ds gs before hval hW

theorem said : Rows.FnEchoTextSaid :=
  OpenClaim.holds_of_cond 6 Tryd.f6 rfl rfl rfl rfl rfl rfl rfl ⟨rfl, rfl, rfl, rfl, rfl⟩ rfl rfl rfl rfl rfl (by kernel_rfl) Tryd.func6 (by kernel_rfl)
    (of_decide_eq_true (by kernel_rfl)) (by unfold Func.isWrapper; first | (rw [if_pos (by decide +kernel)]; kernel_rfl) | (rw [if_neg (by decide +kernel)]; exact ⟨rfl, rfl⟩))
    (fun os started H enc _ F => by rw [OpenClaim.pre_eq_preRow]; exact lifted os started H enc F)

theorem plain (f : FuncId) (fn : Func) (hf : Tryd.pinned.checked.prog.funcNamed "pub-bridleway/laws.FnEchoText" = some f) (hfn : Tryd.pinned.checked.prog.funcs[f]? = some fn) :
    false = Tryd.pinned.checked.prog.looks [] ∧ ∀ (j : Nat) t, fn.params[j]? = some t → Tryd.pinned.checked.prog.wantsStandIn t = false := by
  obtain rfl : f = 6 := Option.some.inj ((show Tryd.prog.funcNamed "pub-bridleway/laws.FnEchoText" = some 6 by kernel_rfl).symm.trans hf) |>.symm
  obtain rfl : fn = Tryd.f6 := (Option.some.inj (Tryd.func6.symm.trans hfn)).symm
  refine ⟨by kernel_rfl, fun j t ht => ?_⟩
  have hm : t ∈ [28, 23] := by have := Array.mem_of_getElem? ht; simpa [Tryd.params6] using this
  have hall : ∀ u ∈ [28, 23], Tryd.prog.wantsStandIn u = false := by
    intro u hu
    simp only [List.mem_cons, List.not_mem_nil, or_false] at hu
    rcases hu with rfl | rfl
    · exact (show Tryd.prog.wantsStandIn 28 = false by kernel_rfl)
    · exact (show Tryd.prog.wantsStandIn 23 = false by kernel_rfl)
  exact hall t hm

theorem card : Rows.FnEchoTextCardSaid :=
  Claim7.holds_tied_plain_at .later [] _ _ _ _ said (fun _ h => by cases h) (by kernel_rfl) (fun _ h => by cases h) fnEchoText_row_tie rfl ⟨rfl, rfl⟩ (by kernel_rfl) rfl plain (by kernel_rfl)
end Go.Proofs.YtekclaobeccbdaaDoor.text
