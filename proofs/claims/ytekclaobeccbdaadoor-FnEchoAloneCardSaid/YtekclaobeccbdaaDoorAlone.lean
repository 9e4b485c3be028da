/- The law FnEchoAlone holds for every input: a route that is the only one is found by its path with values in the place of its parameters. -/
import Derived.Test.YtekclaobeccbdaaDoorBj
import Derived.Test.YtekclaobeccbdaaDoorBk
/- FnEchoAlone. Printed by wip/mk_i1.py. -/
namespace Go.Proofs
open Go Bw
set_option maxRecDepth 20000

theorem _root_.Bw.GA.ldA {P : Program} {c : Cx} {n : Nat} {k : List Item} {fr : SF} {H : SH} {ops : Array Oper} {ty : TypeId} {pos : String} {aft : Array Edge} {S0 : World → Prop} {fuel : Nat} {listed : Array Bool} (i : Nat) {d : Nat} {t : TypeId} {x : Operand} {b off s : Nat} {cs : List Value} (hi : ops[i]? = some ⟨some d, .load t x, ty, pos, aft, none⟩) (hB : (Region.noSelect ops && Region.free .any ops listed i && (Region.ready .any ops listed).contains i) = true)
    (hS : ∀ w, HF c.w0 c.D H w → S0 w) (hA : ∀ w, (isAgg t).run P w = .ok true w) (hs : ∀ w, (Go.sizeOf t).run P w = .ok s w) (hx : ev fr x = some (Pt b off)) (hc : ∀ w, S0 w → ∀ j v, cs[j]? = some v → w.cell? ⟨b, off + j, none⟩ = some v) (hl : cs.length = s) (hd : Nat.blt d n = true)
    (h : GA P c n k ops S0 fuel (listed.setIfInBounds i true) ((d, .agg cs.toArray) :: fr) H) : GA P c n k ops S0 (fuel + 1) listed fr H :=
  GA.take hi hB hS (fun a w ha hS' dst pos aft g => by
    have hc' : ∀ j v, cs[j]? = some v → w.cell? ((⟨b, off, none⟩ : Addr).add j) = some v := by
      intro j v hj
      have h2 := hc w hS' j v hj
      by_cases h0 : j = 0
      · subst h0; simpa [Addr.add] using h2
      · simpa [Addr.add, h0] using h2
    have hrun := run_loadCells_list (P := P) (w := w) ⟨b, off, none⟩ cs hc'
    simp [execOp, ha.eval hx, Instr.loadAt, Instr.sureAddr, loadVar, hA, hs, ← hl, hrun]) hd h

theorem f3_any (w : World) (r : RB) (ad : Option Addr) (cp : Nat) (vs : List (List UInt8)) (hx : TxAt w ad vs) (hcp : vs.length ≤ cp) : Calls Tryd.prog 3 #[.agg r.cells.toArray, .slice ad vs.length cp] w fun e w' => e = .returned (.bool true) ∧ HF w (fun _ => False) [] w' := by
  refine enter (fun _ => False) [] Tryd.func3 rfl Tryd.ntmps3 rfl rfl (HF.start w _) fun c hc => ?_
  subst hc
  refine GC.seq ?_
  refine GC.reg ?_  -- region 0, echo.go:162
  refine G.bx (l := r.cells) rfl (by simp [cells_agg, RB.cells, cells_str]) rfl (fun b2 hb2 => ?_)
  refine G.v (V.asg rfl) rfl ?_
  refine G.nil ?_
  refine GC.seq ?_
  refine GC.seq ?_
  refine GC.reg ?_  -- region 1, echo.go:163
  refine G.v (V.ldA (cs := r.cells) Tryd.isAgg23 Tryd.sizeOf23 rfl (.head _) rfl rfl) rfl ?_
  refine G.callP Tryd.call12 rfl rfl (fun w1 hw1 => f12_any w1 r) ?_
  refine G.v (V.not rfl) rfl ?_
  refine G.v (V.mv rfl) rfl ?_
  refine G.bc 11 rfl (fun h11 => ?_) (fun h11 => ?_)
  · refine G.sg rfl rfl rfl rfl rfl rfl ?_
    refine G.sg rfl rfl rfl rfl rfl rfl ?_
    refine G.sg rfl rfl rfl rfl rfl rfl ?_
    refine G.v (V.pickT rfl rfl) rfl ?_
    refine G.nil ?_
    refine GC.condT rfl ?_
    refine GC.seq ?_
    refine GC.reg ?_  -- region 2, echo.go:164
    refine G.v (V.asg rfl) rfl ?_
    refine G.nil ?_
    exact GC.ret1 rfl rfl fun w' hw' => ⟨by simp, hw'.sub (List.nil_sublist _)⟩
  · refine G.vg rfl rfl (V.mv rfl) rfl ?_
    refine G.gd rfl rfl ?_
    refine G.callP Tryd.call13 rfl rfl (fun w1 hw1 => f13_any w1 ad cp vs (fun j x hj => by obtain ⟨b, o, h1, h2⟩ := hx j x hj; exact ⟨b, o, h1, hw1.cellOld h2 id⟩)) ?_
    refine G.vg rfl rfl (V.not rfl) rfl ?_
    refine G.v (V.pickF rfl rfl) rfl ?_
    refine G.nil ?_
    refine GC.cond rfl (fun h15 => ?_) (fun h15 => ?_)
    · refine GC.seq ?_
      refine GC.reg ?_  -- region 2, echo.go:164
      refine G.v (V.asg rfl) rfl ?_
      refine G.nil ?_
      exact GC.ret1 rfl rfl fun w' hw' => ⟨by simp, hw'.sub (List.nil_sublist _)⟩
    refine GC.skip ?_
    refine GC.seq ?_
    refine GC.seq ?_
    refine GC.reg ?_  -- region 3, echo.go:166
    refine G.v (V.ldA (cs := r.cells) Tryd.isAgg23 Tryd.sizeOf23 rfl (.head _) rfl rfl) rfl ?_
    refine G.bs (BS.three (a := S r.m) (b := S r.p) (c := S r.nm) Tryd.underlying28 Tryd.sizeOf23 Tryd.zeroValue23) rfl rfl (fun tb htb => ?_)
    refine G.callW (fun v H2 => ∃ b : Bool, (b = true ↔ Right [r]) ∧ v = .bool b ∧ H2 = [⟨b2, true, .row r.cells 23 (0, 0)⟩]) Tryd.call14 rfl rfl (fun w1 hw1 => ?_) ?_
    · refine (f14_any w1 (some ⟨tb, 0, none⟩) 1 [r] (rts_row (sp := []) hw1 (.head _))).mono fun e w' ⟨b, h1, h2, h3⟩ => ⟨_, _, h2, ?_, b, h1, rfl, rfl⟩
      exact (hw1.after0 h3 (fun e he => by cases he)).sub (List.sublist_cons_self _ _)
    rintro v H2 ⟨br, hbr, rfl, rfl⟩
    refine G.v (V.not rfl) rfl ?_
    refine G.v (V.mv rfl) rfl ?_
    refine G.bc 20 rfl (fun h20 => ?_) (fun h20 => ?_)
    · refine G.sg rfl rfl rfl rfl rfl rfl ?_
      refine G.sg rfl rfl rfl rfl rfl rfl ?_
      refine G.sg rfl rfl rfl rfl rfl rfl ?_
      refine G.v (V.pickT rfl rfl) rfl ?_
      refine G.v (V.mv rfl) rfl ?_
      refine G.sg rfl rfl rfl rfl rfl rfl ?_
      refine G.sg rfl rfl rfl rfl rfl rfl ?_
      refine G.sg rfl rfl rfl rfl rfl rfl ?_
      refine G.sg rfl rfl rfl rfl rfl rfl ?_
      refine G.sg rfl rfl rfl rfl rfl rfl ?_
      refine G.sg rfl rfl rfl rfl rfl rfl ?_
      refine G.sg rfl rfl rfl rfl rfl rfl ?_
      refine G.v (V.pickT rfl rfl) rfl ?_
      refine G.nil ?_
      refine GC.condT rfl ?_
      refine GC.seq ?_
      refine GC.reg ?_  -- region 4, echo.go:167
      refine G.callP Tryd.call16 rfl rfl (fun w1 hw1 => f16_any w1) ?_
      refine G.v (V.asg rfl) rfl ?_
      refine G.nil ?_
      exact GC.ret1 rfl rfl fun w' hw' => ⟨by simp, hw'.sub (List.nil_sublist _)⟩
    · refine G.vg rfl rfl (V.fa F23_0 rfl) rfl ?_
      refine G.vg rfl rfl (V.ld Tryd.isAgg9 rfl (.head _) rfl) rfl ?_
      refine G.vg rfl rfl (V.eqS rfl rfl) rfl ?_
      refine G.v (V.pickF rfl rfl) rfl ?_
      refine G.v (V.mv rfl) rfl ?_
      refine G.bc 25 rfl (fun h25 => ?_) (fun h25 => ?_)
      · refine G.sg rfl rfl rfl rfl rfl rfl ?_
        refine G.sg rfl rfl rfl rfl rfl rfl ?_
        refine G.sg rfl rfl rfl rfl rfl rfl ?_
        refine G.sg rfl rfl rfl rfl rfl rfl ?_
        refine G.sg rfl rfl rfl rfl rfl rfl ?_
        refine G.sg rfl rfl rfl rfl rfl rfl ?_
        refine G.sg rfl rfl rfl rfl rfl rfl ?_
        refine G.v (V.pickT rfl rfl) rfl ?_
        refine G.nil ?_
        refine GC.condT rfl ?_
        refine GC.seq ?_
        refine GC.reg ?_  -- region 4, echo.go:167
        refine G.callP Tryd.call16 rfl rfl (fun w1 hw1 => f16_any w1) ?_
        refine G.v (V.asg rfl) rfl ?_
        refine G.nil ?_
        exact GC.ret1 rfl rfl fun w' hw' => ⟨by simp, hw'.sub (List.nil_sublist _)⟩
      · refine G.vg rfl rfl (V.mv rfl) rfl ?_
        refine G.vg rfl rfl (V.lenL Tryd.underlying24 rfl) rfl ?_
        refine G.vg rfl rfl (V.fa F23_1 rfl) rfl ?_
        have hRt : Right [r] := hbr.1 (by simpa using h20)
        have hR := hRt.2 r (.head _)
        have heP := ePath_of hR.hd
        refine G.vg rfl rfl (V.ld Tryd.isAgg9 rfl (.head _) rfl) rfl ?_
        refine G.gd rfl rfl ?_
        refine G.callW (fun v H2 => ∃ ad cp, v = .slice ad (prs r.p none).2.length cp ∧ H2 = [⟨b2, true, .row r.cells 23 (0, 0)⟩]) Tryd.call15 rfl rfl (fun w1 hw1 => ?_) ?_
        · have hpl := hR.pl
          refine (f15_any w1 r.p (by omega)).mono fun e w' ⟨v, H1, h1, h2, h3⟩ => ?_
          rw [heP] at h2
          obtain ⟨ad', cp', rfl⟩ := h2.slice
          exact ⟨_, _, h1, (hw1.after0 h3 h2.w).sub (List.sublist_append_right _ _), ad', cp', rfl, rfl⟩
        rintro v H2 ⟨adn, cpn, rfl, rfl⟩
        refine G.vg rfl rfl (V.lenL Tryd.underlying24 rfl) rfl ?_
        refine G.vg rfl rfl (V.neI rfl rfl) rfl ?_
        refine G.v (V.pickF rfl rfl) rfl ?_
        refine G.nil ?_
        refine GC.cond rfl (fun h33 => ?_) (fun h33 => ?_)
        · refine GC.seq ?_
          refine GC.reg ?_  -- region 4, echo.go:167
          refine G.callP Tryd.call16 rfl rfl (fun w1 hw1 => f16_any w1) ?_
          refine G.v (V.asg rfl) rfl ?_
          refine G.nil ?_
          exact GC.ret1 rfl rfl fun w' hw' => ⟨by simp, hw'.sub (List.nil_sublist _)⟩
        refine GC.skip ?_
        refine GC.seq ?_
        refine GC.seq ?_
        have hRt : Right [r] := hbr.1 (by simpa using h20)
        have hR := hRt.2 r (.head _)
        have hmn : r.m ≠ nfName := of_decide_eq_false h25
        have hvl : vs.length = (prs r.p none).2.length := by simp at h33; omega
        have hft : fitsT vs = true := by simpa using h15
        have hnl : (prs r.p none).2.length ≤ 200 := by
          have h1 := prs_cnt r.p none
          have h2 : cnt (prs r.p none).1 ≤ (prs r.p none).1.length := by rw [cnt]; exact List.length_filter_le _ _
          have h3 := prs_len r.p none
          have := hR.pl
          simp at h1; omega
        refine GC.reg ?_  -- region 5, echo.go:169
        refine G.v (V.mv rfl) rfl ?_
        refine G.v (V.lenL Tryd.underlying24 rfl) rfl ?_
        refine G.v (V.mv rfl) rfl ?_
        refine G.nil ?_
        refine GC.block ?_
        refine GC.loopJ (fun N fr' H' => ∃ j, j + N = vs.length ∧ (∀ x ∈ vs.take j, x ≠ [] ∧ x.length ≤ 50 ∧ 47 ∉ x) ∧ Sub [(1, .slice ad vs.length cp), (2, Pt b2 0), (35, .slice ad vs.length cp), (36, I (vs.length : Nat)), (37, I ((j : Nat) : Int))] fr' ∧ H' = [⟨b2, true, .row r.cells 23 (0, 0)⟩]) vs.length
          ⟨0, by omega, by simp, .cons rfl (.cons rfl (.cons rfl (.cons rfl (.cons rfl .nil)))), rfl⟩ ?_
        rintro N fr' H' ⟨j, hj, hall, hs, rfl⟩ ih
        refine GC.weak hs ?_
        clear hs
        refine GC.seq ?_
        refine GC.reg ?_  -- region 6, echo.go:169
        refine G.v (V.lt rfl rfl) rfl ?_
        refine G.nil ?_
        refine GC.seq ?_
        refine GC.condD rfl (fun h38 => ?_) (fun h38 => ?_)
        · refine GC.skip ?_
          refine GC.seq ?_
          refine GC.block ?_
          refine GC.seq ?_
          have hlt : j < vs.length := by omega
          obtain ⟨x, hxj⟩ : ∃ x, vs[j]? = some x := ⟨_, List.getElem?_eq_getElem hlt⟩
          obtain ⟨ab, o, rfl, hcell⟩ := hx j x hxj
          have hxl : x.length ≤ 2147483647 := by
            have := List.all_eq_true.1 (Bool.and_eq_true_iff.1 hft).2 x (List.mem_of_getElem? hxj)
            exact of_decide_eq_true this
          refine GC.reg ?_  -- region 7, echo.go:169
          refine G.v (V.ia (i := j) Tryd.underlying24 Tryd.sizeOf9 rfl rfl hlt) rfl ?_
          refine G.v (V.ldC (v := S x) Tryd.isAgg9 rfl (by rw [Nat.mul_one]; exact hcell) id) rfl ?_
          refine G.v (V.asg rfl) rfl ?_
          refine G.nil ?_
          refine GC.seq ?_
          refine GC.reg ?_  -- region 8, echo.go:170
          refine G.v (V.mv rfl) rfl ?_
          refine G.v (V.eqS rfl rfl) rfl ?_
          refine G.v (V.mv rfl) rfl ?_
          refine G.bc 43 rfl (fun h43 => ?_) (fun h43 => ?_)
          · refine G.sg rfl rfl rfl rfl rfl rfl ?_
            refine G.sg rfl rfl rfl rfl rfl rfl ?_
            refine G.sg rfl rfl rfl rfl rfl rfl ?_
            refine G.v (V.pickT rfl rfl) rfl ?_
            refine G.v (V.mv rfl) rfl ?_
            refine G.sg rfl rfl rfl rfl rfl rfl ?_
            refine G.sg rfl rfl rfl rfl rfl rfl ?_
            refine G.v (V.pickT rfl rfl) rfl ?_
            refine G.nil ?_
            refine GC.condT rfl ?_
            refine GC.seq ?_
            refine GC.reg ?_  -- region 9, echo.go:171
            refine G.callP Tryd.call16 rfl rfl (fun w1 hw1 => f16_any w1) ?_
            refine G.v (V.asg rfl) rfl ?_
            refine G.nil ?_
            exact GC.ret1 rfl rfl fun w' hw' => ⟨by simp, hw'.sub (List.nil_sublist _)⟩
          · refine G.vg rfl rfl (V.mv rfl) rfl ?_
            refine G.vg rfl rfl (V.lenS Tryd.underlying9 rfl) rfl ?_
            refine G.vg rfl rfl (V.gt rfl rfl) rfl ?_
            refine G.v (V.pickF rfl rfl) rfl ?_
            refine G.v (V.mv rfl) rfl ?_
            refine G.bc 48 rfl (fun h48 => ?_) (fun h48 => ?_)
            · refine G.sg rfl rfl rfl rfl rfl rfl ?_
              refine G.sg rfl rfl rfl rfl rfl rfl ?_
              refine G.v (V.pickT rfl rfl) rfl ?_
              refine G.nil ?_
              refine GC.condT rfl ?_
              refine GC.seq ?_
              refine GC.reg ?_  -- region 9, echo.go:171
              refine G.callP Tryd.call16 rfl rfl (fun w1 hw1 => f16_any w1) ?_
              refine G.v (V.asg rfl) rfl ?_
              refine G.nil ?_
              exact GC.ret1 rfl rfl fun w' hw' => ⟨by simp, hw'.sub (List.nil_sublist _)⟩
            · refine G.vg rfl rfl (V.mv rfl) rfl ?_
              refine G.gd rfl rfl ?_
              refine G.callP Tryd.call17 rfl rfl (fun w1 hw1 => f17_any w1 x 47 (by omega)) ?_
              refine G.v (V.pickF rfl rfl) rfl ?_
              refine G.nil ?_
              refine GC.cond rfl (fun h51 => ?_) (fun h51 => ?_)
              · refine GC.seq ?_
                refine GC.reg ?_  -- region 9, echo.go:171
                refine G.callP Tryd.call16 rfl rfl (fun w1 hw1 => f16_any w1) ?_
                refine G.v (V.asg rfl) rfl ?_
                refine G.nil ?_
                exact GC.ret1 rfl rfl fun w' hw' => ⟨by simp, hw'.sub (List.nil_sublist _)⟩
              refine GC.skip ?_
              refine GC.inBlock ?_
              refine GC.reg ?_  -- region 10, echo.go:169
              refine G.v (V.addI rfl rfl rfl (by omega) (by omega)) rfl ?_
              refine G.v (V.mv rfl) rfl ?_
              refine G.nil ?_
              refine ih (N - 1) _ _ (by omega) ⟨j + 1, by omega, ?_, .cons rfl (.cons rfl (.cons rfl (.cons rfl (.cons rfl .nil)))), rfl⟩
              intro y hy
              rw [List.take_add_one, hxj] at hy
              rcases List.mem_append.1 hy with hy | hy
              · exact hall y hy
              · simp only [Option.toList, List.mem_singleton] at hy
                subst hy
                refine ⟨fun h => ?_, ?_, fun h => ?_⟩
                · rw [h] at h43; simp at h43
                · have := of_decide_eq_false h48; omega
                · rw [decide_eq_true h] at h51; cases h51
        refine GC.exit rfl ?_
        refine GC.seq ?_
        refine GC.join (fun fr' H' => ∃ b7 adn cpn adv0 cpv Hv, Own 9 1 (.slice adv0 vs.length cpv) vs.length (vs.map S) Hv ∧ Sub [(1, .slice ad vs.length cp), (7, Pt b7 0)] fr' ∧ (∀ w1, HF w (fun _ => False) H' w1 → HF w (fun _ => False) (⟨b7, true, .row [I 0, S r.p, .slice adn vs.length cpn, .slice adv0 vs.length cpv, S []] 33 (0, 0)⟩ :: Hv) w1)) (fun J11 => ?_) ?_
        · have hft2 := hft
          have heP := ePath_of hR.hd
          have hall : ∀ x ∈ vs, x ≠ [] ∧ x.length ≤ 50 ∧ 47 ∉ x := fun x h => hall x (by rw [List.take_of_length_le (by omega)]; exact h)
          have hSb : ∀ (H : SH) w1, HF w (fun _ => False) H w1 → (⟨b2, true, .row r.cells 23 (0, 0)⟩ : Ent) ∈ H → ∀ j v, r.cells[j]? = some v → w1.cell? ⟨b2, j, none⟩ = some v := fun H w1 hw h1 j v hj => cell_row hw h1 (by rw [nth_eq]; exact hj)
          refine GC.regA (fun w1 => ∀ j v, r.cells[j]? = some v → w1.cell? ⟨b2, j, none⟩ = some v) mixed ?_
          refine GA.ldA (cs := r.cells) 0 rfl (by kernel_rfl) (fun w1 hw1 => hSb _ w1 hw1 (by simp)) Tryd.isAgg23 Tryd.sizeOf23 rfl (fun w1 h j v hj => by rw [Nat.zero_add]; exact h j v hj) rfl rfl ?_
          refine GA.p 3 rfl (by kernel_rfl) (fun w1 hw1 => hSb _ w1 hw1 (by simp)) (fun _ => V.fa F23_0 rfl) rfl ?_
          refine GA.ld 4 rfl (by kernel_rfl) (fun w1 hw1 => hSb _ w1 hw1 (by simp)) Tryd.isAgg9 rfl (fun w1 h => h 0 (S r.m) rfl) rfl ?_
          refine GA.p 5 rfl (by kernel_rfl) (fun w1 hw1 => hSb _ w1 hw1 (by simp)) (fun _ => V.fa F23_1 rfl) rfl ?_
          refine GA.ld 6 rfl (by kernel_rfl) (fun w1 hw1 => hSb _ w1 hw1 (by simp)) Tryd.isAgg9 rfl (fun w1 h => h 1 (S r.p) rfl) rfl ?_
          refine GA.p 8 rfl (by kernel_rfl) (fun w1 hw1 => hSb _ w1 hw1 (by simp)) (fun _ => V.mv rfl) rfl ?_
          refine GA.via (fun fr' H' => ∃ b7, ∃ adn cpn adv0 cpv Hv, Own 9 1 (.slice adv0 vs.length cpv) vs.length (vs.map S) Hv ∧ Sub [(7, Pt b7 0), (64, .agg #[I 0, S r.p, .slice adn vs.length cpn, .slice adv0 vs.length cpv, S []]), (1, .slice ad vs.length cp), (2, Pt b2 0), (58, S r.m), (60, S r.p), (62, .slice ad vs.length cp)] fr' ∧ (∀ w1, HF w (fun _ => False) H' w1 → HF w (fun _ => False) (⟨b7, true, .row [I 0, S [], .slice none 0 0, .slice none 0 0, S []] 33 (0, 0)⟩ :: (Hv ++ [⟨b2, true, .row r.cells 23 (0, 0)⟩])) w1)) #[true, true, true, true, true, true, true, true, true, true, true, true, false] 1 ?_ (fun finB5 => ?_)
          · rintro fr' H' ⟨b7, adn, cpn, adv0, cpv, Hv, hownv, hs9, hH⟩
            refine GA.weak hs9 ?_
            clear hs9
            refine GA.turn hH ?_
            refine GA.one 12 rfl (by kernel_rfl) ?_
            refine GB.stA (cs := [I 0, S r.p, .slice adn vs.length cpn, .slice adv0 vs.length cpv, S []]) Tryd.sizeOf33 rfl rfl (fun v hv => ?_) .z rfl (fun w1 hw1 => hSb _ w1 hw1 (by simp [putE])) ?_
            · simp only [List.mem_cons, List.not_mem_nil, or_false] at hv
              rcases hv with rfl | rfl | rfl | rfl | rfl <;> rfl
            refine GA.done (by kernel_rfl) ?_
            exact J11 _ _ ⟨b7, adn, cpn, adv0, cpv, Hv, hownv, .cons rfl (.cons rfl .nil), fun w1 h => h.sub ((List.sublist_append_left Hv _).cons_cons _)⟩
          refine GA.via (fun fr' H' => ∃ adn cpn adv0 cpv Hv, Own 9 1 (.slice adv0 vs.length cpv) vs.length (vs.map S) Hv ∧ Sub [(64, .agg #[I 0, S r.p, .slice adn vs.length cpn, .slice adv0 vs.length cpv, S []]), (1, .slice ad vs.length cp), (2, Pt b2 0), (58, S r.m), (60, S r.p), (62, .slice ad vs.length cp)] fr' ∧ (∀ w1, HF w (fun _ => False) H' w1 → HF w (fun _ => False) ((Hv ++ [⟨b2, true, .row r.cells 23 (0, 0)⟩])) w1)) #[true, true, true, true, true, true, true, true, true, true, true, false, false] 2 ?_ (fun finA5 => ?_)
          · rintro fr' H' ⟨adn, cpn, adv0, cpv, Hv, hownv, hs9, hH⟩
            refine GA.weak hs9 ?_
            clear hs9
            refine GA.turn hH ?_
            refine GA.one 11 rfl (by kernel_rfl) ?_
            refine GB.al Tryd.zeroValue33 rfl (fun w1 hw1 => hSb _ w1 hw1 (by simp)) rfl (fun b7 => ?_)
            exact finB5 _ _ _ (by kernel_rfl) ⟨b7, adn, cpn, adv0, cpv, Hv, hownv, .cons rfl (.cons rfl (.cons rfl (.cons rfl (.cons rfl (.cons rfl (.cons rfl .nil)))))), fun w1 h => h⟩
          refine GA.via (fun fr' H' => ∃ b7, ∃ adr cpr Hs, Own 51 3 (.slice adr 1 cpr) 1 ([r].flatMap RB.cells) Hs ∧ Sub [(7, Pt b7 0), (56, .slice adr 1 cpr), (63, S (rv false r.p vs)), (1, .slice ad vs.length cp), (2, Pt b2 0), (58, S r.m), (60, S r.p), (62, .slice ad vs.length cp)] fr' ∧ (∀ w1, HF w (fun _ => False) H' w1 → HF w (fun _ => False) (⟨b7, true, .row [I 0, S [], .slice none 0 0, .slice none 0 0, S []] 33 (0, 0)⟩ :: (Hs ++ [⟨b2, true, .row r.cells 23 (0, 0)⟩])) w1)) #[true, true, true, true, true, true, true, true, true, true, false, true, false] 2 ?_ (fun finB4 => ?_)
          · rintro fr' H' ⟨b7, adr, cpr, Hs, hownr, hs9, hH⟩
            refine GA.weak hs9 ?_
            clear hs9
            refine GA.turn hH ?_
            refine GA.one 10 rfl (by kernel_rfl) ?_
            refine GB.callW (xs := [.tmp 56, .tmp 58, .tmp 63]) (vs := [.slice adr [r].length cpr, S r.m, S (rv false r.p vs)]) (fun v H2 => ∃ adn cpn adv0 cpv Hn Hv, Own 9 1 (.slice adv0 vs.length cpv) vs.length (vs.map S) Hv ∧ v = .agg #[I 0, S r.p, .slice adn vs.length cpn, .slice adv0 vs.length cpv, S []] ∧ H2 = (Hn ++ Hv) ++ (⟨b7, true, .row [I 0, S [], .slice none 0 0, .slice none 0 0, S []] 33 (0, 0)⟩ :: (Hs ++ [⟨b2, true, .row r.cells 23 (0, 0)⟩]))) Tryd.call18 rfl rfl (fun v H2 ⟨adn, cpn, adv0, cpv, Hn, Hv, _, _, h2⟩ w1 hw1 => hSb _ w1 hw1 (by rw [h2]; simp)) (fun w1 hw1 => ?_) ?_
            · refine (f18_any w1 adr cpr [r] r.m (rv false r.p vs) (rts_own hw1 (fun e he => by simp [he]) hownr) (fun x h => by rw [List.mem_singleton.1 h]; exact hR.ok) (by simp) ?_).mono fun e w' ⟨num, p, ns, vs2, al, vn, vv, Hn, Hv, h1, _, h2, h3, h4, h5⟩ => ?_
              · have := rv_len (Bd := 50) false r.p vs (fun x h => (hall x h).2.1)
                have := hR.pl
                omega
              · rw [alone hR hmn hvl (fun x h => ⟨(hall x h).1, (hall x h).2.2⟩)] at h1
                obtain ⟨rfl, rfl, rfl, rfl, rfl, _⟩ := fres_hit h1
                rw [← hvl] at h3
                obtain ⟨adn, cpn, rfl⟩ := h3.slice
                obtain ⟨adv0, cpv, rfl⟩ := h4.slice
                exact ⟨_, _, h2, hw1.after0 h5 (fun e he => by
                  rcases List.mem_append.1 he with he | he
                  · exact h3.w e he
                  · exact h4.w e he), adn, cpn, adv0, cpv, Hn, Hv, h4, rfl, rfl⟩
            rintro v H2 ⟨adn, cpn, adv0, cpv, Hn, Hv, hownv, rfl, rfl⟩
            exact finB5 _ _ _ (by kernel_rfl) ⟨b7, adn, cpn, adv0, cpv, Hv, hownv, .cons rfl (.cons rfl (.cons rfl (.cons rfl (.cons rfl (.cons rfl (.cons rfl .nil)))))), fun w1 h => (h.sub (List.Sublist.append (List.sublist_append_right Hn Hv) ((List.sublist_append_right Hs _).cons_cons _))).perm List.perm_middle⟩
          refine GA.via (fun fr' H' => ∃ adr cpr Hs, Own 51 3 (.slice adr 1 cpr) 1 ([r].flatMap RB.cells) Hs ∧ Sub [(56, .slice adr 1 cpr), (63, S (rv false r.p vs)), (1, .slice ad vs.length cp), (2, Pt b2 0), (58, S r.m), (60, S r.p), (62, .slice ad vs.length cp)] fr' ∧ (∀ w1, HF w (fun _ => False) H' w1 → HF w (fun _ => False) ((Hs ++ [⟨b2, true, .row r.cells 23 (0, 0)⟩])) w1)) #[true, true, true, true, true, true, true, true, true, true, false, false, false] 3 ?_ (fun finA4 => ?_)
          · rintro fr' H' ⟨adr, cpr, Hs, hownr, hs9, hH⟩
            refine GA.weak hs9 ?_
            clear hs9
            refine GA.turn hH ?_
            refine GA.two 10 11 rfl rfl (by kernel_rfl) ?_ ?_
            · refine GB.callW (xs := [.tmp 56, .tmp 58, .tmp 63]) (vs := [.slice adr [r].length cpr, S r.m, S (rv false r.p vs)]) (fun v H2 => ∃ adn cpn adv0 cpv Hn Hv, Own 9 1 (.slice adv0 vs.length cpv) vs.length (vs.map S) Hv ∧ v = .agg #[I 0, S r.p, .slice adn vs.length cpn, .slice adv0 vs.length cpv, S []] ∧ H2 = (Hn ++ Hv) ++ ((Hs ++ [⟨b2, true, .row r.cells 23 (0, 0)⟩]))) Tryd.call18 rfl rfl (fun v H2 ⟨adn, cpn, adv0, cpv, Hn, Hv, _, _, h2⟩ w1 hw1 => hSb _ w1 hw1 (by rw [h2]; simp)) (fun w1 hw1 => ?_) ?_
              · refine (f18_any w1 adr cpr [r] r.m (rv false r.p vs) (rts_own hw1 (fun e he => by simp [he]) hownr) (fun x h => by rw [List.mem_singleton.1 h]; exact hR.ok) (by simp) ?_).mono fun e w' ⟨num, p, ns, vs2, al, vn, vv, Hn, Hv, h1, _, h2, h3, h4, h5⟩ => ?_
                · have := rv_len (Bd := 50) false r.p vs (fun x h => (hall x h).2.1)
                  have := hR.pl
                  omega
                · rw [alone hR hmn hvl (fun x h => ⟨(hall x h).1, (hall x h).2.2⟩)] at h1
                  obtain ⟨rfl, rfl, rfl, rfl, rfl, _⟩ := fres_hit h1
                  rw [← hvl] at h3
                  obtain ⟨adn, cpn, rfl⟩ := h3.slice
                  obtain ⟨adv0, cpv, rfl⟩ := h4.slice
                  exact ⟨_, _, h2, hw1.after0 h5 (fun e he => by
                    rcases List.mem_append.1 he with he | he
                    · exact h3.w e he
                    · exact h4.w e he), adn, cpn, adv0, cpv, Hn, Hv, h4, rfl, rfl⟩
              rintro v H2 ⟨adn, cpn, adv0, cpv, Hn, Hv, hownv, rfl, rfl⟩
              exact finA5 _ _ _ (by kernel_rfl) ⟨adn, cpn, adv0, cpv, Hv, hownv, .cons rfl (.cons rfl (.cons rfl (.cons rfl (.cons rfl (.cons rfl .nil))))), fun w1 h => (h.sub (List.Sublist.append (List.sublist_append_right Hn Hv) (List.sublist_append_right Hs _))).perm (.refl _)⟩
            · refine GB.al Tryd.zeroValue33 rfl (fun w1 hw1 => hSb _ w1 hw1 (by simp)) rfl (fun b7 => ?_)
              exact finB4 _ _ _ (by kernel_rfl) ⟨b7, adr, cpr, Hs, hownr, .cons rfl (.cons rfl (.cons rfl (.cons rfl (.cons rfl (.cons rfl (.cons rfl (.cons rfl .nil))))))), fun w1 h => h⟩
          refine GA.via (fun fr' H' => ∃ b7, ∃ adr cpr Hs, Own 51 3 (.slice adr 1 cpr) 1 ([r].flatMap RB.cells) Hs ∧ Sub [(7, Pt b7 0), (56, .slice adr 1 cpr), (61, S r.p), (1, .slice ad vs.length cp), (2, Pt b2 0), (58, S r.m), (60, S r.p), (62, .slice ad vs.length cp)] fr' ∧ (∀ w1, HF w (fun _ => False) H' w1 → HF w (fun _ => False) (⟨b7, true, .row [I 0, S [], .slice none 0 0, .slice none 0 0, S []] 33 (0, 0)⟩ :: (Hs ++ [⟨b2, true, .row r.cells 23 (0, 0)⟩])) w1)) #[true, true, true, true, true, true, true, true, true, false, false, true, false] 3 ?_ (fun finB3 => ?_)
          · rintro fr' H' ⟨b7, adr, cpr, Hs, hownr, hs9, hH⟩
            refine GA.weak hs9 ?_
            clear hs9
            refine GA.turn hH ?_
            refine GA.one 9 rfl (by kernel_rfl) ?_
            refine GB.callW (xs := [.tmp 61, .tmp 62]) (vs := [S r.p, .slice ad vs.length cp]) (fun v H2 => v = S (rv false r.p vs) ∧ H2 = ⟨b7, true, .row [I 0, S [], .slice none 0 0, .slice none 0 0, S []] 33 (0, 0)⟩ :: (Hs ++ [⟨b2, true, .row r.cells 23 (0, 0)⟩])) Tryd.call20 rfl rfl (fun v H2 ⟨_, h2⟩ w1 hw1 => hSb _ w1 hw1 (by rw [h2]; simp)) (fun w1 hw1 => ?_) ?_
            · refine (f20_any w1 r.p ad cp vs (fun j x hj => by obtain ⟨b, o, h1, h2⟩ := hx j x hj; exact ⟨b, o, h1, hw1.cellOld h2 id⟩) (by have := hR.pl; omega) (fun x h => by have := (hall x h).2.1; omega) (by omega) hcp).mono fun e w' ⟨h1, h2⟩ => ⟨_, _, h1, hw1.after0 h2 (fun e he => by cases he), rfl, rfl⟩
            rintro v H2 ⟨rfl, rfl⟩
            exact finB4 _ _ _ (by kernel_rfl) ⟨b7, adr, cpr, Hs, hownr, .cons rfl (.cons rfl (.cons rfl (.cons rfl (.cons rfl (.cons rfl (.cons rfl (.cons rfl .nil))))))), fun w1 h => h⟩
          refine GA.via (fun fr' H' => ∃ adr cpr Hs, Own 51 3 (.slice adr 1 cpr) 1 ([r].flatMap RB.cells) Hs ∧ Sub [(56, .slice adr 1 cpr), (61, S r.p), (1, .slice ad vs.length cp), (2, Pt b2 0), (58, S r.m), (60, S r.p), (62, .slice ad vs.length cp)] fr' ∧ (∀ w1, HF w (fun _ => False) H' w1 → HF w (fun _ => False) ((Hs ++ [⟨b2, true, .row r.cells 23 (0, 0)⟩])) w1)) #[true, true, true, true, true, true, true, true, true, false, false, false, false] 4 ?_ (fun finA3 => ?_)
          · rintro fr' H' ⟨adr, cpr, Hs, hownr, hs9, hH⟩
            refine GA.weak hs9 ?_
            clear hs9
            refine GA.turn hH ?_
            refine GA.two 9 11 rfl rfl (by kernel_rfl) ?_ ?_
            · refine GB.callW (xs := [.tmp 61, .tmp 62]) (vs := [S r.p, .slice ad vs.length cp]) (fun v H2 => v = S (rv false r.p vs) ∧ H2 = (Hs ++ [⟨b2, true, .row r.cells 23 (0, 0)⟩])) Tryd.call20 rfl rfl (fun v H2 ⟨_, h2⟩ w1 hw1 => hSb _ w1 hw1 (by rw [h2]; simp)) (fun w1 hw1 => ?_) ?_
              · refine (f20_any w1 r.p ad cp vs (fun j x hj => by obtain ⟨b, o, h1, h2⟩ := hx j x hj; exact ⟨b, o, h1, hw1.cellOld h2 id⟩) (by have := hR.pl; omega) (fun x h => by have := (hall x h).2.1; omega) (by omega) hcp).mono fun e w' ⟨h1, h2⟩ => ⟨_, _, h1, hw1.after0 h2 (fun e he => by cases he), rfl, rfl⟩
              rintro v H2 ⟨rfl, rfl⟩
              exact finA4 _ _ _ (by kernel_rfl) ⟨adr, cpr, Hs, hownr, .cons rfl (.cons rfl (.cons rfl (.cons rfl (.cons rfl (.cons rfl (.cons rfl .nil)))))), fun w1 h => h⟩
            · refine GB.al Tryd.zeroValue33 rfl (fun w1 hw1 => hSb _ w1 hw1 (by simp)) rfl (fun b7 => ?_)
              exact finB3 _ _ _ (by kernel_rfl) ⟨b7, adr, cpr, Hs, hownr, .cons rfl (.cons rfl (.cons rfl (.cons rfl (.cons rfl (.cons rfl (.cons rfl (.cons rfl .nil))))))), fun w1 h => h⟩
          refine GA.via (fun fr' H' => ∃ b7, ∃ adr cpr Hs, Own 51 3 (.slice adr 1 cpr) 1 ([r].flatMap RB.cells) Hs ∧ Sub [(7, Pt b7 0), (56, .slice adr 1 cpr), (1, .slice ad vs.length cp), (2, Pt b2 0), (58, S r.m), (60, S r.p), (62, .slice ad vs.length cp)] fr' ∧ (∀ w1, HF w (fun _ => False) H' w1 → HF w (fun _ => False) (⟨b7, true, .row [I 0, S [], .slice none 0 0, .slice none 0 0, S []] 33 (0, 0)⟩ :: (Hs ++ [⟨b2, true, .row r.cells 23 (0, 0)⟩])) w1)) #[true, true, true, true, true, true, true, false, true, false, false, true, false] 4 ?_ (fun finB2 => ?_)
          · rintro fr' H' ⟨b7, adr, cpr, Hs, hownr, hs9, hH⟩
            refine GA.weak hs9 ?_
            clear hs9
            refine GA.turn hH ?_
            refine GA.one 7 rfl (by kernel_rfl) ?_
            refine GB.callW (xs := [.tmp 60]) (vs := [S r.p]) (fun v H2 => v = S r.p ∧ H2 = ⟨b7, true, .row [I 0, S [], .slice none 0 0, .slice none 0 0, S []] 33 (0, 0)⟩ :: (Hs ++ [⟨b2, true, .row r.cells 23 (0, 0)⟩])) Tryd.call21 rfl rfl (fun v H2 ⟨_, h2⟩ w1 hw1 => hSb _ w1 hw1 (by rw [h2]; simp)) (fun w1 hw1 => ?_) ?_
            · refine (f21_any w1 r.p (by have := hR.pl; omega)).mono fun e w' ⟨h1, h2⟩ => ⟨_, _, h1, hw1.after0 h2 (fun e he => by cases he), by rw [heP], rfl⟩
            rintro v H2 ⟨rfl, rfl⟩
            exact finB3 _ _ _ (by kernel_rfl) ⟨b7, adr, cpr, Hs, hownr, .cons rfl (.cons rfl (.cons rfl (.cons rfl (.cons rfl (.cons rfl (.cons rfl (.cons rfl .nil))))))), fun w1 h => h⟩
          refine GA.via (fun fr' H' => ∃ adr cpr Hs, Own 51 3 (.slice adr 1 cpr) 1 ([r].flatMap RB.cells) Hs ∧ Sub [(56, .slice adr 1 cpr), (1, .slice ad vs.length cp), (2, Pt b2 0), (58, S r.m), (60, S r.p), (62, .slice ad vs.length cp)] fr' ∧ (∀ w1, HF w (fun _ => False) H' w1 → HF w (fun _ => False) ((Hs ++ [⟨b2, true, .row r.cells 23 (0, 0)⟩])) w1)) #[true, true, true, true, true, true, true, false, true, false, false, false, false] 5 ?_ (fun finA2 => ?_)
          · rintro fr' H' ⟨adr, cpr, Hs, hownr, hs9, hH⟩
            refine GA.weak hs9 ?_
            clear hs9
            refine GA.turn hH ?_
            refine GA.two 7 11 rfl rfl (by kernel_rfl) ?_ ?_
            · refine GB.callW (xs := [.tmp 60]) (vs := [S r.p]) (fun v H2 => v = S r.p ∧ H2 = (Hs ++ [⟨b2, true, .row r.cells 23 (0, 0)⟩])) Tryd.call21 rfl rfl (fun v H2 ⟨_, h2⟩ w1 hw1 => hSb _ w1 hw1 (by rw [h2]; simp)) (fun w1 hw1 => ?_) ?_
              · refine (f21_any w1 r.p (by have := hR.pl; omega)).mono fun e w' ⟨h1, h2⟩ => ⟨_, _, h1, hw1.after0 h2 (fun e he => by cases he), by rw [heP], rfl⟩
              rintro v H2 ⟨rfl, rfl⟩
              exact finA3 _ _ _ (by kernel_rfl) ⟨adr, cpr, Hs, hownr, .cons rfl (.cons rfl (.cons rfl (.cons rfl (.cons rfl (.cons rfl (.cons rfl .nil)))))), fun w1 h => h⟩
            · refine GB.al Tryd.zeroValue33 rfl (fun w1 hw1 => hSb _ w1 hw1 (by simp)) rfl (fun b7 => ?_)
              exact finB2 _ _ _ (by kernel_rfl) ⟨b7, adr, cpr, Hs, hownr, .cons rfl (.cons rfl (.cons rfl (.cons rfl (.cons rfl (.cons rfl (.cons rfl .nil)))))), fun w1 h => h⟩
          refine GA.via (fun fr' H' => ∃ b7, ∃ tb, Sub [(7, Pt b7 0), (55, .slice (some ⟨tb, 0, none⟩) 1 1), (1, .slice ad vs.length cp), (2, Pt b2 0), (58, S r.m), (60, S r.p), (62, .slice ad vs.length cp)] fr' ∧ (∀ w1, HF w (fun _ => False) H' w1 → HF w (fun _ => False) (⟨b7, true, .row [I 0, S [], .slice none 0 0, .slice none 0 0, S []] 33 (0, 0)⟩ :: [⟨tb, true, .row r.cells 23 (0, 0)⟩, ⟨b2, true, .row r.cells 23 (0, 0)⟩]) w1)) #[true, true, false, true, true, true, true, false, true, false, false, true, false] 5 ?_ (fun finB1 => ?_)
          · rintro fr' H' ⟨b7, tb, hs9, hH⟩
            refine GA.weak hs9 ?_
            clear hs9
            refine GA.turn hH ?_
            refine GA.one 2 rfl (by kernel_rfl) ?_
            refine GB.callW (xs := [.tmp 55]) (vs := [.slice (some ⟨tb, 0, none⟩) [r].length 1]) (fun v H2 => ∃ Hs, Own 51 3 v [r].length ([r].flatMap RB.cells) Hs ∧ H2 = Hs ++ (⟨b7, true, .row [I 0, S [], .slice none 0 0, .slice none 0 0, S []] 33 (0, 0)⟩ :: [⟨tb, true, .row r.cells 23 (0, 0)⟩, ⟨b2, true, .row r.cells 23 (0, 0)⟩])) Tryd.call19 rfl rfl (fun v H2 ⟨Hs, _, h2⟩ w1 hw1 => hSb _ w1 hw1 (by rw [h2]; simp)) (fun w1 hw1 => ?_) ?_
            · refine (f19_any w1 (some ⟨tb, 0, none⟩) 1 [r] (rts_row (sp := []) (wf := true) (t := 23) (fz := (0, 0)) hw1 (by rw [List.append_nil]; simp)) (by simp)).mono fun e w' ⟨v, Hs, h1, h2, h3⟩ => ⟨v, _, h1, hw1.after0 h3 h2.w, Hs, h2, rfl⟩
            rintro v H2 ⟨Hs, hownr, rfl⟩
            obtain ⟨adr, cpr, rfl⟩ := hownr.slice
            exact finB2 _ _ _ (by kernel_rfl) ⟨b7, adr, cpr, Hs, hownr, .cons rfl (.cons rfl (.cons rfl (.cons rfl (.cons rfl (.cons rfl (.cons rfl .nil)))))), fun w1 h => (h.sub (List.Sublist.append (List.Sublist.refl Hs) ((List.sublist_cons_self _ _).cons_cons _))).perm List.perm_middle⟩
          refine GA.via (fun fr' H' => ∃ tb, Sub [(55, .slice (some ⟨tb, 0, none⟩) 1 1), (1, .slice ad vs.length cp), (2, Pt b2 0), (58, S r.m), (60, S r.p), (62, .slice ad vs.length cp)] fr' ∧ (∀ w1, HF w (fun _ => False) H' w1 → HF w (fun _ => False) ([⟨tb, true, .row r.cells 23 (0, 0)⟩, ⟨b2, true, .row r.cells 23 (0, 0)⟩]) w1)) #[true, true, false, true, true, true, true, false, true, false, false, false, false] 6 ?_ (fun finA1 => ?_)
          · rintro fr' H' ⟨tb, hs9, hH⟩
            refine GA.weak hs9 ?_
            clear hs9
            refine GA.turn hH ?_
            refine GA.two 2 11 rfl rfl (by kernel_rfl) ?_ ?_
            · refine GB.callW (xs := [.tmp 55]) (vs := [.slice (some ⟨tb, 0, none⟩) [r].length 1]) (fun v H2 => ∃ Hs, Own 51 3 v [r].length ([r].flatMap RB.cells) Hs ∧ H2 = Hs ++ ([⟨tb, true, .row r.cells 23 (0, 0)⟩, ⟨b2, true, .row r.cells 23 (0, 0)⟩])) Tryd.call19 rfl rfl (fun v H2 ⟨Hs, _, h2⟩ w1 hw1 => hSb _ w1 hw1 (by rw [h2]; simp)) (fun w1 hw1 => ?_) ?_
              · refine (f19_any w1 (some ⟨tb, 0, none⟩) 1 [r] (rts_row (sp := []) (wf := true) (t := 23) (fz := (0, 0)) hw1 (by rw [List.append_nil]; simp)) (by simp)).mono fun e w' ⟨v, Hs, h1, h2, h3⟩ => ⟨v, _, h1, hw1.after0 h3 h2.w, Hs, h2, rfl⟩
              rintro v H2 ⟨Hs, hownr, rfl⟩
              obtain ⟨adr, cpr, rfl⟩ := hownr.slice
              exact finA2 _ _ _ (by kernel_rfl) ⟨adr, cpr, Hs, hownr, .cons rfl (.cons rfl (.cons rfl (.cons rfl (.cons rfl (.cons rfl .nil))))), fun w1 h => h.sub (List.Sublist.append (List.Sublist.refl Hs) (List.sublist_cons_self _ _))⟩
            · refine GB.al Tryd.zeroValue33 rfl (fun w1 hw1 => hSb _ w1 hw1 (by simp)) rfl (fun b7 => ?_)
              exact finB1 _ _ _ (by kernel_rfl) ⟨b7, tb, .cons rfl (.cons rfl (.cons rfl (.cons rfl (.cons rfl (.cons rfl (.cons rfl .nil)))))), fun w1 h => h⟩
          refine GA.via (fun fr' H' => ∃ b7, Sub [(7, Pt b7 0), (54, .agg r.cells.toArray), (1, .slice ad vs.length cp), (2, Pt b2 0), (58, S r.m), (60, S r.p), (62, .slice ad vs.length cp)] fr' ∧ (∀ w1, HF w (fun _ => False) H' w1 → HF w (fun _ => False) (⟨b7, true, .row [I 0, S [], .slice none 0 0, .slice none 0 0, S []] 33 (0, 0)⟩ :: [⟨b2, true, .row r.cells 23 (0, 0)⟩]) w1)) #[true, false, false, true, true, true, true, false, true, false, false, true, false] 6 ?_ (fun finB0 => ?_)
          · rintro fr' H' ⟨b7, hs9, hH⟩
            refine GA.weak hs9 ?_
            clear hs9
            refine GA.turn hH ?_
            refine GA.one 1 rfl (by kernel_rfl) ?_
            refine GB.bs (BS.three (a := S r.m) (b := S r.p) (c := S r.nm) Tryd.underlying28 Tryd.sizeOf23 Tryd.zeroValue23) rfl (fun w1 hw1 => hSb _ w1 hw1 (by simp)) rfl (fun tb => ?_)
            exact finB1 _ _ _ (by kernel_rfl) ⟨b7, tb, .cons rfl (.cons rfl (.cons rfl (.cons rfl (.cons rfl (.cons rfl (.cons rfl .nil)))))), fun w1 h => h.perm (.swap _ _ _)⟩
          refine GA.via (fun fr' H' => Sub [(54, .agg r.cells.toArray), (1, .slice ad vs.length cp), (2, Pt b2 0), (58, S r.m), (60, S r.p), (62, .slice ad vs.length cp)] fr' ∧ (∀ w1, HF w (fun _ => False) H' w1 → HF w (fun _ => False) ([⟨b2, true, .row r.cells 23 (0, 0)⟩]) w1)) #[true, false, false, true, true, true, true, false, true, false, false, false, false] 7 ?_ (fun finA0 => ?_)
          · rintro fr' H' ⟨hs9, hH⟩
            refine GA.weak hs9 ?_
            clear hs9
            refine GA.turn hH ?_
            refine GA.two 1 11 rfl rfl (by kernel_rfl) ?_ ?_
            · refine GB.bs (BS.three (a := S r.m) (b := S r.p) (c := S r.nm) Tryd.underlying28 Tryd.sizeOf23 Tryd.zeroValue23) rfl (fun w1 hw1 => hSb _ w1 hw1 (by simp)) rfl (fun tb => ?_)
              exact finA1 _ _ _ (by kernel_rfl) ⟨tb, .cons rfl (.cons rfl (.cons rfl (.cons rfl (.cons rfl (.cons rfl .nil))))), fun w1 h => h⟩
            · refine GB.al Tryd.zeroValue33 rfl (fun w1 hw1 => hSb _ w1 hw1 (by simp)) rfl (fun b7 => ?_)
              exact finB0 _ _ _ (by kernel_rfl) ⟨b7, .cons rfl (.cons rfl (.cons rfl (.cons rfl (.cons rfl (.cons rfl (.cons rfl .nil)))))), fun w1 h => h⟩
          exact finA0 _ _ _ (by kernel_rfl) ⟨.cons rfl (.cons rfl (.cons rfl (.cons rfl (.cons rfl (.cons rfl .nil))))), fun w1 h => h⟩
        rintro fr' H' ⟨b7, adn, cpn, adv0, cpv, Hv, hownv, hs11, hH11⟩
        refine GC.weak hs11 ?_
        clear hs11
        refine GC.turn hH11 ?_
        refine GC.seq ?_
        refine GC.reg ?_  -- region 12, echo.go:175
        refine G.callP Tryd.call16 rfl rfl (fun w1 hw1 => f16_any w1) ?_
        refine G.v (V.mv rfl) rfl ?_
        refine G.bc 66 rfl (fun h66 => ?_) (fun h66 => ?_)
        · refine G.vg rfl rfl (V.fa F33_0 rfl) rfl ?_
          refine G.vg rfl rfl (V.ld Tryd.isAgg3 rfl (.head _) rfl) rfl ?_
          refine G.vg rfl rfl (V.eqI rfl rfl) rfl ?_
          refine G.v (V.pickT rfl rfl) rfl ?_
          refine G.v (V.mv rfl) rfl ?_
          refine G.bc 71 rfl (fun h71 => ?_) (fun h71 => ?_)
          · refine G.vg rfl rfl (V.fa F33_3 rfl) rfl ?_
            refine G.vg rfl rfl (V.ld Tryd.isAgg24 rfl (.head _) rfl) rfl ?_
            refine G.vg rfl rfl (V.mv rfl) rfl ?_
            refine G.gd rfl rfl ?_
            refine G.callP Tryd.call22 rfl rfl (fun w1 hw1 => f22_any w1 _ _ _ _ vs vs (hownv.tx fun e he => hw1.has e (.tail _ he)) (fun j x hj => by obtain ⟨b, o, h1, h2⟩ := hx j x hj; exact ⟨b, o, h1, hw1.cellOld h2 id⟩) (by omega) (by omega)) ?_
            refine G.v (V.pickT rfl rfl) rfl ?_
            refine G.v (V.asg rfl) rfl ?_
            refine G.nil ?_
            exact GC.ret1 rfl rfl fun w' hw' => ⟨by simp, hw'.sub (List.nil_sublist _)⟩
          · exact absurd h71 (by decide)
        · exact absurd h66 (by decide)
end Go.Proofs

/- A law's card out of its walk: FnEchoAlone. -/
set_option maxRecDepth 100000
namespace Go.Proofs.YtekclaobeccbdaaDoor
open Go Bw Go.ChangeShapes Go.WideShapes Go.ChangeAt Go.RowKit

theorem gErr : Tryd.prog.globalNamed "bytes.ErrTooLarge" = some 1 := by kernel_rfl
/-- what bytes.ErrTooLarge is laid as -/
abbrev tooS : ByteArray := { data := #[98, 121, 116, 101, 115, 46, 66, 117, 102, 102, 101, 114, 58, 32, 116, 111, 111, 32, 108, 97, 114, 103, 101] }
noncomputable def low : Nat := (World.holding Tryd.prog default ⟨#[], #[], []⟩).heap.size
noncomputable def laidWorld (os : Os) : World :=
  let w0 := World.holding Tryd.prog os ⟨#[.cells #[.string tooS] 217], #[], []⟩
  { w0 with heap := w0.heap.modify 1 fun
      | .cells _ t frozen => .cells #[.iface 200 (.pointer (some ⟨low, 0, none⟩))] t frozen
      | o => o }

namespace alone
theorem params : Tryd.f3.params.toList = [23, 24] := rfl
theorem contract (H : Type) (enc : TypeId × Value → H) (W : World) (base : Nat) (args : Array Value) (ds gs : List (DataW H)) (before : List MemPlace)
    (hval : ∀ (j : Nat) t v, Tryd.f3.params[j]? = some t → args[j]? = some v → Value.okWide Tryd.prog W .any base t v)
    (hW : DataW.Whole enc Tryd.prog Tryd.f3.params.toList Rows.fnEchoAloneSpec.vars false W args.toList ds gs before) :
    Calls Tryd.prog 3 args W fun e W' => ∃ v, e = .returned v ∧ Rows.fnEchoAloneSpec.post enc Tryd.prog Tryd.f3 false true false false W args v W' := by
  have hW' := hW
  obtain ⟨p, q, hA0, hV, rfl, hfz, hnd⟩ := hW
  have hA : DataW.TrodAll enc Tryd.prog W 0 (fun _ => true) true [23, 24] args.toList ds p := hA0
  obtain ⟨v0, vs0, d0, ds0, p0, q0, hargs, rfl, rfl, h0, r0⟩ := trodAll_cons hA
  obtain ⟨v1, vs1, d1, ds1, p1, q1, rfl, rfl, rfl, h1, r1⟩ := trodAll_cons r0
  obtain ⟨rfl, rfl, rfl⟩ := trodAll_nil r1
  obtain rfl : args = #[v0, v1] := by cases args; simp_all
  obtain ⟨r, rfl⟩ := open_rb Tryd.underlying23 (by kernel_rfl) tryd_c23 Tryd.underlying9 (hval 0 23 v0 rfl rfl)
  obtain ⟨ad, cp, vs, rfl, hcp, htx⟩ := open_txt Tryd.underlying24 Tryd.underlying9 tryd_c9 (hval 1 24 v1 rfl rfl) h1
  refine (f3_any W r ad cp vs htx hcp).mono fun e W' ⟨he, hf⟩ => ⟨_, he, ?_⟩
  refine post_law hW' rfl rfl ?_ (by kernel_rfl) (below_of hf)
  obtain ⟨rfl, rfl⟩ := trodVars_none hV
  rfl

theorem laid_met (os : Os) : laidMet Tryd.prog Rows.fnEchoAloneRow.laid ((laidWorld os).forCall (fun _ _ => 0) ⟨#[], #[.agg #[.string ⟨#[]⟩, .string ⟨#[]⟩, .string ⟨#[]⟩], .slice none 0 0], []⟩).memory :=
  laidMet_of_run (ps := [.cell 1 0, .cell low 0]) 8 (by kernel_rfl) (by kernel_rfl) (by kernel_rfl)
theorem reads (os : Os) {H : Type} (enc : TypeId × Value → H) : ∃ places, DataW.whole enc Tryd.prog ((laidWorld os).forCall (fun _ _ => 0) ⟨#[], #[.agg #[.string ⟨#[]⟩, .string ⟨#[]⟩, .string ⟨#[]⟩], .slice none 0 0], []⟩).memory Tryd.f3.params.toList Rows.fnEchoAloneSpec.vars false #[Value.agg #[.string ⟨#[]⟩, .string ⟨#[]⟩, .string ⟨#[]⟩], .slice none 0 0].toList 8 = some ([.agg [.lit (.string []), .lit (.string []), .lit (.string [])], .nil], [], places) :=
  ⟨[], by kernel_rfl⟩

set_option maxRecDepth 100000 in
theorem lifted (os : Os) (started : os.Started) (H : Type) (enc : TypeId × Value → H) (F : Stop.Interp) :
    ReturnsInHanded {} Tryd.checked os 3 .any ((OpenSpec.ofChange Rows.fnEchoAloneSpec).preRow enc Tryd.prog Tryd.f3 Rows.fnEchoAloneRow.domain false Rows.fnEchoAloneRow.laid) (((OpenSpec.ofChange Rows.fnEchoAloneSpec).at F).post enc Tryd.prog Tryd.f3 false true false false) := by
  obtain ⟨places, hx⟩ := reads os enc
  refine returnsInHanded_of_row (C := Tryd.checked) (s := OpenSpec.ofChange Rows.fnEchoAloneSpec) tryd_own started (by kernel_rfl) Tryd.func3
    (witness_row_at (enc := enc) (C := Tryd.checked) false (laidWorld os) #[.agg #[.string ⟨#[]⟩, .string ⟨#[]⟩, .string ⟨#[]⟩], .slice none 0 0] rfl (by kernel_rfl) (by kernel_rfl) (by kernel_rfl)
      (OpenSpec.preRow_of_cond 8 hx (by kernel_rfl) (fun k hk => by cases hk) (by kernel_rfl) (laid_met os))) ?_
  intro W base args ds gs before hval hW _ _ _ hL _ _
  exact contract H enc W base args ds gs before hval hW

theorem said : Rows.FnEchoAloneSaid :=
  OpenClaim.holds_of_cond 3 Tryd.f3 rfl rfl rfl rfl rfl rfl rfl ⟨rfl, rfl, rfl, rfl, rfl⟩ rfl rfl rfl rfl rfl (by kernel_rfl) Tryd.func3 (by kernel_rfl)
    (of_decide_eq_true (by kernel_rfl)) (by unfold Func.isWrapper; first | (rw [if_pos (by decide +kernel)]; kernel_rfl) | (rw [if_neg (by decide +kernel)]; exact ⟨rfl, rfl⟩))
    (fun os started H enc _ F => by rw [OpenClaim.pre_eq_preRow]; exact lifted os started H enc F)

theorem plain (f : FuncId) (fn : Func) (hf : Tryd.pinned.checked.prog.funcNamed "pub-bridleway/laws.FnEchoAlone" = some f) (hfn : Tryd.pinned.checked.prog.funcs[f]? = some fn) :
    false = Tryd.pinned.checked.prog.looks [] ∧ ∀ (j : Nat) t, fn.params[j]? = some t → Tryd.pinned.checked.prog.wantsStandIn t = false := by
  obtain rfl : f = 3 := Option.some.inj ((show Tryd.prog.funcNamed "pub-bridleway/laws.FnEchoAlone" = some 3 by kernel_rfl).symm.trans hf) |>.symm
  obtain rfl : fn = Tryd.f3 := (Option.some.inj (Tryd.func3.symm.trans hfn)).symm
  refine ⟨by kernel_rfl, fun j t ht => ?_⟩
  have hm : t ∈ [23, 24] := by have := Array.mem_of_getElem? ht; simpa [Tryd.params3] using this
  simp only [List.mem_cons, List.not_mem_nil, or_false] at hm
  rcases hm with rfl | rfl
  · exact (show Tryd.prog.wantsStandIn 23 = false by kernel_rfl)
  · exact (show Tryd.prog.wantsStandIn 24 = false by kernel_rfl)

theorem card : Rows.FnEchoAloneCardSaid :=
  Claim7.holds_tied_plain_at .later [] _ _ _ _ said (fun _ h => by cases h) (by kernel_rfl) (fun _ h => by cases h) fnEchoAlone_row_tie rfl ⟨rfl, rfl⟩ (by kernel_rfl) rfl plain (by kernel_rfl)
end alone
end Go.Proofs.YtekclaobeccbdaaDoor
