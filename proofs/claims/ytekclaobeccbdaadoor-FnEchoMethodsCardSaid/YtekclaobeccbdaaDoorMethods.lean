/- The law FnEchoMethods holds for every input: what is told of the methods of a path without parameters. -/
import Derived.Test.YtekclaobeccbdaaDoorBm
import Derived.Test.YtekclaobeccbdaaDoorBo
import Derived.Test.YtekclaobeccbdaaDoorBk
/- FnEchoMethods. Printed by wip/mk_i9.py. -/
namespace Go.Proofs
open Go Bw
set_option maxRecDepth 20000

theorem eqI_true {P : Program} {c : Cx} {n : Nat} {op : Op} {ty : TypeId} {fr : SF} {H : SH} {i j : Int} (h : i = j) (hv : Val P c n op ty fr H (.bool (decide (i = j)))) : Val P c n op ty fr H (.bool true) := by rw [decide_eq_true h] at hv; exact hv
theorem msT_snoc (path : List UInt8) (l : List RB) (r : RB) : msT path (l ++ [r]) = msT path l ++ (if r.p = path ∧ r.m ≠ optNm then [r.m] else []) := by
  unfold msT
  rw [List.filter_append, List.map_append]
  congr 1
  by_cases h : r.p = path ∧ r.m ≠ optNm
  · simp [List.filter, h]
  · simp only [List.filter, decide_eq_false h, if_neg h]; rfl
theorem msT_len (path : List UInt8) (l : List RB) : (msT path l).length ≤ l.length := by
  unfold msT
  rw [List.length_map]
  exact List.length_filter_le _ _

theorem f9_any (w : World) (ad : Option Addr) (cp : Nat) (Rs : List RB) (meth path : List UInt8) (hat : RtsAt w ad Rs) : Calls Tryd.prog 9 #[.slice ad Rs.length cp, S meth, S path] w fun e w' => e = .returned (.bool true) ∧ HF w (fun _ => False) [] w' := by
  refine enter (fun _ => False) [] Tryd.func9 rfl Tryd.ntmps9 rfl rfl (HF.start w _) fun c hc => ?_
  subst hc
  refine GC.seq ?_
  refine GC.reg ?_  -- region 0, echo.go:75
  refine G.v (V.asg rfl) rfl ?_
  refine G.nil ?_
  refine GC.seq ?_
  refine GC.seq ?_
  refine GC.reg ?_  -- region 1, echo.go:76
  refine G.v (V.mv rfl) rfl ?_
  refine G.callP Tryd.call23 rfl rfl (fun w1 hw1 => f23_any w1 ad cp Rs (fun i r hr => by obtain ⟨b, o, h1, h2⟩ := hat i r hr; exact ⟨b, o, h1, fun j v hj => hw1.cellOld (h2 j v hj) id⟩)) ?_
  refine G.v (V.not rfl) rfl ?_
  refine G.v (V.mv rfl) rfl ?_
  refine G.bc 15 rfl (fun h15 => ?_) (fun h15 => ?_)
  · refine G.sg rfl rfl rfl rfl rfl rfl ?_
    refine G.sg rfl rfl rfl rfl rfl rfl ?_
    refine G.sg rfl rfl rfl rfl rfl rfl ?_
    refine G.v (V.pickT rfl rfl) rfl ?_
    refine G.v (V.mv rfl) rfl ?_
    refine G.sg rfl rfl rfl rfl rfl rfl ?_
    refine G.sg rfl rfl rfl rfl rfl rfl ?_
    refine G.sg rfl rfl rfl rfl rfl rfl ?_
    refine G.v (V.pickT rfl rfl) rfl ?_
    refine G.nil ?_
    refine GC.condT rfl ?_
    refine GC.seq ?_
    refine GC.reg ?_  -- region 2, echo.go:77
    refine G.v (V.asg rfl) rfl ?_
    refine G.nil ?_
    exact GC.ret1 rfl rfl fun w' hw' => ⟨rfl, hw'.sub (List.nil_sublist _)⟩
  · refine G.vg rfl rfl (V.mv rfl) rfl ?_
    refine G.vg rfl rfl (V.lenS Tryd.underlying9 rfl) rfl ?_
    refine G.vg rfl rfl (V.gt rfl rfl) rfl ?_
    refine G.v (V.pickF rfl rfl) rfl ?_
    refine G.v (V.mv rfl) rfl ?_
    refine G.bc 20 rfl (fun h20 => ?_) (fun h20 => ?_)
    · refine G.sg rfl rfl rfl rfl rfl rfl ?_
      refine G.sg rfl rfl rfl rfl rfl rfl ?_
      refine G.sg rfl rfl rfl rfl rfl rfl ?_
      refine G.v (V.pickT rfl rfl) rfl ?_
      refine G.nil ?_
      refine GC.condT rfl ?_
      refine GC.seq ?_
      refine GC.reg ?_  -- region 2, echo.go:77
      refine G.v (V.asg rfl) rfl ?_
      refine G.nil ?_
      exact GC.ret1 rfl rfl fun w' hw' => ⟨rfl, hw'.sub (List.nil_sublist _)⟩
    · refine G.vg rfl rfl (V.mv rfl) rfl ?_
      refine G.vg rfl rfl (V.lenS Tryd.underlying9 rfl) rfl ?_
      refine G.vg rfl rfl (V.gt rfl rfl) rfl ?_
      refine G.v (V.pickF rfl rfl) rfl ?_
      refine G.nil ?_
      refine GC.cond rfl (fun h24 => ?_) (fun h24 => ?_)
      · refine GC.seq ?_
        refine GC.reg ?_  -- region 2, echo.go:77
        refine G.v (V.asg rfl) rfl ?_
        refine G.nil ?_
        exact GC.ret1 rfl rfl fun w' hw' => ⟨rfl, hw'.sub (List.nil_sublist _)⟩
      refine GC.skip ?_
      refine GC.seq ?_
      refine GC.seq ?_
      refine GC.reg ?_  -- region 3, echo.go:79
      refine G.v (V.mv rfl) rfl ?_
      refine G.callW (fun v H2 => ∃ b : Bool, (b = true ↔ Right Rs) ∧ v = .bool b ∧ H2 = []) Tryd.call14 rfl rfl (fun w1 hw1 => ?_) ?_
      · refine (f14_any w1 ad cp Rs (fun i r hr => by obtain ⟨b, o, h1, h2⟩ := hat i r hr; exact ⟨b, o, h1, fun j v hj => hw1.cellOld (h2 j v hj) id⟩)).mono fun e w' ⟨b, h1, h2, h3⟩ => ⟨_, _, h2, ?_, b, h1, rfl, rfl⟩
        exact hw1.after0 h3 (fun e he => by cases he)
      rintro v H2 ⟨br, hbr, rfl, rfl⟩
      refine G.v (V.not rfl) rfl ?_
      refine G.v (V.mv rfl) rfl ?_
      refine G.bc 28 rfl (fun h28 => ?_) (fun h28 => ?_)
      · refine G.sg rfl rfl rfl rfl rfl rfl ?_
        refine G.sg rfl rfl rfl rfl rfl rfl ?_
        refine G.sg rfl rfl rfl rfl rfl rfl ?_
        refine G.v (V.pickT rfl rfl) rfl ?_
        refine G.v (V.mv rfl) rfl ?_
        refine G.sg rfl rfl rfl rfl rfl rfl ?_
        refine G.sg rfl rfl rfl rfl rfl rfl ?_
        refine G.sg rfl rfl rfl rfl rfl rfl ?_
        refine G.v (V.pickT rfl rfl) rfl ?_
        refine G.v (V.mv rfl) rfl ?_
        refine G.sg rfl rfl rfl rfl rfl rfl ?_
        refine G.sg rfl rfl rfl rfl rfl rfl ?_
        refine G.sg rfl rfl rfl rfl rfl rfl ?_
        refine G.v (V.pickT rfl rfl) rfl ?_
        refine G.v (V.mv rfl) rfl ?_
        refine G.sg rfl rfl rfl rfl rfl rfl ?_
        refine G.sg rfl rfl rfl rfl rfl rfl ?_
        refine G.v (V.pickT rfl rfl) rfl ?_
        refine G.v (V.mv rfl) rfl ?_
        refine G.sg rfl rfl rfl rfl rfl rfl ?_
        refine G.sg rfl rfl rfl rfl rfl rfl ?_
        refine G.v (V.pickT rfl rfl) rfl ?_
        refine G.nil ?_
        refine GC.condT rfl ?_
        refine GC.seq ?_
        refine GC.reg ?_  -- region 4, echo.go:80
        refine G.callP Tryd.call16 rfl rfl (fun w1 hw1 => f16_any w1) ?_
        refine G.v (V.asg rfl) rfl ?_
        refine G.nil ?_
        exact GC.ret1 rfl rfl fun w' hw' => ⟨rfl, hw'.sub (List.nil_sublist _)⟩
      · refine G.vg rfl rfl (V.mv rfl) rfl ?_
        have hRt : Right Rs := hbr.1 (by simpa using h28)
        refine G.gd rfl rfl ?_
        refine G.callW (fun v H2 => ∃ b : Bool, (b = true ↔ (Rs.map ekey).Nodup) ∧ v = .bool b ∧ H2 = []) Tryd.call25 rfl rfl (fun w1 hw1 => ?_) ?_
        · refine (f25_any w1 ad cp Rs (fun i r hr => by obtain ⟨b, o, h1, h2⟩ := hat i r hr; exact ⟨b, o, h1, fun j v hj => hw1.cellOld (h2 j v hj) id⟩) (by have := hRt.1; omega) (fun x hx => ⟨by have := (hRt.2 x hx).ml; omega, by have := (hRt.2 x hx).pl; omega⟩)).mono fun e w' ⟨b, h1, h2, h3⟩ => ⟨_, _, h2, ?_, b, h1, rfl, rfl⟩
          exact hw1.after0 h3 (fun e he => by cases he)
        rintro v H2 ⟨ba, hba, rfl, rfl⟩
        refine G.vg rfl rfl (V.not rfl) rfl ?_
        refine G.v (V.pickF rfl rfl) rfl ?_
        refine G.v (V.mv rfl) rfl ?_
        refine G.bc 33 rfl (fun h33 => ?_) (fun h33 => ?_)
        · refine G.sg rfl rfl rfl rfl rfl rfl ?_
          refine G.sg rfl rfl rfl rfl rfl rfl ?_
          refine G.sg rfl rfl rfl rfl rfl rfl ?_
          refine G.v (V.pickT rfl rfl) rfl ?_
          refine G.v (V.mv rfl) rfl ?_
          refine G.sg rfl rfl rfl rfl rfl rfl ?_
          refine G.sg rfl rfl rfl rfl rfl rfl ?_
          refine G.sg rfl rfl rfl rfl rfl rfl ?_
          refine G.v (V.pickT rfl rfl) rfl ?_
          refine G.v (V.mv rfl) rfl ?_
          refine G.sg rfl rfl rfl rfl rfl rfl ?_
          refine G.sg rfl rfl rfl rfl rfl rfl ?_
          refine G.v (V.pickT rfl rfl) rfl ?_
          refine G.v (V.mv rfl) rfl ?_
          refine G.sg rfl rfl rfl rfl rfl rfl ?_
          refine G.sg rfl rfl rfl rfl rfl rfl ?_
          refine G.v (V.pickT rfl rfl) rfl ?_
          refine G.nil ?_
          refine GC.condT rfl ?_
          refine GC.seq ?_
          refine GC.reg ?_  -- region 4, echo.go:80
          refine G.callP Tryd.call16 rfl rfl (fun w1 hw1 => f16_any w1) ?_
          refine G.v (V.asg rfl) rfl ?_
          refine G.nil ?_
          exact GC.ret1 rfl rfl fun w' hw' => ⟨rfl, hw'.sub (List.nil_sublist _)⟩
        · refine G.vg rfl rfl (V.mv rfl) rfl ?_
          refine G.vg rfl rfl (V.lenS Tryd.underlying9 rfl) rfl ?_
          refine G.vg rfl rfl (V.gt rfl rfl) rfl ?_
          refine G.v (V.pickF rfl rfl) rfl ?_
          refine G.v (V.mv rfl) rfl ?_
          refine G.bc 38 rfl (fun h38 => ?_) (fun h38 => ?_)
          · refine G.sg rfl rfl rfl rfl rfl rfl ?_
            refine G.sg rfl rfl rfl rfl rfl rfl ?_
            refine G.sg rfl rfl rfl rfl rfl rfl ?_
            refine G.v (V.pickT rfl rfl) rfl ?_
            refine G.v (V.mv rfl) rfl ?_
            refine G.sg rfl rfl rfl rfl rfl rfl ?_
            refine G.sg rfl rfl rfl rfl rfl rfl ?_
            refine G.v (V.pickT rfl rfl) rfl ?_
            refine G.v (V.mv rfl) rfl ?_
            refine G.sg rfl rfl rfl rfl rfl rfl ?_
            refine G.sg rfl rfl rfl rfl rfl rfl ?_
            refine G.v (V.pickT rfl rfl) rfl ?_
            refine G.nil ?_
            refine GC.condT rfl ?_
            refine GC.seq ?_
            refine GC.reg ?_  -- region 4, echo.go:80
            refine G.callP Tryd.call16 rfl rfl (fun w1 hw1 => f16_any w1) ?_
            refine G.v (V.asg rfl) rfl ?_
            refine G.nil ?_
            exact GC.ret1 rfl rfl fun w' hw' => ⟨rfl, hw'.sub (List.nil_sublist _)⟩
          · refine G.vg rfl rfl (V.mv rfl) rfl ?_
            refine G.vg rfl rfl (V.lenS Tryd.underlying9 rfl) rfl ?_
            refine G.vg rfl rfl (V.gt rfl rfl) rfl ?_
            refine G.v (V.pickF rfl rfl) rfl ?_
            refine G.v (V.mv rfl) rfl ?_
            refine G.bc 43 rfl (fun h43 => ?_) (fun h43 => ?_)
            · refine G.sg rfl rfl rfl rfl rfl rfl ?_
              refine G.sg rfl rfl rfl rfl rfl rfl ?_
              refine G.v (V.pickT rfl rfl) rfl ?_
              refine G.v (V.mv rfl) rfl ?_
              refine G.sg rfl rfl rfl rfl rfl rfl ?_
              refine G.sg rfl rfl rfl rfl rfl rfl ?_
              refine G.v (V.pickT rfl rfl) rfl ?_
              refine G.nil ?_
              refine GC.condT rfl ?_
              refine GC.seq ?_
              refine GC.reg ?_  -- region 4, echo.go:80
              refine G.callP Tryd.call16 rfl rfl (fun w1 hw1 => f16_any w1) ?_
              refine G.v (V.asg rfl) rfl ?_
              refine G.nil ?_
              exact GC.ret1 rfl rfl fun w' hw' => ⟨rfl, hw'.sub (List.nil_sublist _)⟩
            · refine G.vg rfl rfl (V.mv rfl) rfl ?_
              refine G.vg rfl rfl (V.eqS rfl rfl) rfl ?_
              refine G.v (V.pickF rfl rfl) rfl ?_
              refine G.v (V.mv rfl) rfl ?_
              refine G.bc 47 rfl (fun h47 => ?_) (fun h47 => ?_)
              · refine G.sg rfl rfl rfl rfl rfl rfl ?_
                refine G.sg rfl rfl rfl rfl rfl rfl ?_
                refine G.v (V.pickT rfl rfl) rfl ?_
                refine G.nil ?_
                refine GC.condT rfl ?_
                refine GC.seq ?_
                refine GC.reg ?_  -- region 4, echo.go:80
                refine G.callP Tryd.call16 rfl rfl (fun w1 hw1 => f16_any w1) ?_
                refine G.v (V.asg rfl) rfl ?_
                refine G.nil ?_
                exact GC.ret1 rfl rfl fun w' hw' => ⟨rfl, hw'.sub (List.nil_sublist _)⟩
              · refine G.vg rfl rfl (V.mv rfl) rfl ?_
                refine G.vg rfl rfl (V.eqS rfl rfl) rfl ?_
                refine G.v (V.pickF rfl rfl) rfl ?_
                refine G.nil ?_
                refine GC.cond rfl (fun h50 => ?_) (fun h50 => ?_)
                · refine GC.seq ?_
                  refine GC.reg ?_  -- region 4, echo.go:80
                  refine G.callP Tryd.call16 rfl rfl (fun w1 hw1 => f16_any w1) ?_
                  refine G.v (V.asg rfl) rfl ?_
                  refine G.nil ?_
                  exact GC.ret1 rfl rfl fun w' hw' => ⟨rfl, hw'.sub (List.nil_sublist _)⟩
                refine GC.skip ?_
                refine GC.seq ?_
                have hlen := hRt.1
                have hnd : (Rs.map ekey).Nodup := hba.1 (by simpa using h33)
                have hpl : path.length ≤ 300 := by have := of_decide_eq_false h38; omega
                have hmnf : meth ≠ nfName := of_decide_eq_false h47
                have hmo : meth ≠ optM := of_decide_eq_false h50
                refine GC.reg ?_  -- region 5, echo.go:82
                refine G.bs (BS.one Tryd.underlying24 Tryd.sizeOf9 Tryd.zeroValue9 (v := S optNm) rfl) rfl rfl (fun tb htb => ?_)
                refine G.turn (H' := [⟨tb, true, .row ([S optNm] ++ []) 9 (0, 0)⟩]) (fun w1 hw1 => by simpa using hw1) ?_
                have hown0 : Own 9 1 (.slice (some ⟨tb, 0, none⟩) 1 1) 1 [S optNm] [⟨tb, true, .row ([S optNm] ++ []) 9 (0, 0)⟩] := .row rfl rfl (Nat.le_refl _)
                refine G.v (V.asg rfl) rfl ?_
                refine G.v (V.asg rfl) rfl ?_
                refine G.nil ?_
                refine GC.seq ?_
                refine GC.seq ?_
                refine GC.reg ?_  -- region 6, echo.go:83
                refine G.v (V.mv rfl) rfl ?_
                refine G.v (V.lenL Tryd.underlying28 rfl) rfl ?_
                refine G.v (V.mv rfl) rfl ?_
                refine G.nil ?_
                refine GC.block ?_
                refine GC.loopJ (fun N fr' H' => ∃ j n sv, j + N = Rs.length ∧ NT (Rs.take j) meth path n ∧ (∀ i r, i < j → Rs[i]? = some r → (prs r.p none).2 = [] ∧ r.m ≠ nfName ∧ (44 : UInt8) ∉ r.m) ∧ Own 9 1 sv (optNm :: msT path (Rs.take j)).length ((optNm :: msT path (Rs.take j)).map S) H' ∧ Sub [(53, .slice ad Rs.length cp), (54, I (Rs.length : Nat)), (55, I ((j : Nat) : Int)), (0, .slice ad Rs.length cp), (1, S meth), (2, S path), (7, I n), (8, sv)] fr') Rs.length
                  ⟨0, -1, _, by omega, .nil _ _, fun i r h => absurd h (Nat.not_lt_zero i), hown0, .cons rfl (.cons rfl (.cons rfl (.cons rfl (.cons rfl (.cons rfl (.cons rfl (.cons rfl .nil)))))))⟩ ?_
                rintro N fr' H' ⟨j, n, sv, hj, hNT, hall, howns, hs⟩ ih
                refine GC.weak hs ?_
                clear hs
                obtain ⟨ad8, cp8, rfl⟩ := howns.slice
                have hnb := hNT.lo (by have := List.length_take_le j Rs; omega)
                refine GC.seq ?_
                refine GC.reg ?_  -- region 7, echo.go:83
                refine G.v (V.lt rfl rfl) rfl ?_
                refine G.nil ?_
                refine GC.seq ?_
                refine GC.condD rfl (fun h56 => ?_) (fun h56 => ?_)
                · refine GC.skip ?_
                  refine GC.seq ?_
                  refine GC.block ?_
                  refine GC.seq ?_
                  have hlt : j < Rs.length := by omega
                  obtain ⟨r, hr⟩ : ∃ r, Rs[j]? = some r := ⟨_, List.getElem?_eq_getElem hlt⟩
                  have hR := hRt.2 r (List.mem_of_getElem? hr)
                  have heP := ePath_of hR.hd
                  have hrpl := hR.pl
                  have hrml := hR.ml
                  have htk : Rs.take (j + 1) = Rs.take j ++ [r] := by rw [List.take_add_one, hr]; rfl
                  have htl : (Rs.take j).length = j := by rw [List.length_take]; omega
                  have hcell : ∃ ab o, ad = some ⟨ab, o, none⟩ ∧ ∀ k v, r.cells[k]? = some v → w.cell? ⟨ab, o + j * 3 + k, none⟩ = some v := hat j r hr
                  obtain ⟨ab, o, rfl, hcell⟩ := hcell
                  refine GC.reg ?_  -- region 8, echo.go:83
                  refine G.v (V.mv rfl) rfl ?_
                  refine G.v (V.ia (i := j) Tryd.underlying28 Tryd.sizeOf23 rfl rfl hlt) rfl ?_
                  refine G.v (V.ldAC (cs := r.cells) Tryd.isAgg23 Tryd.sizeOf23 rfl hcell rfl id) rfl ?_
                  refine G.al Tryd.zeroValue23 rfl rfl (fun xb hxb => ?_)
                  refine G.v (V.asg rfl) rfl ?_
                  refine G.stA (cs := r.cells) Tryd.sizeOf23 rfl rfl (fun v hv => ?_) .z rfl ?_
                  · simp only [RB.cells, List.mem_cons, List.not_mem_nil, or_false] at hv
                    rcases hv with rfl | rfl | rfl <;> rfl
                  refine G.nil ?_
                  refine GC.seq ?_
                  refine GC.seq ?_
                  refine GC.join (fun fr' H2 => ∃ b : Bool, (b = false → (prs r.p none).2 = [] ∧ r.m ≠ nfName ∧ (44 : UInt8) ∉ r.m) ∧ Sub [(53, .slice (some ⟨ab, o, none⟩) Rs.length cp), (54, I (Rs.length : Nat)), (55, I ((j : Nat) : Int)), (0, .slice (some ⟨ab, o, none⟩) Rs.length cp), (1, S meth), (2, S path), (7, I n), (8, .slice ad8 (optNm :: msT path (Rs.take j)).length cp8), (9, I ((j : Nat) : Int)), (10, Pt xb 0), (74, .bool b)] fr' ∧ ⟨xb, true, .row r.cells 23 (0, 0)⟩ :: H' = H2) (fun J9 => ?_) ?_
                  · refine GC.turn (H' := ⟨xb, true, .row r.cells 23 (0, 0)⟩ :: H') (fun w1 hw1 => hw1) ?_
                    refine GC.reg ?_  -- region 9, echo.go:84
                    refine G.v (V.fa F23_1 rfl) rfl ?_
                    refine G.v (V.ld (b := xb) (off := 0 + 1) (wf := true) (l := r.cells) (T := 23) (fz := (0, 0)) (v := S r.p) Tryd.isAgg9 rfl (.head _) rfl) rfl ?_
                    refine G.callW (fun v H2 => (∃ adn cpn, v = .slice adn (prs r.p none).2.length cpn) ∧ H2 = ⟨xb, true, .row r.cells 23 (0, 0)⟩ :: H') Tryd.call15 rfl rfl (fun w1 hw1 => ?_) ?_
                    · refine (f15_any w1 r.p (by omega)).mono fun e w' ⟨v, H1, h1, h2, h3⟩ => ?_
                      rw [heP] at h2
                      obtain ⟨adn, cpn, rfl⟩ := h2.slice
                      exact ⟨_, _, h1, (hw1.after0 h3 h2.w).sub (List.sublist_append_right _ _), ⟨adn, cpn, rfl⟩, rfl⟩
                    rintro v H2 ⟨⟨adn, cpn, rfl⟩, rfl⟩
                    refine G.v (V.lenL Tryd.underlying24 rfl) rfl ?_
                    refine G.v (V.gt rfl rfl) rfl ?_
                    refine G.v (V.mv rfl) rfl ?_
                    refine G.bc 65 rfl (fun h65 => ?_) (fun h65 => ?_)
                    · refine G.sg rfl rfl rfl rfl rfl rfl ?_
                      refine G.sg rfl rfl rfl rfl rfl rfl ?_
                      refine G.sg rfl rfl rfl rfl rfl rfl ?_
                      refine G.v (V.pickT rfl rfl) rfl ?_
                      refine G.v (V.mv rfl) rfl ?_
                      refine G.sg rfl rfl rfl rfl rfl rfl ?_
                      refine G.sg rfl rfl rfl rfl rfl rfl ?_
                      refine G.sg rfl rfl rfl rfl rfl rfl ?_
                      refine G.v (V.pickT rfl rfl) rfl ?_
                      refine G.nil ?_
                      exact J9 _ _ ⟨true, fun h => (by cases h), .cons rfl (.cons rfl (.cons rfl (.cons rfl (.cons rfl (.cons rfl (.cons rfl (.cons rfl (.cons rfl (.cons rfl (.cons rfl .nil)))))))))), rfl⟩
                    · refine G.vg rfl rfl (V.fa F23_0 rfl) rfl ?_
                      refine G.vg rfl rfl (V.ld (b := xb) (off := 0 + 0) (wf := true) (l := r.cells) (T := 23) (fz := (0, 0)) (v := S r.m) Tryd.isAgg9 rfl (.head _) rfl) rfl ?_
                      refine G.vg rfl rfl (V.eqS rfl rfl) rfl ?_
                      refine G.v (V.pickF rfl rfl) rfl ?_
                      refine G.v (V.mv rfl) rfl ?_
                      refine G.bc 70 rfl (fun h70 => ?_) (fun h70 => ?_)
                      · refine G.sg rfl rfl rfl rfl rfl rfl ?_
                        refine G.sg rfl rfl rfl rfl rfl rfl ?_
                        refine G.sg rfl rfl rfl rfl rfl rfl ?_
                        refine G.v (V.pickT rfl rfl) rfl ?_
                        refine G.nil ?_
                        exact J9 _ _ ⟨true, fun h => (by cases h), .cons rfl (.cons rfl (.cons rfl (.cons rfl (.cons rfl (.cons rfl (.cons rfl (.cons rfl (.cons rfl (.cons rfl (.cons rfl .nil)))))))))), rfl⟩
                      · refine G.vg rfl rfl (V.fa F23_0 rfl) rfl ?_
                        refine G.vg rfl rfl (V.ld (b := xb) (off := 0 + 0) (wf := true) (l := r.cells) (T := 23) (fz := (0, 0)) (v := S r.m) Tryd.isAgg9 rfl (.head _) rfl) rfl ?_
                        refine G.gd rfl rfl ?_
                        refine G.callP Tryd.call17 rfl rfl (fun w1 hw1 => f17_any w1 r.m 44 (by omega)) ?_
                        refine G.v (V.pickF rfl rfl) rfl ?_
                        refine G.nil ?_
                        refine J9 _ _ ⟨_, fun h => ⟨List.length_eq_zero_iff.1 (by have := of_decide_eq_false h65; omega), of_decide_eq_false h70, of_decide_eq_false h⟩, .cons rfl (.cons rfl (.cons rfl (.cons rfl (.cons rfl (.cons rfl (.cons rfl (.cons rfl (.cons rfl (.cons rfl (.cons rfl .nil)))))))))), rfl⟩
                  rintro fr' H2 ⟨b9, hb9, hsb9, rfl⟩
                  refine GC.weak hsb9 ?_
                  clear hsb9
                  refine GC.cond rfl (fun h74 => ?_) (fun h74 => ?_)
                  · refine GC.seq ?_
                    refine GC.reg ?_  -- region 10, echo.go:85
                    refine G.callP Tryd.call16 rfl rfl (fun w1 hw1 => f16_any w1) ?_
                    refine G.v (V.asg rfl) rfl ?_
                    refine G.nil ?_
                    exact GC.ret1 rfl rfl fun w' hw' => ⟨rfl, hw'.sub (List.nil_sublist _)⟩
                  refine GC.skip ?_
                  refine GC.seq ?_
                  refine GC.seq ?_
                  refine GC.join (fun fr' H2 => ∃ b : Bool, (b = true ↔ r.p = path ∧ r.m = meth) ∧ Sub [(53, .slice (some ⟨ab, o, none⟩) Rs.length cp), (54, I (Rs.length : Nat)), (55, I ((j : Nat) : Int)), (0, .slice (some ⟨ab, o, none⟩) Rs.length cp), (1, S meth), (2, S path), (7, I n), (8, .slice ad8 (optNm :: msT path (Rs.take j)).length cp8), (9, I ((j : Nat) : Int)), (10, Pt xb 0), (85, .bool b)] fr' ∧ ⟨xb, true, .row r.cells 23 (0, 0)⟩ :: H' = H2) (fun J11 => ?_) ?_
                  · refine GC.reg ?_  -- region 11, echo.go:87
                    refine G.v (V.fa F23_1 rfl) rfl ?_
                    refine G.v (V.ld (b := xb) (off := 0 + 1) (wf := true) (l := r.cells) (T := 23) (fz := (0, 0)) (v := S r.p) Tryd.isAgg9 rfl (.head _) rfl) rfl ?_
                    refine G.v (V.mv rfl) rfl ?_
                    refine G.v (V.eqS rfl rfl) rfl ?_
                    refine G.v (V.mv rfl) rfl ?_
                    refine G.bc 80 rfl (fun h80 => ?_) (fun h80 => ?_)
                    · refine G.vg rfl rfl (V.fa F23_0 rfl) rfl ?_
                      refine G.vg rfl rfl (V.ld (b := xb) (off := 0 + 0) (wf := true) (l := r.cells) (T := 23) (fz := (0, 0)) (v := S r.m) Tryd.isAgg9 rfl (.head _) rfl) rfl ?_
                      refine G.vg rfl rfl (V.mv rfl) rfl ?_
                      refine G.vg rfl rfl (V.eqS rfl rfl) rfl ?_
                      refine G.v (V.pickT rfl rfl) rfl ?_
                      refine G.nil ?_
                      exact J11 _ _ ⟨_, ⟨fun h => ⟨of_decide_eq_true h80, of_decide_eq_true h⟩, fun h => decide_eq_true h.2⟩, .cons rfl (.cons rfl (.cons rfl (.cons rfl (.cons rfl (.cons rfl (.cons rfl (.cons rfl (.cons rfl (.cons rfl (.cons rfl .nil)))))))))), rfl⟩
                    · refine G.sg rfl rfl rfl rfl rfl rfl ?_
                      refine G.sg rfl rfl rfl rfl rfl rfl ?_
                      refine G.sg rfl rfl rfl rfl rfl rfl ?_
                      refine G.sg rfl rfl rfl rfl rfl rfl ?_
                      refine G.v (V.pickF rfl rfl) rfl ?_
                      refine G.nil ?_
                      exact J11 _ _ ⟨false, ⟨fun h => (by cases h), fun h => absurd h.1 (of_decide_eq_false h80)⟩, .cons rfl (.cons rfl (.cons rfl (.cons rfl (.cons rfl (.cons rfl (.cons rfl (.cons rfl (.cons rfl (.cons rfl (.cons rfl .nil)))))))))), rfl⟩
                  obtain ⟨hn1, hn2, hn3⟩ := hb9 h74
                  rintro fr' H2 ⟨b11, hb11, hsb11, rfl⟩
                  refine GC.weak hsb11 ?_
                  clear hsb11
                  refine GC.join (fun fr' H2 => ∃ n1 : Int, ((r.p = path ∧ r.m = meth → n1 = j) ∧ (¬ (r.p = path ∧ r.m = meth) → n1 = n)) ∧ Sub [(53, .slice (some ⟨ab, o, none⟩) Rs.length cp), (54, I (Rs.length : Nat)), (55, I ((j : Nat) : Int)), (0, .slice (some ⟨ab, o, none⟩) Rs.length cp), (1, S meth), (2, S path), (7, I n1), (8, .slice ad8 (optNm :: msT path (Rs.take j)).length cp8), (9, I ((j : Nat) : Int)), (10, Pt xb 0)] fr' ∧ ⟨xb, true, .row r.cells 23 (0, 0)⟩ :: H' = H2) (fun K85 => ?_) ?_
                  · refine GC.cond rfl (fun h85 => ?_) (fun h85 => ?_)
                    · refine GC.reg ?_  -- region 12, echo.go:88
                      refine G.v (V.mv rfl) rfl ?_
                      refine G.v (V.asg rfl) rfl ?_
                      refine G.nil ?_
                      have h := hb11.1 h85
                      exact K85 _ _ ⟨(j : Nat), ⟨fun _ => rfl, fun hh => absurd h hh⟩, .cons rfl (.cons rfl (.cons rfl (.cons rfl (.cons rfl (.cons rfl (.cons rfl (.cons rfl (.cons rfl (.cons rfl .nil))))))))), rfl⟩
                    refine GC.skip ?_
                    have h : ¬ (r.p = path ∧ r.m = meth) := fun h => by rw [hb11.2 h] at h85; cases h85
                    exact K85 _ _ ⟨n, ⟨fun hh => absurd hh h, fun _ => rfl⟩, .cons rfl (.cons rfl (.cons rfl (.cons rfl (.cons rfl (.cons rfl (.cons rfl (.cons rfl (.cons rfl (.cons rfl .nil))))))))), rfl⟩
                  rintro fr' H2 ⟨n1, ⟨hn1a, hn1b⟩, hs85, rfl⟩
                  refine GC.weak hs85 ?_
                  clear hs85
                  refine GC.seq ?_
                  refine GC.seq ?_
                  refine GC.join (fun fr' H2 => ∃ b : Bool, (b = true ↔ r.p = path ∧ r.m ≠ optNm) ∧ Sub [(53, .slice (some ⟨ab, o, none⟩) Rs.length cp), (54, I (Rs.length : Nat)), (55, I ((j : Nat) : Int)), (0, .slice (some ⟨ab, o, none⟩) Rs.length cp), (1, S meth), (2, S path), (7, I n1), (8, .slice ad8 (optNm :: msT path (Rs.take j)).length cp8), (9, I ((j : Nat) : Int)), (10, Pt xb 0), (95, .bool b)] fr' ∧ ⟨xb, true, .row r.cells 23 (0, 0)⟩ :: H' = H2) (fun J13 => ?_) ?_
                  · refine GC.reg ?_  -- region 13, echo.go:90
                    refine G.v (V.fa F23_1 rfl) rfl ?_
                    refine G.v (V.ld (b := xb) (off := 0 + 1) (wf := true) (l := r.cells) (T := 23) (fz := (0, 0)) (v := S r.p) Tryd.isAgg9 rfl (.head _) rfl) rfl ?_
                    refine G.v (V.mv rfl) rfl ?_
                    refine G.v (V.eqS rfl rfl) rfl ?_
                    refine G.v (V.mv rfl) rfl ?_
                    refine G.bc 91 rfl (fun h91 => ?_) (fun h91 => ?_)
                    · refine G.vg rfl rfl (V.fa F23_0 rfl) rfl ?_
                      refine G.vg rfl rfl (V.ld (b := xb) (off := 0 + 0) (wf := true) (l := r.cells) (T := 23) (fz := (0, 0)) (v := S r.m) Tryd.isAgg9 rfl (.head _) rfl) rfl ?_
                      refine G.vg rfl rfl (V.neS rfl rfl) rfl ?_
                      refine G.v (V.pickT rfl rfl) rfl ?_
                      refine G.nil ?_
                      exact J13 _ _ ⟨_, ⟨fun h => ⟨of_decide_eq_true h91, fun e : r.m = optNm => by have h' : (!decide (r.m = optNm)) = true := h; rw [decide_eq_true e] at h'; cases h'⟩, fun h => show (!decide (r.m = optNm)) = true by rw [decide_eq_false h.2]; rfl⟩, .cons rfl (.cons rfl (.cons rfl (.cons rfl (.cons rfl (.cons rfl (.cons rfl (.cons rfl (.cons rfl (.cons rfl (.cons rfl .nil)))))))))), rfl⟩
                    · refine G.sg rfl rfl rfl rfl rfl rfl ?_
                      refine G.sg rfl rfl rfl rfl rfl rfl ?_
                      refine G.sg rfl rfl rfl rfl rfl rfl ?_
                      refine G.v (V.pickF rfl rfl) rfl ?_
                      refine G.nil ?_
                      exact J13 _ _ ⟨false, ⟨fun h => (by cases h), fun h => absurd h.1 (of_decide_eq_false h91)⟩, .cons rfl (.cons rfl (.cons rfl (.cons rfl (.cons rfl (.cons rfl (.cons rfl (.cons rfl (.cons rfl (.cons rfl (.cons rfl .nil)))))))))), rfl⟩
                  rintro fr' H2 ⟨b13, hb13, hsb13, rfl⟩
                  refine GC.weak hsb13 ?_
                  clear hsb13
                  refine GC.join (fun fr' H2 => ∃ ad9 cp9 Hs9, Own 9 1 (.slice ad9 (optNm :: msT path (Rs.take (j + 1))).length cp9) (optNm :: msT path (Rs.take (j + 1))).length ((optNm :: msT path (Rs.take (j + 1))).map S) Hs9 ∧ Sub [(53, .slice (some ⟨ab, o, none⟩) Rs.length cp), (54, I (Rs.length : Nat)), (55, I ((j : Nat) : Int)), (0, .slice (some ⟨ab, o, none⟩) Rs.length cp), (1, S meth), (2, S path), (7, I n1), (8, .slice ad9 (optNm :: msT path (Rs.take (j + 1))).length cp9), (9, I ((j : Nat) : Int)), (10, Pt xb 0)] fr' ∧ ⟨xb, true, .row r.cells 23 (0, 0)⟩ :: Hs9 = H2) (fun K95 => ?_) ?_
                  · refine GC.cond rfl (fun h95 => ?_) (fun h95 => ?_)
                    · refine GC.reg ?_  -- region 14, echo.go:91
                      refine G.v (V.mv rfl) rfl ?_
                      refine G.v (V.fa F23_0 rfl) rfl ?_
                      refine G.v (V.ld (b := xb) (off := 0 + 0) (wf := true) (l := r.cells) (T := 23) (fz := (0, 0)) (v := S r.m) Tryd.isAgg9 rfl (.head _) rfl) rfl ?_
                      refine G.bs (BS.one Tryd.underlying24 Tryd.sizeOf9 Tryd.zeroValue9 (v := S r.m) rfl) rfl rfl (fun tb2 htb2 => ?_)
                      have hml := msT_len path (Rs.take j)
                      have hml2 : (optNm :: msT path (Rs.take j)).length ≤ 1000 := by rw [List.length_cons]; omega
                      refine G.app (i := Tryd.t9) (sz := 1) (by_ := 16) Tryd.underlying24 rfl rfl rfl rfl rfl rfl rfl howns (H' := [⟨tb2, true, .row [S r.m] 9 (0, 0)⟩, ⟨xb, true, .row r.cells 23 (0, 0)⟩]) (List.perm_append_comm (l₁ := ([⟨tb2, true, .row [S r.m] 9 (0, 0)⟩, ⟨xb, true, .row r.cells 23 (0, 0)⟩] : SH))) (src_row (vs := [S r.m]) (r := []) (.head _)) rfl (by simp [Value.oneCell']) (by omega) (by omega) (by omega) rfl (fun sv2 Hs2 hown5 => ?_)
                      have e9 : (optNm :: msT path (Rs.take (j + 1))) = (optNm :: msT path (Rs.take j)) ++ [r.m] := by rw [htk, msT_snoc, if_pos (hb13.1 h95)]; rfl
                      have hown6 : Own 9 1 sv2 (optNm :: msT path (Rs.take (j + 1))).length ((optNm :: msT path (Rs.take (j + 1))).map S) Hs2 := by
                        rw [e9, List.length_append, List.map_append]; exact hown5
                      obtain ⟨ad9, cp9, rfl⟩ := hown6.slice
                      refine G.v (V.asg rfl) rfl ?_
                      refine G.nil ?_
                      exact GC.turn (fun w1 hw1 => hw1.sub (List.sublist_cons_self _ _)) (K95 _ _ ⟨ad9, cp9, Hs2, hown6, .cons rfl (.cons rfl (.cons rfl (.cons rfl (.cons rfl (.cons rfl (.cons rfl (.cons rfl (.cons rfl (.cons rfl .nil))))))))), rfl⟩)
                    refine GC.skip ?_
                    have e9 : (optNm :: msT path (Rs.take (j + 1))) = (optNm :: msT path (Rs.take j)) := by rw [htk, msT_snoc, if_neg (fun h => by rw [hb13.2 h] at h95; cases h95), List.append_nil]
                    refine K95 _ _ ⟨ad8, cp8, H', by rw [e9]; exact howns, .cons (by first | rfl | (rw [e9]; rfl)) (.cons (by first | rfl | (rw [e9]; rfl)) (.cons (by first | rfl | (rw [e9]; rfl)) (.cons (by first | rfl | (rw [e9]; rfl)) (.cons (by first | rfl | (rw [e9]; rfl)) (.cons (by first | rfl | (rw [e9]; rfl)) (.cons (by first | rfl | (rw [e9]; rfl)) (.cons (by first | rfl | (rw [e9]; rfl)) (.cons (by first | rfl | (rw [e9]; rfl)) (.cons (by first | rfl | (rw [e9]; rfl)) .nil))))))))), rfl⟩
                  rintro fr' H2 ⟨ad9, cp9, Hs9, hown9, hs95, rfl⟩
                  refine GC.weak hs95 ?_
                  clear hs95
                  refine GC.seq ?_
                  refine GC.join (fun fr' H2 => ∃ b : Bool, (b = true ↔ r.p = path ∧ n1 < 0) ∧ Sub [(53, .slice (some ⟨ab, o, none⟩) Rs.length cp), (54, I (Rs.length : Nat)), (55, I ((j : Nat) : Int)), (0, .slice (some ⟨ab, o, none⟩) Rs.length cp), (1, S meth), (2, S path), (7, I n1), (8, .slice ad9 (optNm :: msT path (Rs.take (j + 1))).length cp9), (9, I ((j : Nat) : Int)), (10, Pt xb 0), (108, .bool b)] fr' ∧ ⟨xb, true, .row r.cells 23 (0, 0)⟩ :: Hs9 = H2) (fun J15 => ?_) ?_
                  · refine GC.reg ?_  -- region 15, echo.go:93
                    refine G.v (V.fa F23_1 rfl) rfl ?_
                    refine G.v (V.ld (b := xb) (off := 0 + 1) (wf := true) (l := r.cells) (T := 23) (fz := (0, 0)) (v := S r.p) Tryd.isAgg9 rfl (.head _) rfl) rfl ?_
                    refine G.v (V.mv rfl) rfl ?_
                    refine G.v (V.eqS rfl rfl) rfl ?_
                    refine G.v (V.mv rfl) rfl ?_
                    refine G.bc 105 rfl (fun h105 => ?_) (fun h105 => ?_)
                    · refine G.vg rfl rfl (V.mv rfl) rfl ?_
                      refine G.vg rfl rfl (V.lt rfl rfl) rfl ?_
                      refine G.v (V.pickT rfl rfl) rfl ?_
                      refine G.nil ?_
                      exact J15 _ _ ⟨_, ⟨fun h => ⟨of_decide_eq_true h105, of_decide_eq_true h⟩, fun h => decide_eq_true h.2⟩, .cons rfl (.cons rfl (.cons rfl (.cons rfl (.cons rfl (.cons rfl (.cons rfl (.cons rfl (.cons rfl (.cons rfl (.cons rfl .nil)))))))))), rfl⟩
                    · refine G.sg rfl rfl rfl rfl rfl rfl ?_
                      refine G.sg rfl rfl rfl rfl rfl rfl ?_
                      refine G.v (V.pickF rfl rfl) rfl ?_
                      refine G.nil ?_
                      exact J15 _ _ ⟨false, ⟨fun h => (by cases h), fun h => absurd h.1 (of_decide_eq_false h105)⟩, .cons rfl (.cons rfl (.cons rfl (.cons rfl (.cons rfl (.cons rfl (.cons rfl (.cons rfl (.cons rfl (.cons rfl (.cons rfl .nil)))))))))), rfl⟩
                  rintro fr' H2 ⟨b15, hb15, hsb15, rfl⟩
                  refine GC.weak hsb15 ?_
                  clear hsb15
                  refine GC.cond rfl (fun h108 => ?_) (fun h108 => ?_)
                  · refine GC.reg ?_  -- region 16, echo.go:94
                    refine G.v (V.asg rfl) rfl ?_
                    refine G.nil ?_
                    refine GC.inBlock ?_
                    refine GC.reg ?_  -- region 17, echo.go:83
                    refine G.v (V.addI rfl rfl rfl (by omega) (by omega)) rfl ?_
                    refine G.v (V.mv rfl) rfl ?_
                    refine G.nil ?_
                    have hall2 : ∀ i q, i < j + 1 → Rs[i]? = some q → (prs q.p none).2 = [] ∧ q.m ≠ nfName ∧ (44 : UInt8) ∉ q.m := by
                      intro i q hi hq
                      by_cases hij : i = j
                      · subst hij; rw [hr] at hq; cases hq; exact ⟨hn1, hn2, hn3⟩
                      · exact hall i q (by omega) hq
                    obtain ⟨g1, g2⟩ := hb15.1 h108
                    have g3 : ¬ (r.p = path ∧ r.m = meth) := fun h => by have := hn1a h; omega
                    have g4 := hn1b g3
                    rw [g4] at g2
                    exact GC.weakH (List.sublist_cons_self _ _) (ih (N - 1) _ _ (by omega) ⟨j + 1, -2, _, by omega, by rw [htk]; exact hNT.two g2 g1 (fun h => g3 ⟨g1, h⟩), hall2, hown9, .cons rfl (.cons rfl (.cons rfl (.cons rfl (.cons rfl (.cons rfl (.cons rfl (.cons rfl .nil)))))))⟩)
                  refine GC.skip ?_
                  refine GC.inBlock ?_
                  refine GC.reg ?_  -- region 17, echo.go:83
                  refine G.v (V.addI rfl rfl rfl (by omega) (by omega)) rfl ?_
                  refine G.v (V.mv rfl) rfl ?_
                  refine G.nil ?_
                  have hall2 : ∀ i q, i < j + 1 → Rs[i]? = some q → (prs q.p none).2 = [] ∧ q.m ≠ nfName ∧ (44 : UInt8) ∉ q.m := by
                    intro i q hi hq
                    by_cases hij : i = j
                    · subst hij; rw [hr] at hq; cases hq; exact ⟨hn1, hn2, hn3⟩
                    · exact hall i q (by omega) hq
                  have g1 : ¬ (r.p = path ∧ n1 < 0) := fun h => by rw [hb15.2 h] at h108; cases h108
                  have g5 : NT (Rs.take (j + 1)) meth path n1 := by
                    rw [htk]
                    by_cases hp : r.p = path
                    · by_cases hm : r.m = meth
                      · have := NT.hit (l := Rs.take j) hp hm; rw [htl] at this; rw [hn1a ⟨hp, hm⟩]; exact this
                      · have g4 := hn1b (fun h => hm h.2)
                        rw [g4] at g1 ⊢
                        exact hNT.keep (by have : ¬ n < 0 := fun h => g1 ⟨hp, h⟩; omega)
                    · rw [hn1b (fun h => hp h.1)]; exact hNT.other hp
                  exact GC.weakH (List.sublist_cons_self _ _) (ih (N - 1) _ _ (by omega) ⟨j + 1, n1, _, by omega, g5, hall2, hown9, .cons rfl (.cons rfl (.cons rfl (.cons rfl (.cons rfl (.cons rfl (.cons rfl (.cons rfl .nil)))))))⟩)
                refine GC.exit rfl ?_
                refine GC.seq ?_
                have hjl : Rs.take j = Rs := List.take_of_length_le (by omega)
                rw [hjl] at hNT howns
                have hml := msT_len path Rs
                have hml2 : (optNm :: msT path Rs).length ≤ 1000 := by rw [List.length_cons]; omega
                refine GC.reg ?_  -- region 18, echo.go:97
                refine G.v (V.mv rfl) rfl ?_
                refine G.callW (vs := [.slice ad8 (optNm :: msT path Rs).length cp8]) (fun v H2 => v = .tuple #[] ∧ Own 9 1 (.slice ad8 (optNm :: msT path Rs).length cp8) (optNm :: msT path Rs).length ((srt (optNm :: msT path Rs)).map S) H2) Tryd.call34 (by rw [hjl]; rfl) rfl (fun w1 hw1 => ?_) ?_
                · refine (f34_any w1 _ _ _ howns (fun e he => hw1.has e he) (by omega)).mono fun e w' ⟨h1, Hs', h2, h3⟩ => ⟨_, Hs', h1, ?_, rfl, h2⟩
                  have := h3 w _ [] (by simpa using hw1)
                  simpa using this
                rintro v Hsr ⟨rfl, hownr0⟩
                refine G.nil ?_
                refine GC.seq ?_
                have hsl : (optNm :: msT path Rs).length = (srt (optNm :: msT path Rs)).length := (srt_len _).symm
                rw [hsl] at hownr0
                refine GC.reg ?_  -- region 19, echo.go:98
                refine G.v (V.mv rfl) rfl ?_
                refine G.callW (fun v H2 => ∃ Hr, Own 51 3 v Rs.length (Rs.flatMap RB.cells) Hr ∧ H2 = Hr ++ Hsr) Tryd.call19 rfl rfl (fun w1 hw1 => ?_) ?_
                · exact (f19_any w1 ad cp Rs (fun i r hr => by obtain ⟨b, o, h1, h2⟩ := hat i r hr; exact ⟨b, o, h1, fun j v hj => hw1.cellOld (h2 j v hj) id⟩) (by omega)).mono fun e w' ⟨v, Hs, h1, h2, h3⟩ => ⟨v, _, h1, hw1.after0 h3 h2.w, Hs, h2, rfl⟩
                rintro v H2 ⟨Hr, hownr, rfl⟩
                obtain ⟨adr, cpr, rfl⟩ := hownr.slice
                refine G.v (V.mv rfl) rfl ?_
                refine G.v (V.mv rfl) rfl ?_
                refine G.callW (fun v H2 => ∃ (num : Int) (p : List UInt8) (ns vs : List (List UInt8)) (al : List UInt8) (adn adv0 : Option Addr) (cpn cpv : Nat) (Hn Hv : SH), FRes Rs meth (visK (KS Rs) meth 202 [] path [] none) num p ns vs al ∧ ns.length ≤ 200 ∧ v = .agg #[I num, S p, .slice adn ns.length cpn, .slice adv0 vs.length cpv, S al] ∧ Own 9 1 (.slice adn ns.length cpn) ns.length (ns.map S) Hn ∧ Own 9 1 (.slice adv0 vs.length cpv) vs.length (vs.map S) Hv ∧ H2 = (Hn ++ Hv) ++ Hsr) Tryd.call18 rfl rfl (fun w1 hw1 => ?_) ?_
                · refine (f18_any w1 adr cpr Rs meth path (rts_own hw1 (fun e he => List.mem_append_left _ he) hownr) (fun x h => (hRt.2 x h).ok) hRt.1 (by omega)).mono fun e w' ⟨num, p, ns, vs, al, vn, vv, Hn, Hv, h1, h1', h2, h3, h4, h5⟩ => ?_
                  obtain ⟨adn, cpn, rfl⟩ := h3.slice
                  obtain ⟨adv0, cpv, rfl⟩ := h4.slice
                  refine ⟨_, _, h2, ?_, num, p, ns, vs, al, adn, adv0, cpn, cpv, Hn, Hv, h1, h1', rfl, h3, h4, rfl⟩
                  have := hw1.after0 h5 (fun e he => by
                    rcases List.mem_append.1 he with he | he
                    · exact h3.w e he
                    · exact h4.w e he)
                  exact this.sub ((List.Sublist.refl _).append (List.sublist_append_right _ _))
                rintro v H2 ⟨num, p, ns, vs, al, adn, adv0, cpn, cpv, Hn, Hv, hfr, hnl, rfl, hown1, hown2, rfl⟩
                have hat2 : ∀ r ∈ Rs, (prs r.p none).2 = [] ∧ r.m ≠ nfName ∧ (44 : UInt8) ∉ r.m := fun r hr => by
                  obtain ⟨i, hi⟩ := List.getElem?_of_mem hr
                  have := (List.getElem?_eq_some_iff.1 hi).1
                  exact hall i r (by omega) hi
                have hall3 := fres_al hRt hfr
                obtain ⟨htn, rfl, hta⟩ := textRes hRt hnd (fun r hr => (hat2 r hr).1) (fun r hr => (hat2 r hr).2.1) (fun r hr => (hat2 r hr).2.2) hmnf hmo hfr hNT
                subst htn
                refine G.al Tryd.zeroValue33 rfl rfl (fun b7 hb7 => ?_)
                refine G.stA (cs := [I num, S p, .slice adn ns.length cpn, .slice adv0 0 cpv, S al]) Tryd.sizeOf33 rfl rfl (fun v hv => ?_) .z rfl ?_
                · simp only [List.mem_cons, List.not_mem_nil, or_false] at hv
                  rcases hv with rfl | rfl | rfl | rfl | rfl <;> rfl
                refine G.nil ?_
                refine GC.seq ?_
                refine GC.turn (H' := ⟨b7, true, .row [I num, S p, .slice adn ns.length cpn, .slice adv0 0 cpv, S al] 33 (0, 0)⟩ :: ((Hn ++ Hv) ++ Hsr)) (fun w1 hw1 => hw1) ?_
                refine GC.reg ?_  -- region 20, echo.go:99
                refine G.callP Tryd.call16 rfl rfl (fun w1 hw1 => f16_any w1) ?_
                refine G.v (V.mv rfl) rfl ?_
                refine G.bc 118 rfl (fun h118 => ?_) (fun h118 => ?_)
                · refine G.vg rfl rfl (V.fa F33_0 rfl) rfl ?_
                  refine G.vg rfl rfl (V.ld (b := b7) (off := 0 + 0) (wf := true) (l := [I num, S p, .slice adn ns.length cpn, .slice adv0 0 cpv, S al]) (T := 33) (fz := (0, 0)) (v := I num) Tryd.isAgg3 rfl (.head _) rfl) rfl ?_
                  refine G.vg rfl rfl (V.mv rfl) rfl ?_
                  refine G.vg rfl rfl (v := .bool true) (eqI_true rfl (V.eqI rfl rfl)) rfl ?_
                  refine G.v (V.pickT rfl rfl) rfl ?_
                  refine G.v (V.mv rfl) rfl ?_
                  refine G.bc 124 rfl (fun h124 => ?_) (fun h124 => ?_)
                  · refine G.vg rfl rfl (V.fa F33_3 rfl) rfl ?_
                    refine G.vg rfl rfl (V.ld (b := b7) (off := 0 + 3) (wf := true) (l := [I num, S p, .slice adn ns.length cpn, .slice adv0 0 cpv, S al]) (T := 33) (fz := (0, 0)) (v := .slice adv0 0 cpv) Tryd.isAgg24 rfl (.head _) rfl) rfl ?_
                    refine G.vg rfl rfl (V.lenL Tryd.underlying24 rfl) rfl ?_
                    refine G.vg rfl rfl (v := .bool true) (eqI_true rfl (V.eqI rfl rfl)) rfl ?_
                    refine G.v (V.pickT rfl rfl) rfl ?_
                    refine G.v (V.mv rfl) rfl ?_
                    refine G.bc 130 rfl (fun h130 => ?_) (fun h130 => ?_)
                    · refine G.vg rfl rfl (V.mv rfl) rfl ?_
                      refine G.vg rfl rfl (V.neI rfl rfl) rfl ?_
                      refine G.vg rfl rfl (V.mv rfl) rfl ?_
                      refine G.bc 133 rfl (fun h133 => ?_) (fun h133 => ?_)
                      · refine G.sg rfl rfl rfl rfl rfl rfl ?_
                        refine G.sg rfl rfl rfl rfl rfl rfl ?_
                        refine G.sg rfl rfl rfl rfl rfl rfl ?_
                        refine G.sg rfl rfl rfl rfl rfl rfl ?_
                        refine G.sg rfl rfl rfl rfl rfl rfl ?_
                        refine G.vg rfl rfl (V.pickT rfl rfl) rfl ?_
                        refine G.v (V.pickT rfl rfl) rfl ?_
                        refine G.v (V.asg rfl) rfl ?_
                        refine G.nil ?_
                        exact GC.ret1 rfl rfl fun w' hw' => ⟨rfl, hw'.sub (List.nil_sublist _)⟩
                      · refine G.vg rfl rfl (V.fa F33_4 rfl) rfl ?_
                        refine G.vg rfl rfl (V.ld (b := b7) (off := 0 + 4) (wf := true) (l := [I num, S p, .slice adn ns.length cpn, .slice adv0 0 cpv, S al]) (T := 33) (fz := (0, 0)) (v := S al) Tryd.isAgg9 rfl (.head _) rfl) rfl ?_
                        have hn2 : num = -2 := by simpa using h133
                        have hal := hta hn2
                        refine G.gd rfl rfl ?_
                        refine G.callW (fun v H2 => ∃ ada cpa Ha, v = .slice ada (srt (optNm :: msT path Rs)).length cpa ∧ Own 9 1 (.slice ada (srt (optNm :: msT path Rs)).length cpa) (srt (optNm :: msT path Rs)).length ((srt (optNm :: msT path Rs)).map S) Ha ∧ H2 = Ha ++ (⟨b7, true, .row [I num, S p, .slice adn ns.length cpn, .slice adv0 0 cpv, S al] 33 (0, 0)⟩ :: ((Hn ++ Hv) ++ Hsr))) Tryd.call35 rfl rfl (fun w1 hw1 => ?_) ?_
                        · refine (f35_any w1 al (by omega)).mono fun e w' ⟨v, Ha, h1, h2, h3⟩ => ?_
                          rw [hal] at h2
                          obtain ⟨ada, cpa, rfl⟩ := h2.slice
                          exact ⟨_, _, h1, hw1.after0 h3 h2.w, ada, cpa, Ha, rfl, h2, rfl⟩
                        rintro v H2 ⟨ada, cpa, Ha, rfl, howna, rfl⟩
                        refine G.vg rfl rfl (V.mv rfl) rfl ?_
                        refine G.gd rfl rfl ?_
                        refine G.callW (vs := [.slice ada (srt (optNm :: msT path Rs)).length cpa, .slice ad8 (srt (optNm :: msT path Rs)).length cp8]) (fun v H2 => v = .bool true ∧ H2 = Ha ++ (⟨b7, true, .row [I num, S p, .slice adn ns.length cpn, .slice adv0 0 cpv, S al] 33 (0, 0)⟩ :: ((Hn ++ Hv) ++ Hsr))) Tryd.call22 (by rw [← hsl, hjl]; rfl) rfl (fun w1 hw1 => ?_) ?_
                        · exact (f22_any w1 ada ad8 cpa cp8 (srt (optNm :: msT path Rs)) (srt (optNm :: msT path Rs)) (howna.tx fun e he => hw1.has e (by simp [he])) (hownr0.tx fun e he => hw1.has e (by simp [he])) (by omega) (by omega)).mono fun e w' ⟨h1, h2⟩ => ⟨_, _, h1, hw1.after0 h2 (fun e he => by cases he), by simp, rfl⟩
                        rintro v H2 ⟨rfl, rfl⟩
                        refine G.vg rfl rfl (V.pickF rfl rfl) rfl ?_
                        refine G.v (V.pickT rfl rfl) rfl ?_
                        refine G.v (V.asg rfl) rfl ?_
                        refine G.nil ?_
                        exact GC.ret1 rfl rfl fun w' hw' => ⟨rfl, hw'.sub (List.nil_sublist _)⟩
                    · exact absurd h130 (by decide)
                  · exact absurd h124 (by decide)
                · exact absurd h118 (by decide)
end Go.Proofs

/- A law's card out of its walk: FnEchoMethods. -/
set_option maxRecDepth 100000
namespace Go.Proofs.YtekclaobeccbdaaDoor.methods
open Go Bw Go.ChangeShapes Go.WideShapes Go.ChangeAt Go.RowKit

/-- what bytes.ErrTooLarge is laid as -/
abbrev tooS : ByteArray := { data := #[98, 121, 116, 101, 115, 46, 66, 117, 102, 102, 101, 114, 58, 32, 116, 111, 111, 32, 108, 97, 114, 103, 101] }
noncomputable def low : Nat := (World.holding Tryd.prog default ⟨#[], #[], []⟩).heap.size
noncomputable def laidWorld (os : Os) : World :=
  let w0 := World.holding Tryd.prog os ⟨#[.cells #[.string tooS] 217], #[], []⟩
  { w0 with heap := w0.heap.modify 1 fun
      | .cells _ t frozen => .cells #[.iface 200 (.pointer (some ⟨low, 0, none⟩))] t frozen
      | o => o }

theorem contract (H : Type) (enc : TypeId × Value → H) (W : World) (base : Nat) (args : Array Value) (ds gs : List (DataW H)) (before : List MemPlace)
    (hval : ∀ (j : Nat) t v, Tryd.f9.params[j]? = some t → args[j]? = some v → Value.okWide Tryd.prog W .any base t v)
    (hW : DataW.Whole enc Tryd.prog Tryd.f9.params.toList Rows.fnEchoMethodsSpec.vars false W args.toList ds gs before) :
    Calls Tryd.prog 9 args W fun e W' => ∃ v, e = .returned v ∧ Rows.fnEchoMethodsSpec.post enc Tryd.prog Tryd.f9 false true false false W args v W' := by
  have hW' := hW
  obtain ⟨p, q, hA0, hV, rfl, hfz, hnd⟩ := hW
  have hA : DataW.TrodAll enc Tryd.prog W 0 (fun _ => true) true [28, 9, 9] args.toList ds p := hA0
  obtain ⟨v0, vs0, d0, ds0, p0, q0, hargs, rfl, rfl, h0, r0⟩ := trodAll_cons hA
  obtain ⟨v1, vs_1, d1, ds1, p1, q1, rfl, rfl, rfl, h1, r1⟩ := trodAll_cons r0
  obtain ⟨v2, vs_2, d2, ds2, p2, q2, rfl, rfl, rfl, h2, r2⟩ := trodAll_cons r1
  obtain ⟨rfl, rfl, rfl⟩ := trodAll_nil r2
  obtain rfl : args = #[v0, v1, v2] := by cases args; simp_all
  obtain ⟨ad0, cp0, Rs, rfl, hcp0, hat0⟩ := open_rts Tryd.underlying28 Tryd.underlying23 tryd_c23 ⟨rfl, rfl⟩ ⟨rfl, rfl⟩ ⟨rfl, rfl⟩ Tryd.underlying9 tryd_c9 (hval 0 28 v0 rfl rfl) h0
  obtain ⟨l1, rfl⟩ := open_str Tryd.underlying9 (hval 1 9 v1 rfl rfl)
  obtain ⟨l2, rfl⟩ := open_str Tryd.underlying9 (hval 2 9 v2 rfl rfl)
  refine (f9_any W ad0 cp0 Rs l1 l2 hat0).mono fun e W' ⟨he, hf⟩ => ⟨_, he, ?_⟩
  refine post_law hW' rfl rfl ?_ (by kernel_rfl) (below_of hf)
  obtain ⟨rfl, rfl⟩ := trodVars_none hV
  rfl

theorem laid_met (os : Os) : laidMet Tryd.prog Rows.fnEchoMethodsRow.laid ((laidWorld os).forCall (fun _ _ => 0) ⟨#[], #[.slice none 0 0, .string ⟨#[]⟩, .string ⟨#[]⟩], []⟩).memory :=
  laidMet_of_run (ps := [.cell 1 0, .cell low 0]) 8 (by kernel_rfl) (by kernel_rfl) (by kernel_rfl)
theorem reads (os : Os) {H : Type} (enc : TypeId × Value → H) : ∃ places, DataW.whole enc Tryd.prog ((laidWorld os).forCall (fun _ _ => 0) ⟨#[], #[.slice none 0 0, .string ⟨#[]⟩, .string ⟨#[]⟩], []⟩).memory Tryd.f9.params.toList Rows.fnEchoMethodsSpec.vars false (#[.slice none 0 0, .string ⟨#[]⟩, .string ⟨#[]⟩] : Array Value).toList 8 = some ([.nil, .lit (.string []), .lit (.string [])], [], places) :=
  ⟨[], by kernel_rfl⟩

theorem lifted (os : Os) (started : os.Started) (H : Type) (enc : TypeId × Value → H) (F : Stop.Interp) :
    ReturnsInHanded {} Tryd.checked os 9 .any ((OpenSpec.ofChange Rows.fnEchoMethodsSpec).preRow enc Tryd.prog Tryd.f9 Rows.fnEchoMethodsRow.domain false Rows.fnEchoMethodsRow.laid) (((OpenSpec.ofChange Rows.fnEchoMethodsSpec).at F).post enc Tryd.prog Tryd.f9 false true false false) := by
  obtain ⟨places, hx⟩ := reads os enc
  refine returnsInHanded_of_row (C := Tryd.checked) (s := OpenSpec.ofChange Rows.fnEchoMethodsSpec) tryd_own started (by kernel_rfl) Tryd.func9
    (witness_row_at (enc := enc) (C := Tryd.checked) false (laidWorld os) #[.slice none 0 0, .string ⟨#[]⟩, .string ⟨#[]⟩] rfl (by kernel_rfl) (by kernel_rfl) (by kernel_rfl)
      (OpenSpec.preRow_of_cond 8 hx (by kernel_rfl) (fun k hk => by cases hk) (by kernel_rfl) (laid_met os))) ?_
  intro W base args ds gs before hval hW _ _ _ hL _ _
  exact contract H enc W base args ds gs before hval hW

theorem said : Rows.FnEchoMethodsSaid :=
  OpenClaim.holds_of_cond 9 Tryd.f9 rfl rfl rfl rfl rfl rfl rfl ⟨rfl, rfl, rfl, rfl, rfl⟩ rfl rfl rfl rfl rfl (by kernel_rfl) Tryd.func9 (by kernel_rfl)
    (of_decide_eq_true (by kernel_rfl)) (by unfold Func.isWrapper; first | (rw [if_pos (by decide +kernel)]; kernel_rfl) | (rw [if_neg (by decide +kernel)]; exact ⟨rfl, rfl⟩))
    (fun os started H enc _ F => by rw [OpenClaim.pre_eq_preRow]; exact lifted os started H enc F)

theorem plain (f : FuncId) (fn : Func) (hf : Tryd.pinned.checked.prog.funcNamed "pub-bridleway/laws.FnEchoMethods" = some f) (hfn : Tryd.pinned.checked.prog.funcs[f]? = some fn) :
    false = Tryd.pinned.checked.prog.looks [] ∧ ∀ (j : Nat) t, fn.params[j]? = some t → Tryd.pinned.checked.prog.wantsStandIn t = false := by
  obtain rfl : f = 9 := Option.some.inj ((show Tryd.prog.funcNamed "pub-bridleway/laws.FnEchoMethods" = some 9 by kernel_rfl).symm.trans hf) |>.symm
  obtain rfl : fn = Tryd.f9 := (Option.some.inj (Tryd.func9.symm.trans hfn)).symm
  refine ⟨by kernel_rfl, fun j t ht => ?_⟩
  have hm : t ∈ [28, 9, 9] := by have := Array.mem_of_getElem? ht; simpa [Tryd.params9] using this
  have hall : ∀ u ∈ [28, 9, 9], Tryd.prog.wantsStandIn u = false := by
    intro u hu
    simp only [List.mem_cons, List.not_mem_nil, or_false] at hu
    rcases hu with rfl | rfl | rfl
    · exact (show Tryd.prog.wantsStandIn 28 = false by kernel_rfl)
    · exact (show Tryd.prog.wantsStandIn 9 = false by kernel_rfl)
    · exact (show Tryd.prog.wantsStandIn 9 = false by kernel_rfl)
  exact hall t hm

theorem card : Rows.FnEchoMethodsCardSaid :=
  Claim7.holds_tied_plain_at .later [] _ _ _ _ said (fun _ h => by cases h) (by kernel_rfl) (fun _ h => by cases h) fnEchoMethods_row_tie rfl ⟨rfl, rfl⟩ (by kernel_rfl) rfl plain (by kernel_rfl)
end Go.Proofs.YtekclaobeccbdaaDoor.methods
