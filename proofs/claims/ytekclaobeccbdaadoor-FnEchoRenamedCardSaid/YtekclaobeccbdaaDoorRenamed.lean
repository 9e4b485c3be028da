/- The law FnEchoRenamed holds for every input: with other names for the parameters the router finds the same. -/
import Derived.Test.YtekclaobeccbdaaDoorBp
import Derived.Test.YtekclaobeccbdaaDoorBk
/- FnEchoRenamed. Printed by wip/mk_i10.py. -/
namespace Go.Proofs
open Go Bw
set_option maxRecDepth 20000

theorem f10_any (w : World) (ad : Option Addr) (cp : Nat) (Rs : List RB) (meth path nm : List UInt8) (hat : RtsAt w ad Rs) : Calls Tryd.prog 10 #[.slice ad Rs.length cp, S meth, S path, S nm] w fun e w' => e = .returned (.bool true) ∧ HF w (fun _ => False) [] w' := by
  refine enter (fun _ => False) [] Tryd.func10 rfl Tryd.ntmps10 rfl rfl (HF.start w _) fun c hc => ?_
  subst hc
  refine GC.seq ?_
  refine GC.reg ?_  -- region 0, echo.go:192
  refine G.v (V.asg rfl) rfl ?_
  refine G.nil ?_
  refine GC.seq ?_
  refine GC.seq ?_
  refine GC.reg ?_  -- region 1, echo.go:193
  refine G.v (V.mv rfl) rfl ?_
  refine G.callP Tryd.call23 rfl rfl (fun w1 hw1 => f23_any w1 ad cp Rs (fun i r hr => by obtain ⟨b, o, h1, h2⟩ := hat i r hr; exact ⟨b, o, h1, fun j v hj => hw1.cellOld (h2 j v hj) id⟩)) ?_
  refine G.v (V.not rfl) rfl ?_
  refine G.v (V.mv rfl) rfl ?_
  refine G.bc 20 rfl (fun h20 => ?_) (fun h20 => ?_)
  · refine G.sg rfl rfl rfl rfl rfl rfl ?_
    refine G.sg rfl rfl rfl rfl rfl rfl ?_
    refine G.sg rfl rfl rfl rfl rfl rfl ?_
    refine G.v (V.pickT rfl rfl) rfl ?_
    refine G.v (V.mv rfl) rfl ?_
    refine G.sg rfl rfl rfl rfl rfl rfl ?_
    refine G.sg rfl rfl rfl rfl rfl rfl ?_
    refine G.sg rfl rfl rfl rfl rfl rfl ?_
    refine G.v (V.pickT rfl rfl) rfl ?_
    refine G.v (V.mv rfl) rfl ?_
    refine G.sg rfl rfl rfl rfl rfl rfl ?_
    refine G.sg rfl rfl rfl rfl rfl rfl ?_
    refine G.sg rfl rfl rfl rfl rfl rfl ?_
    refine G.v (V.pickT rfl rfl) rfl ?_
    refine G.nil ?_
    refine GC.condT rfl ?_
    refine GC.seq ?_
    refine GC.reg ?_  -- region 2, echo.go:194
    refine G.v (V.asg rfl) rfl ?_
    refine G.nil ?_
    exact GC.ret1 rfl rfl fun w' hw' => ⟨rfl, hw'.sub (List.nil_sublist _)⟩
  · refine G.vg rfl rfl (V.mv rfl) rfl ?_
    refine G.vg rfl rfl (V.lenS Tryd.underlying9 rfl) rfl ?_
    refine G.vg rfl rfl (V.gt rfl rfl) rfl ?_
    refine G.v (V.pickF rfl rfl) rfl ?_
    refine G.v (V.mv rfl) rfl ?_
    refine G.bc 25 rfl (fun h25 => ?_) (fun h25 => ?_)
    · refine G.sg rfl rfl rfl rfl rfl rfl ?_
      refine G.sg rfl rfl rfl rfl rfl rfl ?_
      refine G.sg rfl rfl rfl rfl rfl rfl ?_
      refine G.v (V.pickT rfl rfl) rfl ?_
      refine G.v (V.mv rfl) rfl ?_
      refine G.sg rfl rfl rfl rfl rfl rfl ?_
      refine G.sg rfl rfl rfl rfl rfl rfl ?_
      refine G.sg rfl rfl rfl rfl rfl rfl ?_
      refine G.v (V.pickT rfl rfl) rfl ?_
      refine G.nil ?_
      refine GC.condT rfl ?_
      refine GC.seq ?_
      refine GC.reg ?_  -- region 2, echo.go:194
      refine G.v (V.asg rfl) rfl ?_
      refine G.nil ?_
      exact GC.ret1 rfl rfl fun w' hw' => ⟨rfl, hw'.sub (List.nil_sublist _)⟩
    · refine G.vg rfl rfl (V.mv rfl) rfl ?_
      refine G.vg rfl rfl (V.lenS Tryd.underlying9 rfl) rfl ?_
      refine G.vg rfl rfl (V.gt rfl rfl) rfl ?_
      refine G.v (V.pickF rfl rfl) rfl ?_
      refine G.v (V.mv rfl) rfl ?_
      refine G.bc 30 rfl (fun h30 => ?_) (fun h30 => ?_)
      · refine G.sg rfl rfl rfl rfl rfl rfl ?_
        refine G.sg rfl rfl rfl rfl rfl rfl ?_
        refine G.sg rfl rfl rfl rfl rfl rfl ?_
        refine G.v (V.pickT rfl rfl) rfl ?_
        refine G.nil ?_
        refine GC.condT rfl ?_
        refine GC.seq ?_
        refine GC.reg ?_  -- region 2, echo.go:194
        refine G.v (V.asg rfl) rfl ?_
        refine G.nil ?_
        exact GC.ret1 rfl rfl fun w' hw' => ⟨rfl, hw'.sub (List.nil_sublist _)⟩
      · refine G.vg rfl rfl (V.mv rfl) rfl ?_
        refine G.vg rfl rfl (V.lenS Tryd.underlying9 rfl) rfl ?_
        refine G.vg rfl rfl (V.gt rfl rfl) rfl ?_
        refine G.v (V.pickF rfl rfl) rfl ?_
        refine G.nil ?_
        refine GC.cond rfl (fun h34 => ?_) (fun h34 => ?_)
        · refine GC.seq ?_
          refine GC.reg ?_  -- region 2, echo.go:194
          refine G.v (V.asg rfl) rfl ?_
          refine G.nil ?_
          exact GC.ret1 rfl rfl fun w' hw' => ⟨rfl, hw'.sub (List.nil_sublist _)⟩
        refine GC.skip ?_
        refine GC.seq ?_
        refine GC.seq ?_
        refine GC.reg ?_  -- region 3, echo.go:196
        refine G.v (V.mv rfl) rfl ?_
        refine G.callW (fun v H2 => ∃ b : Bool, (b = true ↔ Right Rs) ∧ v = .bool b ∧ H2 = []) Tryd.call14 rfl rfl (fun w1 hw1 => ?_) ?_
        · refine (f14_any w1 ad cp Rs (fun i r hr => by obtain ⟨b, o, h1, h2⟩ := hat i r hr; exact ⟨b, o, h1, fun j v hj => hw1.cellOld (h2 j v hj) id⟩)).mono fun e w' ⟨b, h1, h2, h3⟩ => ⟨_, _, h2, ?_, b, h1, rfl, rfl⟩
          exact hw1.after0 h3 (fun e he => by cases he)
        rintro v H2 ⟨br, hbr, rfl, rfl⟩
        refine G.v (V.not rfl) rfl ?_
        refine G.v (V.mv rfl) rfl ?_
        refine G.bc 38 rfl (fun h38 => ?_) (fun h38 => ?_)
        · refine G.sg rfl rfl rfl rfl rfl rfl ?_
          refine G.sg rfl rfl rfl rfl rfl rfl ?_
          refine G.sg rfl rfl rfl rfl rfl rfl ?_
          refine G.v (V.pickT rfl rfl) rfl ?_
          refine G.v (V.mv rfl) rfl ?_
          refine G.sg rfl rfl rfl rfl rfl rfl ?_
          refine G.sg rfl rfl rfl rfl rfl rfl ?_
          refine G.sg rfl rfl rfl rfl rfl rfl ?_
          refine G.v (V.pickT rfl rfl) rfl ?_
          refine G.v (V.mv rfl) rfl ?_
          refine G.sg rfl rfl rfl rfl rfl rfl ?_
          refine G.sg rfl rfl rfl rfl rfl rfl ?_
          refine G.sg rfl rfl rfl rfl rfl rfl ?_
          refine G.v (V.pickT rfl rfl) rfl ?_
          refine G.v (V.mv rfl) rfl ?_
          refine G.sg rfl rfl rfl rfl rfl rfl ?_
          refine G.sg rfl rfl rfl rfl rfl rfl ?_
          refine G.v (V.pickT rfl rfl) rfl ?_
          refine G.v (V.mv rfl) rfl ?_
          refine G.sg rfl rfl rfl rfl rfl rfl ?_
          refine G.sg rfl rfl rfl rfl rfl rfl ?_
          refine G.v (V.pickT rfl rfl) rfl ?_
          refine G.v (V.mv rfl) rfl ?_
          refine G.sg rfl rfl rfl rfl rfl rfl ?_
          refine G.sg rfl rfl rfl rfl rfl rfl ?_
          refine G.v (V.pickT rfl rfl) rfl ?_
          refine G.nil ?_
          refine GC.condT rfl ?_
          refine GC.seq ?_
          refine GC.reg ?_  -- region 4, echo.go:197
          refine G.callP Tryd.call16 rfl rfl (fun w1 hw1 => f16_any w1) ?_
          refine G.v (V.asg rfl) rfl ?_
          refine G.nil ?_
          exact GC.ret1 rfl rfl fun w' hw' => ⟨rfl, hw'.sub (List.nil_sublist _)⟩
        · refine G.vg rfl rfl (V.mv rfl) rfl ?_
          refine G.vg rfl rfl (V.lenS Tryd.underlying9 rfl) rfl ?_
          refine G.vg rfl rfl (V.gt rfl rfl) rfl ?_
          refine G.v (V.pickF rfl rfl) rfl ?_
          refine G.v (V.mv rfl) rfl ?_
          refine G.bc 43 rfl (fun h43 => ?_) (fun h43 => ?_)
          · refine G.sg rfl rfl rfl rfl rfl rfl ?_
            refine G.sg rfl rfl rfl rfl rfl rfl ?_
            refine G.sg rfl rfl rfl rfl rfl rfl ?_
            refine G.v (V.pickT rfl rfl) rfl ?_
            refine G.v (V.mv rfl) rfl ?_
            refine G.sg rfl rfl rfl rfl rfl rfl ?_
            refine G.sg rfl rfl rfl rfl rfl rfl ?_
            refine G.sg rfl rfl rfl rfl rfl rfl ?_
            refine G.v (V.pickT rfl rfl) rfl ?_
            refine G.v (V.mv rfl) rfl ?_
            refine G.sg rfl rfl rfl rfl rfl rfl ?_
            refine G.sg rfl rfl rfl rfl rfl rfl ?_
            refine G.v (V.pickT rfl rfl) rfl ?_
            refine G.v (V.mv rfl) rfl ?_
            refine G.sg rfl rfl rfl rfl rfl rfl ?_
            refine G.sg rfl rfl rfl rfl rfl rfl ?_
            refine G.v (V.pickT rfl rfl) rfl ?_
            refine G.v (V.mv rfl) rfl ?_
            refine G.sg rfl rfl rfl rfl rfl rfl ?_
            refine G.sg rfl rfl rfl rfl rfl rfl ?_
            refine G.v (V.pickT rfl rfl) rfl ?_
            refine G.nil ?_
            refine GC.condT rfl ?_
            refine GC.seq ?_
            refine GC.reg ?_  -- region 4, echo.go:197
            refine G.callP Tryd.call16 rfl rfl (fun w1 hw1 => f16_any w1) ?_
            refine G.v (V.asg rfl) rfl ?_
            refine G.nil ?_
            exact GC.ret1 rfl rfl fun w' hw' => ⟨rfl, hw'.sub (List.nil_sublist _)⟩
          · refine G.vg rfl rfl (V.mv rfl) rfl ?_
            refine G.vg rfl rfl (V.lenS Tryd.underlying9 rfl) rfl ?_
            refine G.vg rfl rfl (V.gt rfl rfl) rfl ?_
            refine G.v (V.pickF rfl rfl) rfl ?_
            refine G.v (V.mv rfl) rfl ?_
            refine G.bc 48 rfl (fun h48 => ?_) (fun h48 => ?_)
            · refine G.sg rfl rfl rfl rfl rfl rfl ?_
              refine G.sg rfl rfl rfl rfl rfl rfl ?_
              refine G.sg rfl rfl rfl rfl rfl rfl ?_
              refine G.v (V.pickT rfl rfl) rfl ?_
              refine G.v (V.mv rfl) rfl ?_
              refine G.sg rfl rfl rfl rfl rfl rfl ?_
              refine G.sg rfl rfl rfl rfl rfl rfl ?_
              refine G.v (V.pickT rfl rfl) rfl ?_
              refine G.v (V.mv rfl) rfl ?_
              refine G.sg rfl rfl rfl rfl rfl rfl ?_
              refine G.sg rfl rfl rfl rfl rfl rfl ?_
              refine G.v (V.pickT rfl rfl) rfl ?_
              refine G.v (V.mv rfl) rfl ?_
              refine G.sg rfl rfl rfl rfl rfl rfl ?_
              refine G.sg rfl rfl rfl rfl rfl rfl ?_
              refine G.v (V.pickT rfl rfl) rfl ?_
              refine G.nil ?_
              refine GC.condT rfl ?_
              refine GC.seq ?_
              refine GC.reg ?_  -- region 4, echo.go:197
              refine G.callP Tryd.call16 rfl rfl (fun w1 hw1 => f16_any w1) ?_
              refine G.v (V.asg rfl) rfl ?_
              refine G.nil ?_
              exact GC.ret1 rfl rfl fun w' hw' => ⟨rfl, hw'.sub (List.nil_sublist _)⟩
            · refine G.vg rfl rfl (V.mv rfl) rfl ?_
              refine G.vg rfl rfl (V.lenS Tryd.underlying9 rfl) rfl ?_
              refine G.vg rfl rfl (V.gt rfl rfl) rfl ?_
              refine G.v (V.pickF rfl rfl) rfl ?_
              refine G.v (V.mv rfl) rfl ?_
              refine G.bc 53 rfl (fun h53 => ?_) (fun h53 => ?_)
              · refine G.sg rfl rfl rfl rfl rfl rfl ?_
                refine G.sg rfl rfl rfl rfl rfl rfl ?_
                refine G.v (V.pickT rfl rfl) rfl ?_
                refine G.v (V.mv rfl) rfl ?_
                refine G.sg rfl rfl rfl rfl rfl rfl ?_
                refine G.sg rfl rfl rfl rfl rfl rfl ?_
                refine G.v (V.pickT rfl rfl) rfl ?_
                refine G.v (V.mv rfl) rfl ?_
                refine G.sg rfl rfl rfl rfl rfl rfl ?_
                refine G.sg rfl rfl rfl rfl rfl rfl ?_
                refine G.v (V.pickT rfl rfl) rfl ?_
                refine G.nil ?_
                refine GC.condT rfl ?_
                refine GC.seq ?_
                refine GC.reg ?_  -- region 4, echo.go:197
                refine G.callP Tryd.call16 rfl rfl (fun w1 hw1 => f16_any w1) ?_
                refine G.v (V.asg rfl) rfl ?_
                refine G.nil ?_
                exact GC.ret1 rfl rfl fun w' hw' => ⟨rfl, hw'.sub (List.nil_sublist _)⟩
              · refine G.vg rfl rfl (V.mv rfl) rfl ?_
                have hnml : nm.length ≤ 20 := by have := of_decide_eq_false h53; omega
                refine G.gd rfl rfl ?_
                refine G.callP Tryd.call17 rfl rfl (fun w1 hw1 => f17_any w1 nm 47 (by omega)) ?_
                refine G.v (V.pickF rfl rfl) rfl ?_
                refine G.v (V.mv rfl) rfl ?_
                refine G.bc 57 rfl (fun h57 => ?_) (fun h57 => ?_)
                · refine G.sg rfl rfl rfl rfl rfl rfl ?_
                  refine G.sg rfl rfl rfl rfl rfl rfl ?_
                  refine G.v (V.pickT rfl rfl) rfl ?_
                  refine G.v (V.mv rfl) rfl ?_
                  refine G.sg rfl rfl rfl rfl rfl rfl ?_
                  refine G.sg rfl rfl rfl rfl rfl rfl ?_
                  refine G.v (V.pickT rfl rfl) rfl ?_
                  refine G.nil ?_
                  refine GC.condT rfl ?_
                  refine GC.seq ?_
                  refine GC.reg ?_  -- region 4, echo.go:197
                  refine G.callP Tryd.call16 rfl rfl (fun w1 hw1 => f16_any w1) ?_
                  refine G.v (V.asg rfl) rfl ?_
                  refine G.nil ?_
                  exact GC.ret1 rfl rfl fun w' hw' => ⟨rfl, hw'.sub (List.nil_sublist _)⟩
                · refine G.vg rfl rfl (V.mv rfl) rfl ?_
                  refine G.gd rfl rfl ?_
                  refine G.callP Tryd.call17 rfl rfl (fun w1 hw1 => f17_any w1 nm 92 (by omega)) ?_
                  refine G.v (V.pickF rfl rfl) rfl ?_
                  refine G.v (V.mv rfl) rfl ?_
                  refine G.bc 61 rfl (fun h61 => ?_) (fun h61 => ?_)
                  · refine G.sg rfl rfl rfl rfl rfl rfl ?_
                    refine G.sg rfl rfl rfl rfl rfl rfl ?_
                    refine G.v (V.pickT rfl rfl) rfl ?_
                    refine G.nil ?_
                    refine GC.condT rfl ?_
                    refine GC.seq ?_
                    refine GC.reg ?_  -- region 4, echo.go:197
                    refine G.callP Tryd.call16 rfl rfl (fun w1 hw1 => f16_any w1) ?_
                    refine G.v (V.asg rfl) rfl ?_
                    refine G.nil ?_
                    exact GC.ret1 rfl rfl fun w' hw' => ⟨rfl, hw'.sub (List.nil_sublist _)⟩
                  · refine G.vg rfl rfl (V.mv rfl) rfl ?_
                    refine G.gd rfl rfl ?_
                    refine G.callP Tryd.call17 rfl rfl (fun w1 hw1 => f17_any w1 nm 42 (by omega)) ?_
                    refine G.v (V.pickF rfl rfl) rfl ?_
                    refine G.nil ?_
                    refine GC.cond rfl (fun h64 => ?_) (fun h64 => ?_)
                    · refine GC.seq ?_
                      refine GC.reg ?_  -- region 4, echo.go:197
                      refine G.callP Tryd.call16 rfl rfl (fun w1 hw1 => f16_any w1) ?_
                      refine G.v (V.asg rfl) rfl ?_
                      refine G.nil ?_
                      exact GC.ret1 rfl rfl fun w' hw' => ⟨rfl, hw'.sub (List.nil_sublist _)⟩
                    refine GC.skip ?_
                    refine GC.seq ?_
                    have hRt : Right Rs := hbr.1 (by simpa using h38)
                    have hlen := hRt.1
                    have hpl : path.length ≤ 300 := by have := of_decide_eq_false h43; omega
                    have hn47 : (47 : UInt8) ∉ nm := of_decide_eq_false h57
                    refine GC.reg ?_  -- region 5, echo.go:199
                    refine G.v (V.asg rfl) rfl ?_
                    refine G.nil ?_
                    refine GC.seq ?_
                    refine GC.seq ?_
                    refine GC.reg ?_  -- region 6, echo.go:200
                    refine G.v (V.mv rfl) rfl ?_
                    refine G.v (V.lenL Tryd.underlying28 rfl) rfl ?_
                    refine G.v (V.mv rfl) rfl ?_
                    refine G.nil ?_
                    refine GC.block ?_
                    refine GC.loopJ (fun N fr' H' => ∃ j sv, j + N = Rs.length ∧ Own 23 3 sv j (((Rs.take j).map (ren nm)).flatMap RB.cells) H' ∧ Sub [(66, .slice ad Rs.length cp), (67, I (Rs.length : Nat)), (68, I ((j : Nat) : Int)), (0, .slice ad Rs.length cp), (1, S meth), (2, S path), (3, S nm), (9, sv)] fr') Rs.length
                      ⟨0, _, by omega, .nil, .cons rfl (.cons rfl (.cons rfl (.cons rfl (.cons rfl (.cons rfl (.cons rfl (.cons rfl .nil)))))))⟩ ?_
                    rintro N fr' H' ⟨j, sv, hj, howns, hs⟩ ih
                    refine GC.weak hs ?_
                    clear hs
                    obtain ⟨ad9, cp9, rfl⟩ := howns.slice
                    refine GC.seq ?_
                    refine GC.reg ?_  -- region 7, echo.go:200
                    refine G.v (V.lt rfl rfl) rfl ?_
                    refine G.nil ?_
                    refine GC.seq ?_
                    refine GC.condD rfl (fun h69 => ?_) (fun h69 => ?_)
                    · refine GC.skip ?_
                      refine GC.seq ?_
                      refine GC.block ?_
                      refine GC.seq ?_
                      have hlt : j < Rs.length := by omega
                      obtain ⟨r, hr⟩ : ∃ r, Rs[j]? = some r := ⟨_, List.getElem?_eq_getElem hlt⟩
                      have hR := hRt.2 r (List.mem_of_getElem? hr)
                      have heP := ePath_of hR.hd
                      have hrpl := hR.pl
                      have hnsl := prs_names_le r.p
                      have htk : Rs.take (j + 1) = Rs.take j ++ [r] := by rw [List.take_add_one, hr]; rfl
                      have hcell : ∃ ab o, ad = some ⟨ab, o, none⟩ ∧ ∀ k v, r.cells[k]? = some v → w.cell? ⟨ab, o + j * 3 + k, none⟩ = some v := hat j r hr
                      obtain ⟨ab, o, rfl, hcell⟩ := hcell
                      refine GC.reg ?_  -- region 8, echo.go:200
                      refine G.v (V.ia (i := j) Tryd.underlying28 Tryd.sizeOf23 rfl rfl hlt) rfl ?_
                      refine G.v (V.ldAC (cs := r.cells) Tryd.isAgg23 Tryd.sizeOf23 rfl hcell rfl id) rfl ?_
                      refine G.al Tryd.zeroValue23 rfl rfl (fun xb hxb => ?_)
                      refine G.stA (cs := r.cells) Tryd.sizeOf23 rfl rfl (fun v hv => ?_) .z rfl ?_
                      · simp only [RB.cells, List.mem_cons, List.not_mem_nil, or_false] at hv
                        rcases hv with rfl | rfl | rfl <;> rfl
                      refine G.nil ?_
                      refine GC.seq ?_
                      refine GC.turn (H' := ⟨xb, true, .row r.cells 23 (0, 0)⟩ :: H') (fun w1 hw1 => hw1) ?_
                      refine GC.reg ?_  -- region 9, echo.go:201
                      refine G.v (V.asg rfl) rfl ?_
                      refine G.nil ?_
                      refine GC.seq ?_
                      refine GC.seq ?_
                      refine GC.reg ?_  -- region 10, echo.go:202
                      refine G.v (V.fa F23_1 rfl) rfl ?_
                      refine G.v (V.ld (b := xb) (off := 0 + 1) (wf := true) (l := r.cells) (T := 23) (fz := (0, 0)) (v := S r.p) Tryd.isAgg9 rfl (.head _) rfl) rfl ?_
                      refine G.callW (fun v H2 => ∃ adn cpn Hq, v = .slice adn (prs r.p none).2.length cpn ∧ Own 9 1 (.slice adn (prs r.p none).2.length cpn) (prs r.p none).2.length ((prs r.p none).2.map S) Hq ∧ H2 = ⟨xb, true, .row r.cells 23 (0, 0)⟩ :: (Hq ++ H')) Tryd.call15 rfl rfl (fun w1 hw1 => ?_) ?_
                      · refine (f15_any w1 r.p (by omega)).mono fun e w' ⟨v, H1, h1, h2, h3⟩ => ?_
                        rw [heP] at h2
                        obtain ⟨adn, cpn, rfl⟩ := h2.slice
                        exact ⟨_, _, h1, (hw1.after0 h3 h2.w).perm List.perm_middle, adn, cpn, H1, rfl, h2, rfl⟩
                      rintro v H2 ⟨adn, cpn, Hq, rfl, hownq, rfl⟩
                      refine G.v (V.lenL Tryd.underlying24 rfl) rfl ?_
                      refine G.v (V.mv rfl) rfl ?_
                      refine G.nil ?_
                      refine GC.block ?_
                      refine GC.loopJ (fun M fr2 H2 => ∃ k sw Hw, k + M = (prs r.p none).2.length ∧ Own 9 1 sw k (((List.range k).map (renAt nm r.p)).map S) Hw ∧ Sub [(66, .slice (some ⟨ab, o, none⟩) Rs.length cp), (67, I (Rs.length : Nat)), (68, I ((j : Nat) : Int)), (0, .slice (some ⟨ab, o, none⟩) Rs.length cp), (1, S meth), (2, S path), (3, S nm), (9, .slice ad9 j cp9), (11, Pt xb 0), (74, .slice adn (prs r.p none).2.length cpn), (75, I ((prs r.p none).2.length : Nat)), (76, I ((k : Nat) : Int)), (12, sw)] fr2 ∧ H2 = ⟨xb, true, .row r.cells 23 (0, 0)⟩ :: (Hq ++ (Hw ++ H'))) (prs r.p none).2.length
                        ⟨0, _, [], by omega, .nil, .cons rfl (.cons rfl (.cons rfl (.cons rfl (.cons rfl (.cons rfl (.cons rfl (.cons rfl (.cons rfl (.cons rfl (.cons rfl (.cons rfl (.cons rfl .nil)))))))))))), rfl⟩ ?_
                      rintro M fr2 H2 ⟨k, sw, Hw, hk, howw, hs, rfl⟩ ih2
                      refine GC.weak hs ?_
                      clear hs
                      obtain ⟨adw, cpw, rfl⟩ := howw.slice
                      refine GC.seq ?_
                      refine GC.reg ?_  -- region 11, echo.go:202
                      refine G.v (V.lt rfl rfl) rfl ?_
                      refine G.nil ?_
                      refine GC.seq ?_
                      refine GC.condD rfl (fun h77 => ?_) (fun h77 => ?_)
                      · refine GC.skip ?_
                        refine GC.seq ?_
                        refine GC.block ?_
                        refine GC.seq ?_
                        have hkl : k < (prs r.p none).2.length := by omega
                        obtain ⟨bq, cq, sq, e1, hHq⟩ := hownq.at (i := k) hkl
                        simp only [Value.slice.injEq, true_and] at e1
                        obtain ⟨rfl, rfl⟩ := e1
                        obtain ⟨x, hx⟩ : ∃ x, (prs r.p none).2[k]? = some x := ⟨_, List.getElem?_eq_getElem hkl⟩
                        have hxd : (prs r.p none).2.getD k [] = x := by rw [List.getD_eq_getElem?_getD, hx]; rfl
                        refine GC.reg ?_  -- region 12, echo.go:202
                        refine G.v (V.ia (i := k) Tryd.underlying24 Tryd.sizeOf9 rfl rfl hkl) rfl ?_
                        refine G.v (V.ld (b := bq) (off := 0 + k * 1) (wf := true) (l := (prs r.p none).2.map S ++ sq) (T := 9) (fz := (0, 0)) (v := S x) Tryd.isAgg9 rfl (by rw [hHq]; simp) (by rw [nth_eq, List.getElem?_append_left (by rw [List.length_map]; omega), List.getElem?_map, Nat.mul_one, Nat.zero_add, hx]; rfl)) rfl ?_
                        refine G.v (V.asg rfl) rfl ?_
                        refine G.nil ?_
                        refine GC.seq ?_
                        refine GC.join (fun fr2 H2 => ∃ b : Bool, (b = true ↔ x = [42] ∧ isAll r.p = true ∧ k + 1 = (prs r.p none).2.length) ∧ Sub [(66, .slice (some ⟨ab, o, none⟩) Rs.length cp), (67, I (Rs.length : Nat)), (68, I ((j : Nat) : Int)), (0, .slice (some ⟨ab, o, none⟩) Rs.length cp), (1, S meth), (2, S path), (3, S nm), (9, .slice ad9 j cp9), (11, Pt xb 0), (74, .slice (some ⟨bq, 0, none⟩) (prs r.p none).2.length cpn), (75, I ((prs r.p none).2.length : Nat)), (76, I ((k : Nat) : Int)), (12, .slice adw k cpw), (96, .bool b)] fr2 ∧ ⟨xb, true, .row r.cells 23 (0, 0)⟩ :: (Hq ++ (Hw ++ H')) = H2) (fun J13 => ?_) ?_
                        · refine GC.reg ?_  -- region 13, echo.go:203
                          refine G.v (V.mv rfl) rfl ?_
                          refine G.v (V.eqS rfl rfl) rfl ?_
                          refine G.v (V.mv rfl) rfl ?_
                          refine G.bc 82 rfl (fun h82 => ?_) (fun h82 => ?_)
                          · refine G.vg rfl rfl (V.fa F23_1 rfl) rfl ?_
                            refine G.vg rfl rfl (V.ld (b := xb) (off := 0 + 1) (wf := true) (l := r.cells) (T := 23) (fz := (0, 0)) (v := S r.p) Tryd.isAgg9 rfl (.head _) rfl) rfl ?_
                            refine G.gd rfl rfl ?_
                            refine G.callP Tryd.call36 rfl rfl (fun w1 hw1 => f36_any w1 r.p (by omega)) ?_
                            refine G.v (V.pickT rfl rfl) rfl ?_
                            refine G.v (V.mv rfl) rfl ?_
                            refine G.bc 87 rfl (fun h87 => ?_) (fun h87 => ?_)
                            · refine G.vg rfl rfl (V.mv rfl) rfl ?_
                              refine G.vg rfl rfl (V.lenL Tryd.underlying24 rfl) rfl ?_
                              refine G.vg rfl rfl (V.fa F23_1 rfl) rfl ?_
                              refine G.vg rfl rfl (V.ld (b := xb) (off := 0 + 1) (wf := true) (l := r.cells) (T := 23) (fz := (0, 0)) (v := S r.p) Tryd.isAgg9 rfl (.head _) rfl) rfl ?_
                              refine G.gd rfl rfl ?_
                              refine G.callW (fun v H2 => (∃ a c, v = .slice a (prs r.p none).2.length c) ∧ H2 = ⟨xb, true, .row r.cells 23 (0, 0)⟩ :: (Hq ++ (Hw ++ H'))) Tryd.call15 rfl rfl (fun w1 hw1 => ?_) ?_
                              · refine (f15_any w1 r.p (by omega)).mono fun e w' ⟨v, H1, h1, h2, h3⟩ => ?_
                                rw [heP] at h2
                                obtain ⟨a3, c3, rfl⟩ := h2.slice
                                exact ⟨_, _, h1, (hw1.after0 h3 h2.w).sub (List.sublist_append_right _ _), ⟨a3, c3, rfl⟩, rfl⟩
                              rintro v H2 ⟨⟨a3, c3, rfl⟩, rfl⟩
                              refine G.vg rfl rfl (V.lenL Tryd.underlying24 rfl) rfl ?_
                              refine G.vg rfl rfl (V.subI (r := (((prs r.p none).2.length - 1 : Nat) : Int)) rfl rfl (by omega) (by omega) (by omega)) rfl ?_
                              refine G.vg rfl rfl (V.eqI rfl rfl) rfl ?_
                              refine G.v (V.pickT rfl rfl) rfl ?_
                              refine G.nil ?_
                              exact J13 _ _ ⟨_, ⟨fun h => ⟨of_decide_eq_true h82, h87, by have := of_decide_eq_true h; omega⟩, fun h => decide_eq_true (by omega)⟩, .cons rfl (.cons rfl (.cons rfl (.cons rfl (.cons rfl (.cons rfl (.cons rfl (.cons rfl (.cons rfl (.cons rfl (.cons rfl (.cons rfl (.cons rfl (.cons rfl .nil))))))))))))), rfl⟩
                            · refine G.sg rfl rfl rfl rfl rfl rfl ?_
                              refine G.sg rfl rfl rfl rfl rfl rfl ?_
                              refine G.sg rfl rfl rfl rfl rfl rfl ?_
                              refine G.sg rfl rfl rfl rfl rfl rfl ?_
                              refine G.sg rfl rfl rfl rfl rfl rfl ?_
                              refine G.sg rfl rfl rfl rfl rfl rfl ?_
                              refine G.sg rfl rfl rfl rfl rfl rfl ?_
                              refine G.sg rfl rfl rfl rfl rfl rfl ?_
                              refine G.v (V.pickF rfl rfl) rfl ?_
                              refine G.nil ?_
                              exact J13 _ _ ⟨false, ⟨fun h => (by cases h), fun h => by rw [h.2.1] at h87; cases h87⟩, .cons rfl (.cons rfl (.cons rfl (.cons rfl (.cons rfl (.cons rfl (.cons rfl (.cons rfl (.cons rfl (.cons rfl (.cons rfl (.cons rfl (.cons rfl (.cons rfl .nil))))))))))))), rfl⟩
                          · refine G.sg rfl rfl rfl rfl rfl rfl ?_
                            refine G.sg rfl rfl rfl rfl rfl rfl ?_
                            refine G.sg rfl rfl rfl rfl rfl rfl ?_
                            refine G.v (V.pickF rfl rfl) rfl ?_
                            refine G.v (V.mv rfl) rfl ?_
                            refine G.sg rfl rfl rfl rfl rfl rfl ?_
                            refine G.sg rfl rfl rfl rfl rfl rfl ?_
                            refine G.sg rfl rfl rfl rfl rfl rfl ?_
                            refine G.sg rfl rfl rfl rfl rfl rfl ?_
                            refine G.sg rfl rfl rfl rfl rfl rfl ?_
                            refine G.sg rfl rfl rfl rfl rfl rfl ?_
                            refine G.sg rfl rfl rfl rfl rfl rfl ?_
                            refine G.sg rfl rfl rfl rfl rfl rfl ?_
                            refine G.v (V.pickF rfl rfl) rfl ?_
                            refine G.nil ?_
                            exact J13 _ _ ⟨false, ⟨fun h => (by cases h), fun h => absurd h.1 (of_decide_eq_false h82)⟩, .cons rfl (.cons rfl (.cons rfl (.cons rfl (.cons rfl (.cons rfl (.cons rfl (.cons rfl (.cons rfl (.cons rfl (.cons rfl (.cons rfl (.cons rfl (.cons rfl .nil))))))))))))), rfl⟩
                        rintro fr2 H2 ⟨b13, hb13, hs13, rfl⟩
                        refine GC.weak hs13 ?_
                        clear hs13
                        refine GC.join (fun fr2 H2 => ∃ sw2 Hw2, Own 9 1 sw2 (k + 1) (((List.range (k + 1)).map (renAt nm r.p)).map S) Hw2 ∧ Sub [(66, .slice (some ⟨ab, o, none⟩) Rs.length cp), (67, I (Rs.length : Nat)), (68, I ((j : Nat) : Int)), (0, .slice (some ⟨ab, o, none⟩) Rs.length cp), (1, S meth), (2, S path), (3, S nm), (9, .slice ad9 j cp9), (11, Pt xb 0), (74, .slice (some ⟨bq, 0, none⟩) (prs r.p none).2.length cpn), (75, I ((prs r.p none).2.length : Nat)), (76, I ((k : Nat) : Int)), (12, sw2)] fr2 ∧ (∀ w1, HF w (fun _ => False) H2 w1 → HF w (fun _ => False) (⟨xb, true, .row r.cells 23 (0, 0)⟩ :: (Hq ++ (Hw2 ++ H'))) w1)) (fun K96 => ?_) ?_
                        · refine GC.cond rfl (fun h96 => ?_) (fun h96 => ?_)
                          · refine GC.reg ?_  -- region 14, echo.go:204
                            refine G.v (V.mv rfl) rfl ?_
                            refine G.bs (BS.one Tryd.underlying24 Tryd.sizeOf9 Tryd.zeroValue9 (v := S [42]) rfl) rfl rfl (fun tb htb => ?_)
                            refine G.app (i := Tryd.t9) (sz := 1) (by_ := 16) Tryd.underlying24 rfl rfl rfl rfl rfl rfl rfl howw (H' := ⟨tb, true, .row [S [42]] 9 (0, 0)⟩ :: ⟨xb, true, .row r.cells 23 (0, 0)⟩ :: (Hq ++ H')) ?_ (src_row (vs := [S [42]]) (r := []) (.head _)) rfl (by simp [Value.oneCell']) (by omega) (by omega) (by omega) rfl (fun sw2 Hw2 hown5 => ?_)
                            · have p0 := perm_idx [([⟨tb, true, .row [S [42]] 9 (0, 0)⟩, ⟨xb, true, .row r.cells 23 (0, 0)⟩] : SH), Hq, Hw, H'] [0, 1, 2, 3] [2, 0, 1, 3] (by decide)
                              exact List.Perm.trans (.of_eq (by simp)) (p0.trans (.of_eq (by simp)))
                            have hownw2 : Own 9 1 sw2 (k + 1) (((List.range (k + 1)).map (renAt nm r.p)).map S) Hw2 := by
                              rw [List.range_succ, List.map_append, List.map_append]
                              have e : renAt nm r.p k = [42] := by unfold renAt; rw [hxd]; exact if_pos (hb13.1 h96)
                              simp only [List.map_cons, List.map_nil, e]
                              exact hown5
                            refine G.v (V.asg rfl) rfl ?_
                            refine G.nil ?_
                            refine K96 _ _ ⟨sw2, Hw2, hownw2, .cons rfl (.cons rfl (.cons rfl (.cons rfl (.cons rfl (.cons rfl (.cons rfl (.cons rfl (.cons rfl (.cons rfl (.cons rfl (.cons rfl (.cons rfl .nil)))))))))))), fun w1 h => ?_⟩
                            have h2 := h.sub (List.sublist_cons_self _ _)
                            refine h2.perm ?_
                            have p0 := perm_idx [([⟨xb, true, .row r.cells 23 (0, 0)⟩] : SH), Hq, H', Hw2] [0, 1, 2, 3] [0, 1, 3, 2] (by decide)
                            exact List.Perm.trans (.of_eq (by simp)) (p0.trans (.of_eq (by simp)))
                          refine GC.reg ?_  -- region 15, echo.go:206
                          refine G.v (V.mv rfl) rfl ?_
                          refine G.v (V.mv rfl) rfl ?_
                          refine G.v (v := S (58 :: nm)) (V.cat (l := [58]) rfl rfl (by simp only [List.length_cons, List.length_nil]; omega)) rfl ?_
                          refine G.bs (BS.one Tryd.underlying24 Tryd.sizeOf9 Tryd.zeroValue9 (v := S (58 :: nm)) rfl) rfl rfl (fun tb htb => ?_)
                          refine G.app (i := Tryd.t9) (sz := 1) (by_ := 16) Tryd.underlying24 rfl rfl rfl rfl rfl rfl rfl howw (H' := ⟨tb, true, .row [S (58 :: nm)] 9 (0, 0)⟩ :: ⟨xb, true, .row r.cells 23 (0, 0)⟩ :: (Hq ++ H')) ?_ (src_row (vs := [S (58 :: nm)]) (r := []) (.head _)) rfl (by simp [Value.oneCell']) (by omega) (by omega) (by omega) rfl (fun sw2 Hw2 hown5 => ?_)
                          · have p0 := perm_idx [([⟨tb, true, .row [S (58 :: nm)] 9 (0, 0)⟩, ⟨xb, true, .row r.cells 23 (0, 0)⟩] : SH), Hq, Hw, H'] [0, 1, 2, 3] [2, 0, 1, 3] (by decide)
                            exact List.Perm.trans (.of_eq (by simp)) (p0.trans (.of_eq (by simp)))
                          have hownw2 : Own 9 1 sw2 (k + 1) (((List.range (k + 1)).map (renAt nm r.p)).map S) Hw2 := by
                            rw [List.range_succ, List.map_append, List.map_append]
                            have e : renAt nm r.p k = (58 :: nm) := by unfold renAt; rw [hxd]; exact if_neg (fun h => by rw [hb13.2 h] at h96; cases h96)
                            simp only [List.map_cons, List.map_nil, e]
                            exact hown5
                          refine G.v (V.asg rfl) rfl ?_
                          refine G.nil ?_
                          refine K96 _ _ ⟨sw2, Hw2, hownw2, .cons rfl (.cons rfl (.cons rfl (.cons rfl (.cons rfl (.cons rfl (.cons rfl (.cons rfl (.cons rfl (.cons rfl (.cons rfl (.cons rfl (.cons rfl .nil)))))))))))), fun w1 h => ?_⟩
                          have h2 := h.sub (List.sublist_cons_self _ _)
                          refine h2.perm ?_
                          have p0 := perm_idx [([⟨xb, true, .row r.cells 23 (0, 0)⟩] : SH), Hq, H', Hw2] [0, 1, 2, 3] [0, 1, 3, 2] (by decide)
                          exact List.Perm.trans (.of_eq (by simp)) (p0.trans (.of_eq (by simp)))
                        rintro fr2 H2 ⟨sw2, Hw2, hownw2, hs96, hH96⟩
                        refine GC.weak hs96 ?_
                        clear hs96
                        refine GC.turn hH96 ?_
                        refine GC.inBlock ?_
                        refine GC.reg ?_  -- region 16, echo.go:202
                        refine G.v (V.addI (r := ((k + 1 : Nat) : Int)) rfl rfl rfl (by omega) (by omega)) rfl ?_
                        refine G.v (V.mv rfl) rfl ?_
                        refine G.nil ?_
                        exact ih2 (M - 1) _ _ (by omega) ⟨k + 1, _, Hw2, by omega, hownw2, .cons rfl (.cons rfl (.cons rfl (.cons rfl (.cons rfl (.cons rfl (.cons rfl (.cons rfl (.cons rfl (.cons rfl (.cons rfl (.cons rfl (.cons rfl .nil)))))))))))), rfl⟩
                      refine GC.exit rfl ?_
                      refine GC.seq ?_
                      have hke : k = (prs r.p none).2.length := by omega
                      have howw2 : Own 9 1 (.slice adw (renW nm r.p).length cpw) (renW nm r.p).length ((renW nm r.p).map S) Hw := by
                        rw [renW_len, ← hke]
                        have : renW nm r.p = (List.range k).map (renAt nm r.p) := by rw [hke]; rfl
                        rw [this]; exact howw
                      have hcpw := howw2.le
                      have hrwl := renW_len nm r.p
                      have hrwb : ∀ x ∈ (renW nm r.p), x.length ≤ 100000 := fun x hx => by
                        unfold renW at hx
                        obtain ⟨i, _, rfl⟩ := List.mem_map.1 hx
                        unfold renAt
                        split
                        · simp
                        · simp only [List.length_cons]; omega
                      refine GC.reg ?_  -- region 17, echo.go:209
                      refine G.v (V.fa F23_1 rfl) rfl ?_
                      refine G.v (V.ld (b := xb) (off := 0 + 1) (wf := true) (l := r.cells) (T := 23) (fz := (0, 0)) (v := S r.p) Tryd.isAgg9 rfl (.head _) rfl) rfl ?_
                      refine G.v (V.mv rfl) rfl ?_
                      refine G.callP (vs := [S r.p, .slice adw (renW nm r.p).length cpw]) Tryd.call20 (by rw [hrwl, ← hke]; rfl) rfl (fun w1 hw1 => f20_any w1 r.p adw cpw (renW nm r.p) (howw2.tx fun e he => hw1.has e (by simp [he])) (by omega) hrwb (by omega) hcpw) ?_
                      refine G.v (V.fa F23_1 rfl) rfl ?_
                      refine G.st Tryd.sizeOf9 rfl rfl rfl .z rfl rfl ?_
                      refine G.nil ?_
                      refine GC.turn (H' := ⟨xb, true, .row (ren nm r).cells 23 (0, 0)⟩ :: (Hq ++ (Hw ++ H'))) (fun w1 hw1 => hw1) ?_
                      refine GC.reg ?_  -- region 18, echo.go:210
                      refine G.v (V.mv rfl) rfl ?_
                      refine G.v (V.ldA (cs := (ren nm r).cells) Tryd.isAgg23 Tryd.sizeOf23 rfl (.head _) rfl rfl) rfl ?_
                      refine G.bs (BS.three (a := S r.m) (b := S (ren nm r).p) (c := S r.nm) Tryd.underlying28 Tryd.sizeOf23 Tryd.zeroValue23) rfl rfl (fun tb htb => ?_)
                      refine G.app (i := Tryd.t23) (sz := 3) (by_ := 48) Tryd.underlying28 rfl rfl rfl rfl rfl rfl rfl howns (H' := ⟨tb, true, .row (ren nm r).cells 23 (0, 0)⟩ :: ⟨xb, true, .row (ren nm r).cells 23 (0, 0)⟩ :: (Hq ++ Hw)) ?_ (src_row (vs := (ren nm r).cells) (r := []) (.head _)) rfl (fun v hv => ?_) (by omega) (by omega) (by omega) rfl (fun sv2 Hs2 hown5 => ?_)
                      · have p0 := perm_idx [([⟨tb, true, .row (ren nm r).cells 23 (0, 0)⟩, ⟨xb, true, .row (ren nm r).cells 23 (0, 0)⟩] : SH), Hq, Hw, H'] [0, 1, 2, 3] [3, 0, 1, 2] (by decide)
                        exact List.Perm.trans (.of_eq (by simp [RB.cells, ren])) (p0.trans (.of_eq (by simp)))
                      · simp only [RB.cells, List.mem_cons, List.not_mem_nil, or_false] at hv
                        rcases hv with rfl | rfl | rfl <;> rfl
                      have hown6 : Own 23 3 sv2 (j + 1) (((Rs.take (j + 1)).map (ren nm)).flatMap RB.cells) Hs2 := by
                        rw [htk, List.map_append, List.flatMap_append]
                        have e : ([r].map (ren nm)).flatMap RB.cells = (ren nm r).cells := by simp
                        rw [e]; exact hown5
                      refine G.v (V.asg rfl) rfl ?_
                      refine G.nil ?_
                      refine GC.inBlock ?_
                      refine GC.reg ?_  -- region 19, echo.go:200
                      refine G.v (V.addI (r := ((j + 1 : Nat) : Int)) rfl rfl rfl (by omega) (by omega)) rfl ?_
                      refine G.v (V.mv rfl) rfl ?_
                      refine G.nil ?_
                      exact GC.weakH (List.sublist_append_right (⟨tb, true, .row (ren nm r).cells 23 (0, 0)⟩ :: ⟨xb, true, .row (ren nm r).cells 23 (0, 0)⟩ :: (Hq ++ Hw)) Hs2) (ih (N - 1) _ _ (by omega) ⟨j + 1, _, by omega, hown6, .cons rfl (.cons rfl (.cons rfl (.cons rfl (.cons rfl (.cons rfl (.cons rfl (.cons rfl .nil)))))))⟩)
                    refine GC.exit rfl ?_
                    refine GC.seq ?_
                    refine GC.seq ?_
                    have hje : j = Rs.length := by omega
                    have hl2 : (Rs.map (ren nm)).length = Rs.length := List.length_map _
                    have hown9 : Own 23 3 (.slice ad9 (Rs.map (ren nm)).length cp9) (Rs.map (ren nm)).length ((Rs.map (ren nm)).flatMap RB.cells) H' := by
                      rw [hl2, ← hje]
                      have e : Rs.take j = Rs := List.take_of_length_le (by omega)
                      rw [e] at howns; exact howns
                    refine GC.reg ?_  -- region 20, echo.go:212
                    refine G.v (V.mv rfl) rfl ?_
                    refine G.callW (vs := [.slice ad9 (Rs.map (ren nm)).length cp9]) (fun v H2 => ∃ b : Bool, (b = true ↔ Right (Rs.map (ren nm))) ∧ v = .bool b ∧ H' = H2) Tryd.call14 (by rw [hl2, ← hje]; rfl) rfl (fun w1 hw1 => ?_) ?_
                    · refine (f14_any w1 ad9 cp9 (Rs.map (ren nm)) (rts_own hw1 (fun e he => he) hown9)).mono fun e w' ⟨b, h1, h2, h3⟩ => ⟨_, _, h2, ?_, b, h1, rfl, rfl⟩
                      exact hw1.after0 h3 (fun e he => by cases he)
                    rintro v H2 ⟨br2, hbr2, rfl, rfl⟩
                    refine G.v (V.not rfl) rfl ?_
                    refine G.nil ?_
                    refine GC.cond rfl (fun h118 => ?_) (fun h118 => ?_)
                    · refine GC.seq ?_
                      refine GC.reg ?_  -- region 21, echo.go:213
                      refine G.callP Tryd.call16 rfl rfl (fun w1 hw1 => f16_any w1) ?_
                      refine G.v (V.asg rfl) rfl ?_
                      refine G.nil ?_
                      exact GC.ret1 rfl rfl fun w' hw' => ⟨rfl, hw'.sub (List.nil_sublist _)⟩
                    refine GC.skip ?_
                    refine GC.seq ?_
                    have hRt2 : Right (Rs.map (ren nm)) := hbr2.1 (by simpa using h118)
                    have hlen2 := hRt2.1
                    refine GC.reg ?_  -- region 22, echo.go:215
                    refine G.v (V.mv rfl) rfl ?_
                    refine G.callW (fun v H2 => ∃ Hr, Own 51 3 v Rs.length (Rs.flatMap RB.cells) Hr ∧ H2 = Hr ++ (H')) Tryd.call19 rfl rfl (fun w1 hw1 => ?_) ?_
                    · exact (f19_any w1 ad cp Rs (fun i r hr => by obtain ⟨b, o, h1, h2⟩ := hat i r hr; exact ⟨b, o, h1, fun j v hj => hw1.cellOld (h2 j v hj) id⟩) (by omega)).mono fun e w' ⟨v, Hs, h1, h2, h3⟩ => ⟨v, _, h1, hw1.after0 h3 h2.w, Hs, h2, rfl⟩
                    rintro v H2 ⟨Hr, hownr1, rfl⟩
                    obtain ⟨adr1, cpr1, rfl⟩ := hownr1.slice
                    refine G.v (V.mv rfl) rfl ?_
                    refine G.v (V.mv rfl) rfl ?_
                    refine G.callW (fun v H2 => ∃ (num : Int) (p : List UInt8) (ns vs : List (List UInt8)) (al : List UInt8) (adn adv : Option Addr) (cpn cpv : Nat) (Hn Hv : SH), FRes Rs meth (visK (KS Rs) meth 202 [] path [] none) num p ns vs al ∧ ns.length ≤ 200 ∧ v = .agg #[I num, S p, .slice adn ns.length cpn, .slice adv vs.length cpv, S al] ∧ Own 9 1 (.slice adn ns.length cpn) ns.length (ns.map S) Hn ∧ Own 9 1 (.slice adv vs.length cpv) vs.length (vs.map S) Hv ∧ H2 = (Hn ++ Hv) ++ (H')) Tryd.call18 rfl rfl (fun w1 hw1 => ?_) ?_
                    · refine (f18_any w1 adr1 cpr1 Rs meth path (rts_own hw1 (fun e he => List.mem_append_left _ he) hownr1) (fun x h => (hRt.2 x h).ok) hRt.1 (by omega)).mono fun e w' ⟨num, p, ns, vs, al, vn, vv, Hn, Hv, h1, h1', h2, h3, h4, h5⟩ => ?_
                      obtain ⟨adn, cpn, rfl⟩ := h3.slice
                      obtain ⟨adv, cpv, rfl⟩ := h4.slice
                      refine ⟨_, _, h2, ?_, num, p, ns, vs, al, adn, adv, cpn, cpv, Hn, Hv, h1, h1', rfl, h3, h4, rfl⟩
                      have := hw1.after0 h5 (fun e he => by
                        rcases List.mem_append.1 he with he | he
                        · exact h3.w e he
                        · exact h4.w e he)
                      exact this.sub ((List.Sublist.refl _).append (List.sublist_append_right _ _))
                    rintro v H2 ⟨num1, p1, ns1, vs1, al1, adn1, adv1, cpn1, cpv1, Hn1, Hv1, hfr1, hnl1, rfl, hownn1, hownv1, rfl⟩
                    refine G.v (V.mv rfl) rfl ?_
                    refine G.callW (vs := [.slice ad9 (Rs.map (ren nm)).length cp9]) (fun v H2 => ∃ Hr, Own 51 3 v (Rs.map (ren nm)).length ((Rs.map (ren nm)).flatMap RB.cells) Hr ∧ H2 = Hr ++ (((Hn1 ++ Hv1) ++ H'))) Tryd.call19 (by rw [hl2, ← hje]; rfl) rfl (fun w1 hw1 => ?_) ?_
                    · exact (f19_any w1 ad9 cp9 (Rs.map (ren nm)) (rts_own hw1 (fun e he => List.mem_append_right _ he) hown9) (by omega)).mono fun e w' ⟨v, Hs, h1, h2, h3⟩ => ⟨v, _, h1, hw1.after0 h3 h2.w, Hs, h2, rfl⟩
                    rintro v H2 ⟨Hr, hownr2, rfl⟩
                    obtain ⟨adr2, cpr2, rfl⟩ := hownr2.slice
                    refine G.v (V.mv rfl) rfl ?_
                    refine G.v (V.mv rfl) rfl ?_
                    refine G.callW (fun v H2 => ∃ (num : Int) (p : List UInt8) (ns vs : List (List UInt8)) (al : List UInt8) (adn adv : Option Addr) (cpn cpv : Nat) (Hn Hv : SH), FRes (Rs.map (ren nm)) meth (visK (KS (Rs.map (ren nm))) meth 202 [] path [] none) num p ns vs al ∧ ns.length ≤ 200 ∧ v = .agg #[I num, S p, .slice adn ns.length cpn, .slice adv vs.length cpv, S al] ∧ Own 9 1 (.slice adn ns.length cpn) ns.length (ns.map S) Hn ∧ Own 9 1 (.slice adv vs.length cpv) vs.length (vs.map S) Hv ∧ H2 = (Hn ++ Hv) ++ (((Hn1 ++ Hv1) ++ H'))) Tryd.call18 rfl rfl (fun w1 hw1 => ?_) ?_
                    · refine (f18_any w1 adr2 cpr2 (Rs.map (ren nm)) meth path (rts_own hw1 (fun e he => List.mem_append_left _ he) hownr2) (fun x h => (hRt2.2 x h).ok) hRt2.1 (by omega)).mono fun e w' ⟨num, p, ns, vs, al, vn, vv, Hn, Hv, h1, h1', h2, h3, h4, h5⟩ => ?_
                      obtain ⟨adn, cpn, rfl⟩ := h3.slice
                      obtain ⟨adv, cpv, rfl⟩ := h4.slice
                      refine ⟨_, _, h2, ?_, num, p, ns, vs, al, adn, adv, cpn, cpv, Hn, Hv, h1, h1', rfl, h3, h4, rfl⟩
                      have := hw1.after0 h5 (fun e he => by
                        rcases List.mem_append.1 he with he | he
                        · exact h3.w e he
                        · exact h4.w e he)
                      exact this.sub ((List.Sublist.refl _).append (List.sublist_append_right _ _))
                    rintro v H2 ⟨num2, p2, ns2, vs2, al2, adn2, adv2, cpn2, cpv2, Hn2, Hv2, hfr2, hnl2, rfl, hownn2, hownv2, rfl⟩
                    refine G.al Tryd.zeroValue33 rfl rfl (fun b15 hb15 => ?_)
                    refine G.al Tryd.zeroValue33 rfl rfl (fun b16 hb16 => ?_)
                    refine G.stA (cs := [I num1, S p1, .slice adn1 ns1.length cpn1, .slice adv1 vs1.length cpv1, S al1]) Tryd.sizeOf33 rfl rfl (fun v hv => ?_) (.s .z) rfl ?_
                    · simp only [List.mem_cons, List.not_mem_nil, or_false] at hv
                      rcases hv with rfl | rfl | rfl | rfl | rfl <;> rfl
                    refine G.stA (cs := [I num2, S p2, .slice adn2 ns2.length cpn2, .slice adv2 vs2.length cpv2, S al2]) Tryd.sizeOf33 rfl rfl (fun v hv => ?_) .z rfl ?_
                    · simp only [List.mem_cons, List.not_mem_nil, or_false] at hv
                      rcases hv with rfl | rfl | rfl | rfl | rfl <;> rfl
                    refine G.nil ?_
                    refine GC.seq ?_
                    refine GC.turn (H' := (⟨b16, true, .row [I num2, S p2, .slice adn2 ns2.length cpn2, .slice adv2 vs2.length cpv2, S al2] 33 (0, 0)⟩ :: ⟨b15, true, .row [I num1, S p1, .slice adn1 ns1.length cpn1, .slice adv1 vs1.length cpv1, S al1] 33 (0, 0)⟩ :: ((Hn2 ++ Hv2) ++ ((Hn1 ++ Hv1) ++ H')))) (fun w1 hw1 => hw1) ?_
                    obtain ⟨hvs, hal, hcase⟩ := fresMap (KS_ren hn47 hRt) (fun k hk => ren_cnt hn47 (hRt.2 k.1 (List.mem_of_getElem? hk))) hfr1 hfr2
                    have hnn : num1 = num2 ∧ ns1.length = ns2.length := by
                      rcases hcase with ⟨rb, n, hrb, h1, h2, h3, h4, h5, h6⟩ | ⟨h1, _, h2, h3⟩
                      · refine ⟨by rw [h1, h2], ?_⟩
                        rw [h5, h6, h3, h4]
                        exact (ren_cnt hn47 (hRt.2 rb (List.mem_of_getElem? hrb))).symm
                      · exact ⟨h1, by rw [h2, h3]⟩
                    obtain ⟨hnum, hnsl⟩ := hnn
                    have hal1 := fres_al hRt hfr1
                    have hal2 := fres_al hRt2 hfr2
                    have hvl1 := fres_vl hRt hfr1
                    have hvl2 := fres_vl hRt2 hfr2
                    refine GC.reg ?_  -- region 23, echo.go:216
                    refine G.callP Tryd.call16 rfl rfl (fun w1 hw1 => f16_any w1) ?_
                    refine G.v (V.mv rfl) rfl ?_
                    refine G.bc 131 rfl (fun h131 => ?_) (fun h131 => ?_)
                    · refine G.vg rfl rfl (V.fa F33_0 rfl) rfl ?_
                      refine G.vg rfl rfl (V.ld (b := b15) (off := 0 + 0) (wf := true) (l := [I num1, S p1, .slice adn1 ns1.length cpn1, .slice adv1 vs1.length cpv1, S al1]) (T := 33) (fz := (0, 0)) (v := I num1) Tryd.isAgg3 rfl (.tail _ (.head _)) rfl) rfl ?_
                      refine G.vg rfl rfl (V.fa F33_0 rfl) rfl ?_
                      refine G.vg rfl rfl (V.ld (b := b16) (off := 0 + 0) (wf := true) (l := [I num2, S p2, .slice adn2 ns2.length cpn2, .slice adv2 vs2.length cpv2, S al2]) (T := 33) (fz := (0, 0)) (v := I num2) Tryd.isAgg3 rfl (.head _) rfl) rfl ?_
                      refine G.vg rfl rfl (v := .bool true) (eqI_tt hnum (V.eqI rfl rfl)) rfl ?_
                      refine G.v (V.pickT rfl rfl) rfl ?_
                      refine G.v (V.mv rfl) rfl ?_
                      refine G.bc 138 rfl (fun h138 => ?_) (fun h138 => ?_)
                      · refine G.vg rfl rfl (V.fa F33_3 rfl) rfl ?_
                        refine G.vg rfl rfl (V.ld (b := b15) (off := 0 + 3) (wf := true) (l := [I num1, S p1, .slice adn1 ns1.length cpn1, .slice adv1 vs1.length cpv1, S al1]) (T := 33) (fz := (0, 0)) (v := .slice adv1 vs1.length cpv1) Tryd.isAgg24 rfl (.tail _ (.head _)) rfl) rfl ?_
                        refine G.vg rfl rfl (V.fa F33_3 rfl) rfl ?_
                        refine G.vg rfl rfl (V.ld (b := b16) (off := 0 + 3) (wf := true) (l := [I num2, S p2, .slice adn2 ns2.length cpn2, .slice adv2 vs2.length cpv2, S al2]) (T := 33) (fz := (0, 0)) (v := .slice adv2 vs2.length cpv2) Tryd.isAgg24 rfl (.head _) rfl) rfl ?_
                        refine G.gd rfl rfl ?_
                        refine G.callW (fun v H2 => v = .bool true ∧ H2 = (⟨b16, true, .row [I num2, S p2, .slice adn2 ns2.length cpn2, .slice adv2 vs2.length cpv2, S al2] 33 (0, 0)⟩ :: ⟨b15, true, .row [I num1, S p1, .slice adn1 ns1.length cpn1, .slice adv1 vs1.length cpv1, S al1] 33 (0, 0)⟩ :: ((Hn2 ++ Hv2) ++ ((Hn1 ++ Hv1) ++ H')))) Tryd.call22 rfl rfl (fun w1 hw1 => ?_) ?_
                        · exact (f22_any w1 adv1 adv2 cpv1 cpv2 vs1 vs2 (hownv1.tx fun e he => hw1.has e (by simp [he])) (hownv2.tx fun e he => hw1.has e (by simp [he])) (by omega) (by omega)).mono fun e w' ⟨h1, h2⟩ => ⟨_, _, h1, hw1.after0 h2 (fun e he => by cases he), by rw [decide_eq_true hvs], rfl⟩
                        rintro v H2 ⟨rfl, rfl⟩
                        refine G.v (V.pickT rfl rfl) rfl ?_
                        refine G.v (V.mv rfl) rfl ?_
                        refine G.bc 145 rfl (fun h145 => ?_) (fun h145 => ?_)
                        · refine G.vg rfl rfl (V.fa F33_2 rfl) rfl ?_
                          refine G.vg rfl rfl (V.ld (b := b15) (off := 0 + 2) (wf := true) (l := [I num1, S p1, .slice adn1 ns1.length cpn1, .slice adv1 vs1.length cpv1, S al1]) (T := 33) (fz := (0, 0)) (v := .slice adn1 ns1.length cpn1) Tryd.isAgg24 rfl (.tail _ (.head _)) rfl) rfl ?_
                          refine G.vg rfl rfl (V.lenL Tryd.underlying24 rfl) rfl ?_
                          refine G.vg rfl rfl (V.fa F33_2 rfl) rfl ?_
                          refine G.vg rfl rfl (V.ld (b := b16) (off := 0 + 2) (wf := true) (l := [I num2, S p2, .slice adn2 ns2.length cpn2, .slice adv2 vs2.length cpv2, S al2]) (T := 33) (fz := (0, 0)) (v := .slice adn2 ns2.length cpn2) Tryd.isAgg24 rfl (.head _) rfl) rfl ?_
                          refine G.vg rfl rfl (V.lenL Tryd.underlying24 rfl) rfl ?_
                          refine G.vg rfl rfl (v := .bool true) (eqI_tt (by omega) (V.eqI rfl rfl)) rfl ?_
                          refine G.v (V.pickT rfl rfl) rfl ?_
                          refine G.v (V.mv rfl) rfl ?_
                          refine G.bc 154 rfl (fun h154 => ?_) (fun h154 => ?_)
                          · refine G.vg rfl rfl (V.ldA (cs := [I num1, S p1, .slice adn1 ns1.length cpn1, .slice adv1 vs1.length cpv1, S al1]) Tryd.isAgg33 Tryd.sizeOf33 rfl (.tail _ (.head _)) rfl rfl) rfl ?_
                            refine G.vg rfl rfl (V.ldA (cs := [I num2, S p2, .slice adn2 ns2.length cpn2, .slice adv2 vs2.length cpv2, S al2]) Tryd.isAgg33 Tryd.sizeOf33 rfl (.head _) rfl rfl) rfl ?_
                            refine G.gd rfl rfl ?_
                            refine G.callW (fun v H2 => v = .bool true ∧ H2 = (⟨b16, true, .row [I num2, S p2, .slice adn2 ns2.length cpn2, .slice adv2 vs2.length cpv2, S al2] 33 (0, 0)⟩ :: ⟨b15, true, .row [I num1, S p1, .slice adn1 ns1.length cpn1, .slice adv1 vs1.length cpv1, S al1] 33 (0, 0)⟩ :: ((Hn2 ++ Hv2) ++ ((Hn1 ++ Hv1) ++ H')))) Tryd.call37 rfl rfl (fun w1 hw1 => ?_) ?_
                            · exact (f37_any w1 _ _ _ _ al1 al2 _ _ _ _ _ _ _ _ _ _ _ _ (by omega) (by omega)).mono fun e w' ⟨h1, h2⟩ => ⟨_, _, h1, hw1.after0 h2 (fun e he => by cases he), by rw [decide_eq_true hal], rfl⟩
                            rintro v H2 ⟨rfl, rfl⟩
                            refine G.v (V.pickT rfl rfl) rfl ?_
                            refine G.v (V.asg rfl) rfl ?_
                            refine G.nil ?_
                            exact GC.ret1 rfl rfl fun w' hw' => ⟨rfl, hw'.sub (List.nil_sublist _)⟩
                          · exact absurd h154 (by decide)
                        · exact absurd h145 (by decide)
                      · exact absurd h138 (by decide)
                    · exact absurd h131 (by decide)
end Go.Proofs

/- A law's card out of its walk: FnEchoRenamed. -/
set_option maxRecDepth 100000
namespace Go.Proofs.YtekclaobeccbdaaDoor.renamed
open Go Bw Go.ChangeShapes Go.WideShapes Go.ChangeAt Go.RowKit

/-- what bytes.ErrTooLarge is laid as -/
abbrev tooS : ByteArray := { data := #[98, 121, 116, 101, 115, 46, 66, 117, 102, 102, 101, 114, 58, 32, 116, 111, 111, 32, 108, 97, 114, 103, 101] }
noncomputable def low : Nat := (World.holding Tryd.prog default ⟨#[], #[], []⟩).heap.size
noncomputable def laidWorld (os : Os) : World :=
  let w0 := World.holding Tryd.prog os ⟨#[.cells #[.string tooS] 217], #[], []⟩
  { w0 with heap := w0.heap.modify 1 fun
      | .cells _ t frozen => .cells #[.iface 200 (.pointer (some ⟨low, 0, none⟩))] t frozen
      | o => o }

theorem contract (H : Type) (enc : TypeId × Value → H) (W : World) (base : Nat) (args : Array Value) (ds gs : List (DataW H)) (before : List MemPlace)
    (hval : ∀ (j : Nat) t v, Tryd.f10.params[j]? = some t → args[j]? = some v → Value.okWide Tryd.prog W .any base t v)
    (hW : DataW.Whole enc Tryd.prog Tryd.f10.params.toList Rows.fnEchoRenamedSpec.vars false W args.toList ds gs before) :
    Calls Tryd.prog 10 args W fun e W' => ∃ v, e = .returned v ∧ Rows.fnEchoRenamedSpec.post enc Tryd.prog Tryd.f10 false true false false W args v W' := by
  have hW' := hW
  obtain ⟨p, q, hA0, hV, rfl, hfz, hnd⟩ := hW
  have hA : DataW.TrodAll enc Tryd.prog W 0 (fun _ => true) true [28, 9, 9, 9] args.toList ds p := hA0
  obtain ⟨v0, vs0, d0, ds0, p0, q0, hargs, rfl, rfl, h0, r0⟩ := trodAll_cons hA
  obtain ⟨v1, vs_1, d1, ds1, p1, q1, rfl, rfl, rfl, h1, r1⟩ := trodAll_cons r0
  obtain ⟨v2, vs_2, d2, ds2, p2, q2, rfl, rfl, rfl, h2, r2⟩ := trodAll_cons r1
  obtain ⟨v3, vs_3, d3, ds3, p3, q3, rfl, rfl, rfl, h3, r3⟩ := trodAll_cons r2
  obtain ⟨rfl, rfl, rfl⟩ := trodAll_nil r3
  obtain rfl : args = #[v0, v1, v2, v3] := by cases args; simp_all
  obtain ⟨ad0, cp0, Rs, rfl, hcp0, hat0⟩ := open_rts Tryd.underlying28 Tryd.underlying23 tryd_c23 ⟨rfl, rfl⟩ ⟨rfl, rfl⟩ ⟨rfl, rfl⟩ Tryd.underlying9 tryd_c9 (hval 0 28 v0 rfl rfl) h0
  obtain ⟨l1, rfl⟩ := open_str Tryd.underlying9 (hval 1 9 v1 rfl rfl)
  obtain ⟨l2, rfl⟩ := open_str Tryd.underlying9 (hval 2 9 v2 rfl rfl)
  obtain ⟨l3, rfl⟩ := open_str Tryd.underlying9 (hval 3 9 v3 rfl rfl)
  refine (f10_any W ad0 cp0 Rs l1 l2 l3 hat0).mono fun e W' ⟨he, hf⟩ => ⟨_, he, ?_⟩
  refine post_law hW' rfl rfl ?_ (by kernel_rfl) (below_of hf)
  obtain ⟨rfl, rfl⟩ := trodVars_none hV
  rfl

theorem laid_met (os : Os) : laidMet Tryd.prog Rows.fnEchoRenamedRow.laid ((laidWorld os).forCall (fun _ _ => 0) ⟨#[], #[.slice none 0 0, .string ⟨#[]⟩, .string ⟨#[]⟩, .string ⟨#[]⟩], []⟩).memory :=
  laidMet_of_run (ps := [.cell 1 0, .cell low 0]) 8 (by kernel_rfl) (by kernel_rfl) (by kernel_rfl)
theorem reads (os : Os) {H : Type} (enc : TypeId × Value → H) : ∃ places, DataW.whole enc Tryd.prog ((laidWorld os).forCall (fun _ _ => 0) ⟨#[], #[.slice none 0 0, .string ⟨#[]⟩, .string ⟨#[]⟩, .string ⟨#[]⟩], []⟩).memory Tryd.f10.params.toList Rows.fnEchoRenamedSpec.vars false (#[.slice none 0 0, .string ⟨#[]⟩, .string ⟨#[]⟩, .string ⟨#[]⟩] : Array Value).toList 8 = some ([.nil, .lit (.string []), .lit (.string []), .lit (.string [])], [], places) :=
  ⟨[], by kernel_rfl⟩

theorem lifted (os : Os) (started : os.Started) (H : Type) (enc : TypeId × Value → H) (F : Stop.Interp) :
    ReturnsInHanded {} Tryd.checked os 10 .any ((OpenSpec.ofChange Rows.fnEchoRenamedSpec).preRow enc Tryd.prog Tryd.f10 Rows.fnEchoRenamedRow.domain false Rows.fnEchoRenamedRow.laid) (((OpenSpec.ofChange Rows.fnEchoRenamedSpec).at F).post enc Tryd.prog Tryd.f10 false true false false) := by
  obtain ⟨places, hx⟩ := reads os enc
  refine returnsInHanded_of_row (C := Tryd.checked) (s := OpenSpec.ofChange Rows.fnEchoRenamedSpec) tryd_own started (by kernel_rfl) Tryd.func10
    (witness_row_at (enc := enc) (C := Tryd.checked) false (laidWorld os) #[.slice none 0 0, .string ⟨#[]⟩, .string ⟨#[]⟩, .string ⟨#[]⟩] rfl (by kernel_rfl) (by kernel_rfl) (by kernel_rfl)
      (OpenSpec.preRow_of_cond 8 hx (by kernel_rfl) (fun k hk => by cases hk) (by kernel_rfl) (laid_met os))) ?_
  intro W base args ds gs before hval hW _ _ _ hL _ _
  exact contract H enc W base args ds gs before hval hW

theorem said : Rows.FnEchoRenamedSaid :=
  OpenClaim.holds_of_cond 10 Tryd.f10 rfl rfl rfl rfl rfl rfl rfl ⟨rfl, rfl, rfl, rfl, rfl⟩ rfl rfl rfl rfl rfl (by kernel_rfl) Tryd.func10 (by kernel_rfl)
    (of_decide_eq_true (by kernel_rfl)) (by unfold Func.isWrapper; first | (rw [if_pos (by decide +kernel)]; kernel_rfl) | (rw [if_neg (by decide +kernel)]; exact ⟨rfl, rfl⟩))
    (fun os started H enc _ F => by rw [OpenClaim.pre_eq_preRow]; exact lifted os started H enc F)

theorem plain (f : FuncId) (fn : Func) (hf : Tryd.pinned.checked.prog.funcNamed "pub-bridleway/laws.FnEchoRenamed" = some f) (hfn : Tryd.pinned.checked.prog.funcs[f]? = some fn) :
    false = Tryd.pinned.checked.prog.looks [] ∧ ∀ (j : Nat) t, fn.params[j]? = some t → Tryd.pinned.checked.prog.wantsStandIn t = false := by
  obtain rfl : f = 10 := Option.some.inj ((show Tryd.prog.funcNamed "pub-bridleway/laws.FnEchoRenamed" = some 10 by kernel_rfl).symm.trans hf) |>.symm
  obtain rfl : fn = Tryd.f10 := (Option.some.inj (Tryd.func10.symm.trans hfn)).symm
  refine ⟨by kernel_rfl, fun j t ht => ?_⟩
  have hm : t ∈ [28, 9, 9, 9] := by have := Array.mem_of_getElem? ht; simpa [Tryd.params10] using this
  have hall : ∀ u ∈ [28, 9, 9, 9], Tryd.prog.wantsStandIn u = false := by
    intro u hu
    simp only [List.mem_cons, List.not_mem_nil, or_false] at hu
    rcases hu with rfl | rfl | rfl | rfl
    · exact (show Tryd.prog.wantsStandIn 28 = false by kernel_rfl)
    · exact (show Tryd.prog.wantsStandIn 9 = false by kernel_rfl)
    · exact (show Tryd.prog.wantsStandIn 9 = false by kernel_rfl)
    · exact (show Tryd.prog.wantsStandIn 9 = false by kernel_rfl)
  exact hall t hm

theorem card : Rows.FnEchoRenamedCardSaid :=
  Claim7.holds_tied_plain_at .later [] _ _ _ _ said (fun _ h => by cases h) (by kernel_rfl) (fun _ h => by cases h) fnEchoRenamed_row_tie rfl ⟨rfl, rfl⟩ (by kernel_rfl) rfl plain (by kernel_rfl)
end Go.Proofs.YtekclaobeccbdaaDoor.renamed
