/- The law FnEchoFind holds for every input: what the router finds is what the law finds. -/
import Derived.Test.YtekclaobeccbdaaDoorBm
import Derived.Test.YtekclaobeccbdaaDoorBn
import Derived.Test.YtekclaobeccbdaaDoorBk
/- FnEchoFind. Printed by wip/mk_i5.py. -/
namespace Go.Proofs
open Go Bw
set_option maxRecDepth 20000

theorem fres_hit_len {Rs : List RB} {meth : List UInt8} {rb : RB} {n : Nat} {vs ns vs' : List (List UInt8)} {num : Int} {p al : List UInt8} (h : FRes Rs meth (.stop (.hit (rb, n) vs)) num p ns vs' al) : vs.length = (prs rb.p none).2.length := by
  cases h with
  | hit h hl => exact hl
  | missNf ho _ _ _ => rcases ho with ho | ⟨ho, _⟩ <;> cases ho
  | miss ho _ _ => rcases ho with ho | ⟨ho, _⟩ <;> cases ho
theorem eqS_true {P : Program} {c : Cx} {n : Nat} {op : Op} {ty : TypeId} {fr : SF} {H : SH} {i j : List UInt8} (h : i = j) (hv : Val P c n op ty fr H (.bool (decide (i = j)))) : Val P c n op ty fr H (.bool true) := by rw [decide_eq_true h] at hv; exact hv
theorem f5_any (w : World) (ad : Option Addr) (cp : Nat) (Rs : List RB) (path : List UInt8) (hat : RtsAt w ad Rs) : Calls Tryd.prog 5 #[.slice ad Rs.length cp, S path] w fun e w' => e = .returned (.bool true) ∧ HF w (fun _ => False) [] w' := by
  refine enter (fun _ => False) [] Tryd.func5 rfl Tryd.ntmps5 rfl rfl (HF.start w _) fun c hc => ?_
  subst hc
  refine GC.seq ?_
  refine GC.reg ?_  -- region 0, echo.go:51
  refine G.v (V.asg rfl) rfl ?_
  refine G.nil ?_
  refine GC.seq ?_
  refine GC.seq ?_
  refine GC.reg ?_  -- region 1, echo.go:52
  refine G.v (V.mv rfl) rfl ?_
  refine G.callP Tryd.call23 rfl rfl (fun w1 hw1 => f23_any w1 ad cp Rs (fun i r hr => by obtain ⟨b, o, h1, h2⟩ := hat i r hr; exact ⟨b, o, h1, fun j v hj => hw1.cellOld (h2 j v hj) id⟩)) ?_
  refine G.v (V.not rfl) rfl ?_
  refine G.v (V.mv rfl) rfl ?_
  refine G.bc 14 rfl (fun h14 => ?_) (fun h14 => ?_)
  · refine G.sg rfl rfl rfl rfl rfl rfl ?_
    refine G.sg rfl rfl rfl rfl rfl rfl ?_
    refine G.sg rfl rfl rfl rfl rfl rfl ?_
    refine G.v (V.pickT rfl rfl) rfl ?_
    refine G.nil ?_
    refine GC.condT rfl ?_
    refine GC.seq ?_
    refine GC.reg ?_  -- region 2, echo.go:53
    refine G.v (V.asg rfl) rfl ?_
    refine G.nil ?_
    exact GC.ret1 rfl rfl fun w' hw' => ⟨rfl, hw'.sub (List.nil_sublist _)⟩
  · refine G.vg rfl rfl (V.mv rfl) rfl ?_
    refine G.vg rfl rfl (V.lenS Tryd.underlying9 rfl) rfl ?_
    refine G.vg rfl rfl (V.gt rfl rfl) rfl ?_
    refine G.v (V.pickF rfl rfl) rfl ?_
    refine G.nil ?_
    refine GC.cond rfl (fun h18 => ?_) (fun h18 => ?_)
    · refine GC.seq ?_
      refine GC.reg ?_  -- region 2, echo.go:53
      refine G.v (V.asg rfl) rfl ?_
      refine G.nil ?_
      exact GC.ret1 rfl rfl fun w' hw' => ⟨rfl, hw'.sub (List.nil_sublist _)⟩
    refine GC.skip ?_
    refine GC.seq ?_
    refine GC.seq ?_
    refine GC.reg ?_  -- region 3, echo.go:55
    refine G.v (V.mv rfl) rfl ?_
    refine G.callW (fun v H2 => ∃ b : Bool, (b = true ↔ Right Rs) ∧ v = .bool b ∧ H2 = []) Tryd.call14 rfl rfl (fun w1 hw1 => ?_) ?_
    · refine (f14_any w1 ad cp Rs (fun i r hr => by obtain ⟨b, o, h1, h2⟩ := hat i r hr; exact ⟨b, o, h1, fun j v hj => hw1.cellOld (h2 j v hj) id⟩)).mono fun e w' ⟨b, h1, h2, h3⟩ => ⟨_, _, h2, ?_, b, h1, rfl, rfl⟩
      exact hw1.after0 h3 (fun e he => by cases he)
    rintro v H2 ⟨br, hbr, rfl, rfl⟩
    refine G.v (V.not rfl) rfl ?_
    refine G.v (V.mv rfl) rfl ?_
    refine G.bc 22 rfl (fun h22 => ?_) (fun h22 => ?_)
    · refine G.sg rfl rfl rfl rfl rfl rfl ?_
      refine G.sg rfl rfl rfl rfl rfl rfl ?_
      refine G.sg rfl rfl rfl rfl rfl rfl ?_
      refine G.v (V.pickT rfl rfl) rfl ?_
      refine G.v (V.mv rfl) rfl ?_
      refine G.sg rfl rfl rfl rfl rfl rfl ?_
      refine G.sg rfl rfl rfl rfl rfl rfl ?_
      refine G.sg rfl rfl rfl rfl rfl rfl ?_
      refine G.v (V.pickT rfl rfl) rfl ?_
      refine G.nil ?_
      refine GC.condT rfl ?_
      refine GC.seq ?_
      refine GC.reg ?_  -- region 4, echo.go:56
      refine G.callP Tryd.call16 rfl rfl (fun w1 hw1 => f16_any w1) ?_
      refine G.v (V.asg rfl) rfl ?_
      refine G.nil ?_
      exact GC.ret1 rfl rfl fun w' hw' => ⟨rfl, hw'.sub (List.nil_sublist _)⟩
    · refine G.vg rfl rfl (V.mv rfl) rfl ?_
      refine G.vg rfl rfl (V.lenL Tryd.underlying28 rfl) rfl ?_
      refine G.vg rfl rfl (V.eqI rfl rfl) rfl ?_
      refine G.v (V.pickF rfl rfl) rfl ?_
      refine G.v (V.mv rfl) rfl ?_
      refine G.bc 27 rfl (fun h27 => ?_) (fun h27 => ?_)
      · refine G.sg rfl rfl rfl rfl rfl rfl ?_
        refine G.sg rfl rfl rfl rfl rfl rfl ?_
        refine G.sg rfl rfl rfl rfl rfl rfl ?_
        refine G.v (V.pickT rfl rfl) rfl ?_
        refine G.nil ?_
        refine GC.condT rfl ?_
        refine GC.seq ?_
        refine GC.reg ?_  -- region 4, echo.go:56
        refine G.callP Tryd.call16 rfl rfl (fun w1 hw1 => f16_any w1) ?_
        refine G.v (V.asg rfl) rfl ?_
        refine G.nil ?_
        exact GC.ret1 rfl rfl fun w' hw' => ⟨rfl, hw'.sub (List.nil_sublist _)⟩
      · refine G.vg rfl rfl (V.mv rfl) rfl ?_
        refine G.vg rfl rfl (V.lenS Tryd.underlying9 rfl) rfl ?_
        refine G.vg rfl rfl (V.gt rfl rfl) rfl ?_
        refine G.v (V.pickF rfl rfl) rfl ?_
        refine G.nil ?_
        refine GC.cond rfl (fun h31 => ?_) (fun h31 => ?_)
        · refine GC.seq ?_
          refine GC.reg ?_  -- region 4, echo.go:56
          refine G.callP Tryd.call16 rfl rfl (fun w1 hw1 => f16_any w1) ?_
          refine G.v (V.asg rfl) rfl ?_
          refine G.nil ?_
          exact GC.ret1 rfl rfl fun w' hw' => ⟨rfl, hw'.sub (List.nil_sublist _)⟩
        refine GC.skip ?_
        refine GC.seq ?_
        refine GC.seq ?_
        have hRt : Right Rs := hbr.1 (by simpa using h22)
        have hne : ¬ ((Rs.length : Nat) : Int) = 0 := by simpa using h27
        have hpl : path.length ≤ 300 := by have := of_decide_eq_false h31; omega
        obtain ⟨r0, hr0⟩ : ∃ r0, Rs[0]? = some r0 := ⟨_, List.getElem?_eq_getElem (by omega)⟩
        obtain ⟨ab, ao, rfl, hc0⟩ := hat 0 r0 hr0
        have hlen := hRt.1
        refine GC.reg ?_  -- region 5, echo.go:58
        refine G.v (V.mv rfl) rfl ?_
        refine G.v (V.lenL Tryd.underlying28 rfl) rfl ?_
        refine G.v (V.mv rfl) rfl ?_
        refine G.nil ?_
        refine GC.block ?_
        refine GC.loopJ (fun N fr' H' => ∃ j, j + N = Rs.length ∧ (∀ i r, i < j → Rs[i]? = some r → r.m = r0.m ∧ r.m ≠ nfName) ∧ Sub [(33, .slice (some ⟨ab, ao, none⟩) Rs.length cp), (34, I (Rs.length : Nat)), (35, I ((j : Nat) : Int)), (0, .slice (some ⟨ab, ao, none⟩) Rs.length cp), (1, S path)] fr' ∧ H' = []) Rs.length
          ⟨0, by omega, fun i r h => absurd h (Nat.not_lt_zero i), .cons rfl (.cons rfl (.cons rfl (.cons rfl (.cons rfl .nil)))), rfl⟩ ?_
        rintro N fr' H' ⟨j, hj, hall, hs, rfl⟩ ih
        refine GC.weak hs ?_
        clear hs
        refine GC.seq ?_
        refine GC.reg ?_  -- region 6, echo.go:58
        refine G.v (V.lt rfl rfl) rfl ?_
        refine G.nil ?_
        refine GC.seq ?_
        refine GC.condD rfl (fun h36 => ?_) (fun h36 => ?_)
        · refine GC.skip ?_
          refine GC.seq ?_
          refine GC.block ?_
          refine GC.seq ?_
          have hlt : j < Rs.length := by omega
          obtain ⟨r, hr⟩ : ∃ r, Rs[j]? = some r := ⟨_, List.getElem?_eq_getElem hlt⟩
          have hcell : ∀ k v, r.cells[k]? = some v → w.cell? ⟨ab, ao + j * 3 + k, none⟩ = some v := by
            obtain ⟨b2, o2, e, h⟩ := hat j r hr
            cases e
            exact h
          refine GC.reg ?_  -- region 7, echo.go:58
          refine G.v (V.ia (i := j) Tryd.underlying28 Tryd.sizeOf23 rfl rfl hlt) rfl ?_
          refine G.v (V.ldAC (cs := r.cells) Tryd.isAgg23 Tryd.sizeOf23 rfl hcell rfl id) rfl ?_
          refine G.al Tryd.zeroValue23 rfl rfl (fun xb hxb => ?_)
          refine G.stA (cs := r.cells) Tryd.sizeOf23 rfl rfl (fun v hv => ?_) .z rfl ?_
          · simp only [RB.cells, List.mem_cons, List.not_mem_nil, or_false] at hv
            rcases hv with rfl | rfl | rfl <;> rfl
          refine G.nil ?_
          refine GC.seq ?_
          refine GC.join (fun fr' H' => ∃ b : Bool, (b = false → r.m = r0.m ∧ r.m ≠ nfName) ∧ Sub [(33, .slice (some ⟨ab, ao, none⟩) Rs.length cp), (34, I (Rs.length : Nat)), (35, I ((j : Nat) : Int)), (0, .slice (some ⟨ab, ao, none⟩) Rs.length cp), (1, S path), (50, .bool b)] fr' ∧ (∀ w1, HF w (fun _ => False) H' w1 → HF w (fun _ => False) [] w1)) (fun J8 => ?_) ?_
          · refine GC.turn (H' := [⟨xb, true, .row r.cells 23 (0, 0)⟩]) (fun w1 hw1 => hw1) ?_
            refine GC.regQ mixed (by kernel_rfl) ?_  -- region 8, echo.go:59
            refine GQ.v (V.fa F23_0 rfl) rfl ?_
            refine GQ.v (V.ld (b := xb) (off := 0 + 0) (wf := true) (l := r.cells) (T := 23) (fz := (0, 0)) (v := S r.m) Tryd.isAgg9 rfl (.head _) rfl) rfl ?_
            refine GQ.v (V.mv rfl) rfl ?_
            refine GQ.v (V.ia (i := 0) Tryd.underlying28 Tryd.sizeOf23 rfl rfl (by omega)) rfl ?_
            refine GQ.v (V.fa F23_0 rfl) rfl ?_
            refine GQ.v (V.ldC (v := S r0.m) Tryd.isAgg9 rfl (hc0 0 _ rfl) id) rfl ?_
            refine GQ.v (V.neS rfl rfl) rfl ?_
            refine GQ.v (V.mv rfl) rfl ?_
            refine GQ.bc 46 rfl (fun h46 => ?_) (fun h46 => ?_)
            · refine GQ.sg rfl rfl rfl rfl rfl rfl ?_
              refine GQ.sg rfl rfl rfl rfl rfl rfl ?_
              refine GQ.sg rfl rfl rfl rfl rfl rfl ?_
              refine GQ.v (V.pickT rfl rfl) rfl ?_
              refine GQ.nil ?_
              exact J8 _ _ ⟨true, fun h => (by cases h), .cons rfl (.cons rfl (.cons rfl (.cons rfl (.cons rfl (.cons rfl .nil))))), fun w1 h => h.sub (List.nil_sublist _)⟩
            · refine GQ.vg rfl rfl (V.fa F23_0 rfl) rfl ?_
              refine GQ.vg rfl rfl (V.ld (b := xb) (off := 0 + 0) (wf := true) (l := r.cells) (T := 23) (fz := (0, 0)) (v := S r.m) Tryd.isAgg9 rfl (.head _) rfl) rfl ?_
              refine GQ.vg rfl rfl (V.eqS rfl rfl) rfl ?_
              refine GQ.v (V.pickF rfl rfl) rfl ?_
              refine GQ.nil ?_
              refine J8 _ _ ⟨_, fun h => ⟨by simpa using h46, of_decide_eq_false h⟩, .cons rfl (.cons rfl (.cons rfl (.cons rfl (.cons rfl (.cons rfl .nil))))), fun w1 h => h.sub (List.nil_sublist _)⟩
          rintro fr' H' ⟨b50, hb50, hs8, hH8⟩
          refine GC.weak hs8 ?_
          clear hs8
          refine GC.turn hH8 ?_
          refine GC.cond rfl (fun h50 => ?_) (fun h50 => ?_)
          · refine GC.seq ?_
            refine GC.reg ?_  -- region 9, echo.go:60
            refine G.callP Tryd.call16 rfl rfl (fun w1 hw1 => f16_any w1) ?_
            refine G.v (V.asg rfl) rfl ?_
            refine G.nil ?_
            exact GC.ret1 rfl rfl fun w' hw' => ⟨rfl, hw'.sub (List.nil_sublist _)⟩
          refine GC.skip ?_
          refine GC.inBlock ?_
          refine GC.reg ?_  -- region 10, echo.go:58
          refine G.v (V.addI rfl rfl rfl (by omega) (by omega)) rfl ?_
          refine G.v (V.mv rfl) rfl ?_
          refine G.nil ?_
          have h2 := hb50 h50
          refine ih (N - 1) _ _ (by omega) ⟨j + 1, by omega, fun i q hi hq => ?_, .cons rfl (.cons rfl (.cons rfl (.cons rfl (.cons rfl .nil)))), rfl⟩
          by_cases hij : i = j
          · subst hij; rw [hr] at hq; cases hq; exact h2
          · exact hall i q (by omega) hq
        refine GC.exit rfl ?_
        refine GC.seq ?_
        have hmall : ∀ r ∈ Rs, r.m = r0.m := fun r hr => by
          obtain ⟨i, hi⟩ := List.getElem?_of_mem hr
          have := (List.getElem?_eq_some_iff.1 hi).1
          exact (hall i r (by omega) hi).1
        have hnf0 : r0.m ≠ nfName := (hall 0 r0 (by omega) hr0).2
        refine GC.reg ?_  -- region 11, echo.go:63
        refine G.v (V.mv rfl) rfl ?_
        refine G.v (V.mv rfl) rfl ?_
        refine G.callW (fun v H2 => ∃ st vs adS cpS op, v = .tuple #[I (numO st), .slice adS vs.length cpS, .bool op] ∧ Own 9 1 (.slice adS vs.length cpS) vs.length (vs.map S) H2 ∧ (op = true ∨ efG path Rs 0 none [] = some (st, vs))) Tryd.call24 rfl rfl (fun w1 hw1 => ?_) ?_
        · refine (f24_any w1 _ cp Rs path (fun i r hr => by obtain ⟨b, o, h1, h2⟩ := hat i r hr; exact ⟨b, o, h1, fun j v hj => hw1.cellOld (h2 j v hj) id⟩) (by omega) (fun x hx => by have := (hRt.2 x hx).pl; omega) (by omega)).mono fun e w' h => ?_
          rcases h with ⟨_, h2, h3⟩ | ⟨st, vs, v, Hs, h1, h2, h3, h4⟩
          · exact ⟨_, _, h2, hw1.after0 h3 (fun e he => by cases he), none, [], none, 0, true, rfl, .nil, .inl rfl⟩
          · obtain ⟨adS, cpS, rfl⟩ := h3.slice
            refine ⟨_, _, h2, ?_, st, vs, adS, cpS, false, rfl, h3, .inr h1⟩
            have := hw1.after0 h4 h3.w
            simpa using this
        rintro v Hs0 ⟨st, vs, adS, cpS, op, rfl, hownS, hef⟩
        refine G.v (V.mv rfl) rfl ?_
        refine G.v (V.ex rfl rfl) rfl ?_
        refine G.v (V.ex rfl rfl) rfl ?_
        refine G.v (V.ex rfl rfl) rfl ?_
        refine G.v (V.asg rfl) rfl ?_
        refine G.v (V.asg rfl) rfl ?_
        refine G.v (V.asg rfl) rfl ?_
        refine G.nil ?_
        refine GC.seq ?_
        refine GC.seq ?_
        refine GC.reg ?_  -- region 12, echo.go:64
        refine G.v (V.mv rfl) rfl ?_
        refine G.v (V.mv rfl) rfl ?_
        refine G.bc 61 rfl (fun h61 => ?_) (fun h61 => ?_)
        · refine G.sg rfl rfl rfl rfl rfl rfl ?_
          refine G.sg rfl rfl rfl rfl rfl rfl ?_
          refine G.sg rfl rfl rfl rfl rfl rfl ?_
          refine G.v (V.pickT rfl rfl) rfl ?_
          refine G.nil ?_
          refine GC.condT rfl ?_
          refine GC.seq ?_
          refine GC.reg ?_  -- region 13, echo.go:65
          refine G.callP Tryd.call16 rfl rfl (fun w1 hw1 => f16_any w1) ?_
          refine G.v (V.asg rfl) rfl ?_
          refine G.nil ?_
          exact GC.ret1 rfl rfl fun w' hw' => ⟨rfl, hw'.sub (List.nil_sublist _)⟩
        · refine G.vg rfl rfl (V.mv rfl) rfl ?_
          refine G.gd rfl rfl ?_
          refine G.callW (fun v H2 => ∃ b : Bool, (b = true ↔ (Rs.map ekey).Nodup) ∧ v = .bool b ∧ Hs0 = H2) Tryd.call25 rfl rfl (fun w1 hw1 => ?_) ?_
          · refine (f25_any w1 _ cp Rs (fun i r hr => by obtain ⟨b, o, h1, h2⟩ := hat i r hr; exact ⟨b, o, h1, fun j v hj => hw1.cellOld (h2 j v hj) id⟩) (by omega) (fun x hx => ⟨by have := (hRt.2 x hx).ml; omega, by have := (hRt.2 x hx).pl; omega⟩)).mono fun e w' ⟨b, h1, h2, h3⟩ => ⟨_, _, h2, ?_, b, h1, rfl, rfl⟩
            exact hw1.after0 h3 (fun e he => by cases he)
          rintro v H2 ⟨ba, hba, rfl, rfl⟩
          refine G.vg rfl rfl (V.not rfl) rfl ?_
          refine G.v (V.pickF rfl rfl) rfl ?_
          refine G.nil ?_
          refine GC.cond rfl (fun h65 => ?_) (fun h65 => ?_)
          · refine GC.seq ?_
            refine GC.reg ?_  -- region 13, echo.go:65
            refine G.callP Tryd.call16 rfl rfl (fun w1 hw1 => f16_any w1) ?_
            refine G.v (V.asg rfl) rfl ?_
            refine G.nil ?_
            exact GC.ret1 rfl rfl fun w' hw' => ⟨rfl, hw'.sub (List.nil_sublist _)⟩
          refine GC.skip ?_
          refine GC.seq ?_
          refine GC.join (fun fr' H' => ∃ (b7 : Nat) (num : Int) (p : List UInt8) (ns vs2 : List (List UInt8)) (al : List UInt8) (adn adv : Option Addr) (cpn cpv : Nat) (Hn Hv : SH), (FRes Rs r0.m (visK (KS Rs) r0.m 202 [] path [] none) num p ns vs2 al ∧ ns.length ≤ 200 ∧ Own 9 1 (.slice adn ns.length cpn) ns.length (ns.map S) Hn ∧ Own 9 1 (.slice adv vs2.length cpv) vs2.length (vs2.map S) Hv) ∧ Sub [(10, Pt b7 0), (0, .slice (some ⟨ab, ao, none⟩) Rs.length cp), (7, I (numO st)), (8, .slice adS vs.length cpS)] fr' ∧ (∀ w1, HF w (fun _ => False) H' w1 → HF w (fun _ => False) (⟨b7, true, .row [I num, S p, .slice adn ns.length cpn, .slice adv vs2.length cpv, S al] 33 (0, 0)⟩ :: ((Hn ++ Hv) ++ Hs0)) w1)) (fun J14 => ?_) ?_
          · refine GC.regA (fun w1 => w1.cell? ⟨ab, ao + 0 * 3 + 0, none⟩ = some (S r0.m)) mixed ?_
            refine GA.p 0 rfl (by kernel_rfl) (fun w1 hw1 => hw1.cellOld (hc0 0 (S r0.m) rfl) id) (fun _ => V.mv rfl) rfl ?_
            refine GA.p 2 rfl (by kernel_rfl) (fun w1 hw1 => hw1.cellOld (hc0 0 (S r0.m) rfl) id) (fun _ => V.mv rfl) rfl ?_
            refine GA.p 3 rfl (by kernel_rfl) (fun w1 hw1 => hw1.cellOld (hc0 0 (S r0.m) rfl) id) (fun _ => V.ia (i := 0) Tryd.underlying28 Tryd.sizeOf23 rfl rfl (by omega)) rfl ?_
            refine GA.p 4 rfl (by kernel_rfl) (fun w1 hw1 => hw1.cellOld (hc0 0 (S r0.m) rfl) id) (fun _ => V.fa F23_0 rfl) rfl ?_
            refine GA.ld 5 rfl (by kernel_rfl) (fun w1 hw1 => hw1.cellOld (hc0 0 (S r0.m) rfl) id) Tryd.isAgg9 rfl (fun w1 h => h) rfl ?_
            refine GA.p 6 rfl (by kernel_rfl) (fun w1 hw1 => hw1.cellOld (hc0 0 (S r0.m) rfl) id) (fun _ => V.mv rfl) rfl ?_
            refine GA.via (fun fr' H' => ∃ b7, ∃ (num : Int) (p : List UInt8) (ns vs2 : List (List UInt8)) (al : List UInt8) (adn adv : Option Addr) (cpn cpv : Nat) (Hn Hv : SH), (FRes Rs r0.m (visK (KS Rs) r0.m 202 [] path [] none) num p ns vs2 al ∧ ns.length ≤ 200 ∧ Own 9 1 (.slice adn ns.length cpn) ns.length (ns.map S) Hn ∧ Own 9 1 (.slice adv vs2.length cpv) vs2.length (vs2.map S) Hv) ∧ Sub [(10, Pt b7 0), (74, .agg ([I num, S p, .slice adn ns.length cpn, .slice adv vs2.length cpv, S al] : List Value).toArray), (67, .slice (some ⟨ab, ao, none⟩) Rs.length cp), (72, S r0.m), (73, S path), (0, .slice (some ⟨ab, ao, none⟩) Rs.length cp), (7, I (numO st)), (8, .slice adS vs.length cpS)] fr' ∧ (∀ w1, HF w (fun _ => False) H' w1 → HF w (fun _ => False) (⟨b7, true, .row [I 0, S [], .slice none 0 0, .slice none 0 0, S []] 33 (0, 0)⟩ :: ((Hn ++ Hv) ++ Hs0)) w1)) #[true, true, true, true, true, true, true, true, true, false] 1 ?_ (fun finB2 => ?_)
            · rintro fr' H' ⟨b7, num, p, ns, vs2, al, adn, adv, cpn, cpv, Hn, Hv, hfo, hs9, hH⟩
              refine GA.weak hs9 ?_
              clear hs9
              refine GA.turn hH ?_
              refine GA.one 9 rfl (by kernel_rfl) ?_
              refine GB.stA (cs := [I num, S p, .slice adn ns.length cpn, .slice adv vs2.length cpv, S al]) Tryd.sizeOf33 rfl rfl (fun v hv => ?_) .z rfl (fun w1 hw1 => hw1.cellOld (hc0 0 (S r0.m) rfl) id) ?_
              · simp only [List.mem_cons, List.not_mem_nil, or_false] at hv
                rcases hv with rfl | rfl | rfl | rfl | rfl <;> rfl
              refine GA.done (by kernel_rfl) ?_
              exact J14 _ _ ⟨b7, num, p, ns, vs2, al, adn, adv, cpn, cpv, Hn, Hv, hfo, .cons rfl (.cons rfl (.cons rfl (.cons rfl .nil))), fun w1 h => h⟩
            refine GA.via (fun fr' H' => ∃ (num : Int) (p : List UInt8) (ns vs2 : List (List UInt8)) (al : List UInt8) (adn adv : Option Addr) (cpn cpv : Nat) (Hn Hv : SH), (FRes Rs r0.m (visK (KS Rs) r0.m 202 [] path [] none) num p ns vs2 al ∧ ns.length ≤ 200 ∧ Own 9 1 (.slice adn ns.length cpn) ns.length (ns.map S) Hn ∧ Own 9 1 (.slice adv vs2.length cpv) vs2.length (vs2.map S) Hv) ∧ Sub [(74, .agg ([I num, S p, .slice adn ns.length cpn, .slice adv vs2.length cpv, S al] : List Value).toArray), (67, .slice (some ⟨ab, ao, none⟩) Rs.length cp), (72, S r0.m), (73, S path), (0, .slice (some ⟨ab, ao, none⟩) Rs.length cp), (7, I (numO st)), (8, .slice adS vs.length cpS)] fr' ∧ (∀ w1, HF w (fun _ => False) H' w1 → HF w (fun _ => False) (((Hn ++ Hv) ++ Hs0)) w1)) #[true, true, true, true, true, true, true, true, false, false] 2 ?_ (fun finA2 => ?_)
            · rintro fr' H' ⟨num, p, ns, vs2, al, adn, adv, cpn, cpv, Hn, Hv, hfo, hs9, hH⟩
              refine GA.weak hs9 ?_
              clear hs9
              refine GA.turn hH ?_
              refine GA.one 8 rfl (by kernel_rfl) ?_
              refine GB.al Tryd.zeroValue33 rfl (fun w1 hw1 => hw1.cellOld (hc0 0 (S r0.m) rfl) id) rfl (fun b7 => ?_)
              exact finB2 _ _ _ (by kernel_rfl) ⟨b7, num, p, ns, vs2, al, adn, adv, cpn, cpv, Hn, Hv, hfo, .cons rfl (.cons rfl (.cons rfl (.cons rfl (.cons rfl (.cons rfl (.cons rfl (.cons rfl .nil))))))), fun w1 h => h⟩
            refine GA.via (fun fr' H' => ∃ b7, ∃ adr cpr Hr, Own 51 3 (.slice adr Rs.length cpr) Rs.length (Rs.flatMap RB.cells) Hr ∧ Sub [(10, Pt b7 0), (68, .slice adr Rs.length cpr), (67, .slice (some ⟨ab, ao, none⟩) Rs.length cp), (72, S r0.m), (73, S path), (0, .slice (some ⟨ab, ao, none⟩) Rs.length cp), (7, I (numO st)), (8, .slice adS vs.length cpS)] fr' ∧ (∀ w1, HF w (fun _ => False) H' w1 → HF w (fun _ => False) (⟨b7, true, .row [I 0, S [], .slice none 0 0, .slice none 0 0, S []] 33 (0, 0)⟩ :: (Hr ++ Hs0)) w1)) #[true, true, true, true, true, true, true, false, true, false] 2 ?_ (fun finB1 => ?_)
            · rintro fr' H' ⟨b7, adr, cpr, Hr, hownr, hs9, hH⟩
              refine GA.weak hs9 ?_
              clear hs9
              refine GA.turn hH ?_
              refine GA.one 7 rfl (by kernel_rfl) ?_
              refine GB.callW (xs := [.tmp 68, .tmp 72, .tmp 73]) (vs := [.slice adr Rs.length cpr, S r0.m, S path]) (fun v H2 => ∃ (num : Int) (p : List UInt8) (ns vs2 : List (List UInt8)) (al : List UInt8) (adn adv : Option Addr) (cpn cpv : Nat) (Hn Hv : SH), (FRes Rs r0.m (visK (KS Rs) r0.m 202 [] path [] none) num p ns vs2 al ∧ ns.length ≤ 200 ∧ Own 9 1 (.slice adn ns.length cpn) ns.length (ns.map S) Hn ∧ Own 9 1 (.slice adv vs2.length cpv) vs2.length (vs2.map S) Hv) ∧ v = .agg ([I num, S p, .slice adn ns.length cpn, .slice adv vs2.length cpv, S al] : List Value).toArray ∧ H2 = (Hn ++ Hv) ++ (⟨b7, true, .row [I 0, S [], .slice none 0 0, .slice none 0 0, S []] 33 (0, 0)⟩ :: (Hr ++ Hs0))) Tryd.call18 rfl rfl (fun v H2 _ => (fun w1 hw1 => hw1.cellOld (hc0 0 (S r0.m) rfl) id)) (fun w1 hw1 => ?_) ?_
              · refine (f18_any w1 adr cpr Rs r0.m path (rts_own hw1 (fun e he => by simp [he]) hownr) (fun x h => (hRt.2 x h).ok) hRt.1 (by omega)).mono fun e w' ⟨num, p, ns, vs2, al, vn, vv, Hn, Hv, h1, h1', h2, h3, h4, h5⟩ => ?_
                obtain ⟨adn, cpn, rfl⟩ := h3.slice
                obtain ⟨adv, cpv, rfl⟩ := h4.slice
                refine ⟨_, _, h2, ?_, num, p, ns, vs2, al, adn, adv, cpn, cpv, Hn, Hv, ⟨h1, h1', h3, h4⟩, rfl, rfl⟩
                exact hw1.after0 h5 (fun e he => by
                  rcases List.mem_append.1 he with he | he
                  · exact h3.w e he
                  · exact h4.w e he)
              rintro v H2 ⟨num, p, ns, vs2, al, adn, adv, cpn, cpv, Hn, Hv, hfo, rfl, rfl⟩
              exact finB2 _ _ _ (by kernel_rfl) ⟨b7, num, p, ns, vs2, al, adn, adv, cpn, cpv, Hn, Hv, hfo, .cons rfl (.cons rfl (.cons rfl (.cons rfl (.cons rfl (.cons rfl (.cons rfl (.cons rfl .nil))))))), fun w1 h => (h.perm List.perm_middle).sub (List.Sublist.cons_cons _ ((List.Sublist.refl _).append (List.sublist_append_right _ _)))⟩
            refine GA.via (fun fr' H' => ∃ adr cpr Hr, Own 51 3 (.slice adr Rs.length cpr) Rs.length (Rs.flatMap RB.cells) Hr ∧ Sub [(68, .slice adr Rs.length cpr), (67, .slice (some ⟨ab, ao, none⟩) Rs.length cp), (72, S r0.m), (73, S path), (0, .slice (some ⟨ab, ao, none⟩) Rs.length cp), (7, I (numO st)), (8, .slice adS vs.length cpS)] fr' ∧ (∀ w1, HF w (fun _ => False) H' w1 → HF w (fun _ => False) ((Hr ++ Hs0)) w1)) #[true, true, true, true, true, true, true, false, false, false] 3 ?_ (fun finA1 => ?_)
            · rintro fr' H' ⟨adr, cpr, Hr, hownr, hs9, hH⟩
              refine GA.weak hs9 ?_
              clear hs9
              refine GA.turn hH ?_
              refine GA.two 7 8 rfl rfl (by kernel_rfl) ?_ ?_
              · refine GB.callW (xs := [.tmp 68, .tmp 72, .tmp 73]) (vs := [.slice adr Rs.length cpr, S r0.m, S path]) (fun v H2 => ∃ (num : Int) (p : List UInt8) (ns vs2 : List (List UInt8)) (al : List UInt8) (adn adv : Option Addr) (cpn cpv : Nat) (Hn Hv : SH), (FRes Rs r0.m (visK (KS Rs) r0.m 202 [] path [] none) num p ns vs2 al ∧ ns.length ≤ 200 ∧ Own 9 1 (.slice adn ns.length cpn) ns.length (ns.map S) Hn ∧ Own 9 1 (.slice adv vs2.length cpv) vs2.length (vs2.map S) Hv) ∧ v = .agg ([I num, S p, .slice adn ns.length cpn, .slice adv vs2.length cpv, S al] : List Value).toArray ∧ H2 = (Hn ++ Hv) ++ ((Hr ++ Hs0))) Tryd.call18 rfl rfl (fun v H2 _ => (fun w1 hw1 => hw1.cellOld (hc0 0 (S r0.m) rfl) id)) (fun w1 hw1 => ?_) ?_
                · refine (f18_any w1 adr cpr Rs r0.m path (rts_own hw1 (fun e he => by simp [he]) hownr) (fun x h => (hRt.2 x h).ok) hRt.1 (by omega)).mono fun e w' ⟨num, p, ns, vs2, al, vn, vv, Hn, Hv, h1, h1', h2, h3, h4, h5⟩ => ?_
                  obtain ⟨adn, cpn, rfl⟩ := h3.slice
                  obtain ⟨adv, cpv, rfl⟩ := h4.slice
                  refine ⟨_, _, h2, ?_, num, p, ns, vs2, al, adn, adv, cpn, cpv, Hn, Hv, ⟨h1, h1', h3, h4⟩, rfl, rfl⟩
                  exact hw1.after0 h5 (fun e he => by
                    rcases List.mem_append.1 he with he | he
                    · exact h3.w e he
                    · exact h4.w e he)
                rintro v H2 ⟨num, p, ns, vs2, al, adn, adv, cpn, cpv, Hn, Hv, hfo, rfl, rfl⟩
                exact finA2 _ _ _ (by kernel_rfl) ⟨num, p, ns, vs2, al, adn, adv, cpn, cpv, Hn, Hv, hfo, .cons rfl (.cons rfl (.cons rfl (.cons rfl (.cons rfl (.cons rfl (.cons rfl .nil)))))), fun w1 h => h.sub ((List.Sublist.refl _).append (List.sublist_append_right _ _))⟩
              · refine GB.al Tryd.zeroValue33 rfl (fun w1 hw1 => hw1.cellOld (hc0 0 (S r0.m) rfl) id) rfl (fun b7 => ?_)
                exact finB1 _ _ _ (by kernel_rfl) ⟨b7, adr, cpr, Hr, hownr, .cons rfl (.cons rfl (.cons rfl (.cons rfl (.cons rfl (.cons rfl (.cons rfl (.cons rfl .nil))))))), fun w1 h => h⟩
            refine GA.via (fun fr' H' => ∃ b7, Sub [(10, Pt b7 0), (67, .slice (some ⟨ab, ao, none⟩) Rs.length cp), (72, S r0.m), (73, S path), (0, .slice (some ⟨ab, ao, none⟩) Rs.length cp), (7, I (numO st)), (8, .slice adS vs.length cpS)] fr' ∧ (∀ w1, HF w (fun _ => False) H' w1 → HF w (fun _ => False) (⟨b7, true, .row [I 0, S [], .slice none 0 0, .slice none 0 0, S []] 33 (0, 0)⟩ :: Hs0) w1)) #[true, false, true, true, true, true, true, false, true, false] 3 ?_ (fun finB0 => ?_)
            · rintro fr' H' ⟨b7, hs9, hH⟩
              refine GA.weak hs9 ?_
              clear hs9
              refine GA.turn hH ?_
              refine GA.one 1 rfl (by kernel_rfl) ?_
              refine GB.callW (xs := [.tmp 67]) (vs := [.slice (some ⟨ab, ao, none⟩) Rs.length cp]) (fun v H2 => ∃ Hr, Own 51 3 v Rs.length (Rs.flatMap RB.cells) Hr ∧ H2 = Hr ++ (⟨b7, true, .row [I 0, S [], .slice none 0 0, .slice none 0 0, S []] 33 (0, 0)⟩ :: Hs0)) Tryd.call19 rfl rfl (fun v H2 _ => (fun w1 hw1 => hw1.cellOld (hc0 0 (S r0.m) rfl) id)) (fun w1 hw1 => ?_) ?_
              · refine (f19_any w1 _ cp Rs (fun i r hr => by obtain ⟨b, o, h1, h2⟩ := hat i r hr; exact ⟨b, o, h1, fun j v hj => hw1.cellOld (h2 j v hj) id⟩) (by omega)).mono fun e w' ⟨v, Hr, h1, h2, h3⟩ => ⟨v, _, h1, hw1.after0 h3 h2.w, Hr, h2, rfl⟩
              rintro v H2 ⟨Hr, hownr, rfl⟩
              obtain ⟨adr, cpr, rfl⟩ := hownr.slice
              exact finB1 _ _ _ (by kernel_rfl) ⟨b7, adr, cpr, Hr, hownr, .cons rfl (.cons rfl (.cons rfl (.cons rfl (.cons rfl (.cons rfl (.cons rfl (.cons rfl .nil))))))), fun w1 h => h.perm List.perm_middle⟩
            refine GA.via (fun fr' H' => Sub [(67, .slice (some ⟨ab, ao, none⟩) Rs.length cp), (72, S r0.m), (73, S path), (0, .slice (some ⟨ab, ao, none⟩) Rs.length cp), (7, I (numO st)), (8, .slice adS vs.length cpS)] fr' ∧ (∀ w1, HF w (fun _ => False) H' w1 → HF w (fun _ => False) (Hs0) w1)) #[true, false, true, true, true, true, true, false, false, false] 4 ?_ (fun finA0 => ?_)
            · rintro fr' H' ⟨hs9, hH⟩
              refine GA.weak hs9 ?_
              clear hs9
              refine GA.turn hH ?_
              refine GA.two 1 8 rfl rfl (by kernel_rfl) ?_ ?_
              · refine GB.callW (xs := [.tmp 67]) (vs := [.slice (some ⟨ab, ao, none⟩) Rs.length cp]) (fun v H2 => ∃ Hr, Own 51 3 v Rs.length (Rs.flatMap RB.cells) Hr ∧ H2 = Hr ++ (Hs0)) Tryd.call19 rfl rfl (fun v H2 _ => (fun w1 hw1 => hw1.cellOld (hc0 0 (S r0.m) rfl) id)) (fun w1 hw1 => ?_) ?_
                · refine (f19_any w1 _ cp Rs (fun i r hr => by obtain ⟨b, o, h1, h2⟩ := hat i r hr; exact ⟨b, o, h1, fun j v hj => hw1.cellOld (h2 j v hj) id⟩) (by omega)).mono fun e w' ⟨v, Hr, h1, h2, h3⟩ => ⟨v, _, h1, hw1.after0 h3 h2.w, Hr, h2, rfl⟩
                rintro v H2 ⟨Hr, hownr, rfl⟩
                obtain ⟨adr, cpr, rfl⟩ := hownr.slice
                exact finA1 _ _ _ (by kernel_rfl) ⟨adr, cpr, Hr, hownr, .cons rfl (.cons rfl (.cons rfl (.cons rfl (.cons rfl (.cons rfl (.cons rfl .nil)))))), fun w1 h => h⟩
              · refine GB.al Tryd.zeroValue33 rfl (fun w1 hw1 => hw1.cellOld (hc0 0 (S r0.m) rfl) id) rfl (fun b7 => ?_)
                exact finB0 _ _ _ (by kernel_rfl) ⟨b7, .cons rfl (.cons rfl (.cons rfl (.cons rfl (.cons rfl (.cons rfl (.cons rfl .nil)))))), fun w1 h => h⟩
            exact finA0 _ _ _ (by kernel_rfl) ⟨.cons rfl (.cons rfl (.cons rfl (.cons rfl (.cons rfl (.cons rfl .nil))))), fun w1 h => h⟩
          rintro fr' H' ⟨b7, num, p, ns, vs2, al, adn, adv, cpn, cpv, Hn, Hv, ⟨hfr, hnl, hown1, hown2⟩, hs14, hH14⟩
          refine GC.weak hs14 ?_
          clear hs14
          refine GC.turn hH14 ?_
          have hnd : (Rs.map ekey).Nodup := hba.1 (by simpa using h65)
          have hefs := hef.resolve_left (by rw [h61]; simp)
          have hfd := found hRt hnd hmall hnf0 hefs
          have hnum : num = numO st := by
            rcases hfd with ⟨rfl, hv⟩ | ⟨n, rb, rfl, hrb, hv⟩
            · rw [hv] at hfr; exact (fres_none hfr).1
            · rw [hv] at hfr; exact (fres_hit hfr).1
          refine GC.seq ?_
          refine GC.seq ?_
          refine GC.reg ?_  -- region 15, echo.go:68
          refine G.callP Tryd.call16 rfl rfl (fun w1 hw1 => f16_any w1) ?_
          refine G.v (V.not rfl) rfl ?_
          refine G.v (V.mv rfl) rfl ?_
          refine G.bc 77 rfl (fun h77 => ?_) (fun h77 => ?_)
          · exact absurd h77 (by decide)
          · refine G.vg rfl rfl (V.fa F33_0 rfl) rfl ?_
            refine G.vg rfl rfl (V.ld (b := b7) (off := 0 + 0) (wf := true) (l := [I num, S p, .slice adn ns.length cpn, .slice adv vs2.length cpv, S al]) (T := 33) (fz := (0, 0)) (v := I num) Tryd.isAgg3 rfl (.head _) rfl) rfl ?_
            refine G.vg rfl rfl (V.mv rfl) rfl ?_
            refine G.vg rfl rfl (v := .bool false) (neI_false hnum (V.neI rfl rfl)) rfl ?_
            refine G.v (V.pickF rfl rfl) rfl ?_
            refine G.nil ?_
            refine GC.condF rfl ?_
            refine GC.skip ?_
            refine GC.seq ?_
            refine GC.join (fun fr' H' => Sub [(4, .bool true)] fr') (fun J17 => ?_) ?_
            · rcases hfd with ⟨rfl, hv⟩ | ⟨n, rb, rfl, hrb, hv⟩
              · rw [hv] at hfr
                obtain ⟨rfl, rfl, rfl, rfl, rfl⟩ := fres_none hfr
                refine GC.regA (fun w1 => True) mixed ?_
                refine GA.p 0 rfl (by kernel_rfl) (fun w1 hw1 => trivial) (fun _ => V.mv rfl) rfl ?_
                refine GA.p 1 (v := .bool true) rfl (by kernel_rfl) (fun w1 hw1 => trivial) (fun w0 => lt_true (by decide) (V.lt (i := -1) (j := 0) rfl rfl)) rfl ?_
                refine GA.p 2 rfl (by kernel_rfl) (fun w1 hw1 => trivial) (fun _ => V.mv rfl) rfl ?_
                refine GA.un 3 rfl rfl rfl rfl rfl rfl (by kernel_rfl) (fun w1 hw1 => trivial) rfl ?_
                refine GA.un 4 rfl rfl rfl rfl rfl rfl (by kernel_rfl) (fun w1 hw1 => trivial) rfl ?_
                refine GA.un 5 rfl rfl rfl rfl rfl rfl (by kernel_rfl) (fun w1 hw1 => trivial) rfl ?_
                refine GA.un 6 rfl rfl rfl rfl rfl rfl (by kernel_rfl) (fun w1 hw1 => trivial) rfl ?_
                refine GA.un 7 rfl rfl rfl rfl rfl rfl (by kernel_rfl) (fun w1 hw1 => trivial) rfl ?_
                refine GA.un 8 rfl rfl rfl rfl rfl rfl (by kernel_rfl) (fun w1 hw1 => trivial) rfl ?_
                refine GA.un 9 rfl rfl rfl rfl rfl rfl (by kernel_rfl) (fun w1 hw1 => trivial) rfl ?_
                refine GA.un 10 rfl rfl rfl rfl rfl rfl (by kernel_rfl) (fun w1 hw1 => trivial) rfl ?_
                refine GA.un 11 rfl rfl rfl rfl rfl rfl (by kernel_rfl) (fun w1 hw1 => trivial) rfl ?_
                refine GA.unU 12 rfl rfl rfl rfl rfl (by kernel_rfl) (fun w1 hw1 => trivial) rfl ?_
                refine GA.unU 13 rfl rfl rfl rfl rfl (by kernel_rfl) (fun w1 hw1 => trivial) rfl ?_
                refine GA.unU 14 rfl rfl rfl rfl rfl (by kernel_rfl) (fun w1 hw1 => trivial) rfl ?_
                refine GA.unU 15 rfl rfl rfl rfl rfl (by kernel_rfl) (fun w1 hw1 => trivial) rfl ?_
                refine GA.unU 16 rfl rfl rfl rfl rfl (by kernel_rfl) (fun w1 hw1 => trivial) rfl ?_
                refine GA.unU 17 rfl rfl rfl rfl rfl (by kernel_rfl) (fun w1 hw1 => trivial) rfl ?_
                refine GA.un 18 rfl rfl rfl rfl rfl rfl (by kernel_rfl) (fun w1 hw1 => trivial) rfl ?_
                refine GA.un 19 rfl rfl rfl rfl rfl rfl (by kernel_rfl) (fun w1 hw1 => trivial) rfl ?_
                refine GA.unU 20 rfl rfl rfl rfl rfl (by kernel_rfl) (fun w1 hw1 => trivial) rfl ?_
                refine GA.unU 21 rfl rfl rfl rfl rfl (by kernel_rfl) (fun w1 hw1 => trivial) rfl ?_
                refine GA.unU 22 rfl rfl rfl rfl rfl (by kernel_rfl) (fun w1 hw1 => trivial) rfl ?_
                refine GA.unU 23 rfl rfl rfl rfl rfl (by kernel_rfl) (fun w1 hw1 => trivial) rfl ?_
                refine GA.un 24 rfl rfl rfl rfl rfl rfl (by kernel_rfl) (fun w1 hw1 => trivial) rfl ?_
                refine GA.p 25 rfl (by kernel_rfl) (fun w1 hw1 => trivial) (fun _ => V.pickT rfl rfl) rfl ?_
                refine GA.p 26 rfl (by kernel_rfl) (fun w1 hw1 => trivial) (fun _ => V.asg rfl) rfl ?_
                refine GA.done (by kernel_rfl) ?_
                exact J17 _ _ (.cons rfl .nil)
              · rw [hv] at hfr
                have hvl := fres_hit_len hfr
                obtain ⟨rfl, rfl, rfl, rfl, rfl, _⟩ := fres_hit hfr
                have hnlt : n < Rs.length := (List.getElem?_eq_some_iff.1 hrb).1
                have hrbR := hRt.2 rb (List.mem_of_getElem? hrb)
                have hePp := ePath_of hrbR.hd
                have hprl := hrbR.pl
                have hcell : ∀ k v, rb.cells[k]? = some v → w.cell? ⟨ab, ao + n * 3 + k, none⟩ = some v := by
                  obtain ⟨b2, o2, e, h⟩ := hat n rb hrb
                  cases e
                  exact h
                have hSb : ∀ (H : SH) w1, HF w (fun _ => False) H w1 → (⟨b7, true, .row [I (n : Nat), S rb.p, .slice adn (prs rb.p none).2.length cpn, .slice adv vs2.length cpv, S []] 33 (0, 0)⟩ : Ent) ∈ H → (∀ i v, nth [I (n : Nat), S rb.p, .slice adn (prs rb.p none).2.length cpn, .slice adv vs2.length cpv, S []] i = some v → w1.cell? ⟨b7, i, none⟩ = some v) ∧ (∀ k v, rb.cells[k]? = some v → w1.cell? ⟨ab, ao + n * 3 + k, none⟩ = some v) := fun H w1 hw hm => ⟨fun i v hv => cell_row hw hm hv, fun k v hk => hw.cellOld (hcell k v hk) id⟩
                refine GC.turn (H' := (⟨b7, true, .row [I (n : Nat), S rb.p, .slice adn (prs rb.p none).2.length cpn, .slice adv vs2.length cpv, S []] 33 (0, 0)⟩ :: ((Hn ++ Hv) ++ Hs0))) (fun w1 hw1 => hw1) ?_
                refine GC.regA (fun w1 => (∀ i v, nth [I (n : Nat), S rb.p, .slice adn (prs rb.p none).2.length cpn, .slice adv vs2.length cpv, S []] i = some v → w1.cell? ⟨b7, i, none⟩ = some v) ∧ (∀ k v, rb.cells[k]? = some v → w1.cell? ⟨ab, ao + n * 3 + k, none⟩ = some v)) mixed ?_
                refine GA.p 0 rfl (by kernel_rfl) (fun w1 hw1 => hSb _ w1 hw1 (by simp)) (fun _ => V.mv rfl) rfl ?_
                refine GA.p 1 (v := .bool false) rfl (by kernel_rfl) (fun w1 hw1 => hSb _ w1 hw1 (by simp)) (fun w0 => lt_false (by omega) (V.lt (i := (n : Nat)) (j := 0) rfl rfl)) rfl ?_
                refine GA.p 2 rfl (by kernel_rfl) (fun w1 hw1 => hSb _ w1 hw1 (by simp)) (fun _ => V.mv rfl) rfl ?_
                refine GA.pg 3 rfl rfl rfl (by kernel_rfl) (fun w1 hw1 => hSb _ w1 hw1 (by simp)) (fun _ => V.fa F33_1 rfl) rfl ?_
                refine GA.ldg 4 rfl rfl rfl (by kernel_rfl) (fun w1 hw1 => hSb _ w1 hw1 (by simp)) Tryd.isAgg9 rfl (fun w1 h => h.1 1 _ rfl) rfl ?_
                refine GA.pg 5 rfl rfl rfl (by kernel_rfl) (fun w1 hw1 => hSb _ w1 hw1 (by simp)) (fun _ => V.mv rfl) rfl ?_
                refine GA.pg 6 rfl rfl rfl (by kernel_rfl) (fun w1 hw1 => hSb _ w1 hw1 (by simp)) (fun _ => V.mv (v := I (n : Nat)) rfl) rfl ?_
                refine GA.pg 7 rfl rfl rfl (by kernel_rfl) (fun w1 hw1 => hSb _ w1 hw1 (by simp)) (fun _ => V.ia (i := n) Tryd.underlying28 Tryd.sizeOf23 rfl rfl hnlt) rfl ?_
                refine GA.pg 8 rfl rfl rfl (by kernel_rfl) (fun w1 hw1 => hSb _ w1 hw1 (by simp)) (fun _ => V.fa F23_1 rfl) rfl ?_
                refine GA.ldg 9 rfl rfl rfl (by kernel_rfl) (fun w1 hw1 => hSb _ w1 hw1 (by simp)) Tryd.isAgg9 rfl (fun w1 h => h.2 1 (S rb.p) rfl) rfl ?_
                refine GA.pg 10 (v := .bool true) rfl rfl rfl (by kernel_rfl) (fun w1 hw1 => hSb _ w1 hw1 (by simp)) (fun w0 => eqS_true rfl (V.eqS rfl rfl)) rfl ?_
                refine GA.pg 11 rfl rfl rfl (by kernel_rfl) (fun w1 hw1 => hSb _ w1 hw1 (by simp)) (fun _ => V.mv rfl) rfl ?_
                refine GA.pg 12 rfl rfl rfl (by kernel_rfl) (fun w1 hw1 => hSb _ w1 hw1 (by simp)) (fun _ => V.fa F33_2 rfl) rfl ?_
                refine GA.ldg 13 rfl rfl rfl (by kernel_rfl) (fun w1 hw1 => hSb _ w1 hw1 (by simp)) Tryd.isAgg24 rfl (fun w1 h => h.1 2 _ rfl) rfl ?_
                refine GA.pg 14 rfl rfl rfl (by kernel_rfl) (fun w1 hw1 => hSb _ w1 hw1 (by simp)) (fun _ => V.fa F33_1 rfl) rfl ?_
                refine GA.ldg 15 rfl rfl rfl (by kernel_rfl) (fun w1 hw1 => hSb _ w1 hw1 (by simp)) Tryd.isAgg9 rfl (fun w1 h => h.1 1 _ rfl) rfl ?_
                refine GA.one 16 rfl (by kernel_rfl) ?_
                refine GB.gd rfl rfl ?_
                refine GB.callW (xs := [.tmp 98]) (vs := [S rb.p]) (fun v H2 => ∃ Hq, Own 9 1 v (prs rb.p none).2.length ((prs rb.p none).2.map S) Hq ∧ H2 = Hq ++ (⟨b7, true, .row [I (n : Nat), S rb.p, .slice adn (prs rb.p none).2.length cpn, .slice adv vs2.length cpv, S []] 33 (0, 0)⟩ :: ((Hn ++ Hv) ++ Hs0))) Tryd.call15 rfl rfl (fun v H2 ⟨Hq, _, h2⟩ w1 hw1 => hSb _ w1 hw1 (by rw [h2]; simp)) (fun w1 hw1 => ?_) ?_
                · refine (f15_any w1 rb.p (by omega)).mono fun e w' ⟨v, H1, h1, h2, h3⟩ => ?_
                  rw [hePp] at h2
                  exact ⟨_, _, h1, hw1.after0 h3 h2.w, H1, h2, rfl⟩
                rintro v H2 ⟨Hq, hownq, rfl⟩
                obtain ⟨adq, cpq, rfl⟩ := hownq.slice
                refine GA.one 17 rfl (by kernel_rfl) ?_
                refine GB.gd rfl rfl ?_
                refine GB.callW (xs := [.tmp 96, .tmp 99]) (vs := [.slice adn (prs rb.p none).2.length cpn, .slice adq (prs rb.p none).2.length cpq]) (fun v H2 => v = .bool true ∧ H2 = Hq ++ (⟨b7, true, .row [I (n : Nat), S rb.p, .slice adn (prs rb.p none).2.length cpn, .slice adv vs2.length cpv, S []] 33 (0, 0)⟩ :: ((Hn ++ Hv) ++ Hs0))) Tryd.call22 rfl rfl (fun v H2 ⟨_, h2⟩ w1 hw1 => hSb _ w1 hw1 (by rw [h2]; simp)) (fun w1 hw1 => ?_) ?_
                · exact (f22_any w1 adn adq cpn cpq (prs rb.p none).2 (prs rb.p none).2 (hown1.tx fun e he => hw1.has e (by simp [he])) (hownq.tx fun e he => hw1.has e (by simp [he])) (by omega) (by omega)).mono fun e w' ⟨h1, h2⟩ => ⟨_, _, h1, hw1.after0 h2 (fun e he => by cases he), by simp, rfl⟩
                rintro v H2 ⟨rfl, rfl⟩
                refine GA.pg 18 rfl rfl rfl (by kernel_rfl) (fun w1 hw1 => hSb _ w1 hw1 (by simp)) (fun _ => V.pickT rfl rfl) rfl ?_
                refine GA.pg 19 rfl rfl rfl (by kernel_rfl) (fun w1 hw1 => hSb _ w1 hw1 (by simp)) (fun _ => V.mv rfl) rfl ?_
                refine GA.pg 20 rfl rfl rfl (by kernel_rfl) (fun w1 hw1 => hSb _ w1 hw1 (by simp)) (fun _ => V.fa F33_3 rfl) rfl ?_
                refine GA.ldg 21 rfl rfl rfl (by kernel_rfl) (fun w1 hw1 => hSb _ w1 hw1 (by simp)) Tryd.isAgg24 rfl (fun w1 h => h.1 3 _ rfl) rfl ?_
                refine GA.pg 22 rfl rfl rfl (by kernel_rfl) (fun w1 hw1 => hSb _ w1 hw1 (by simp)) (fun _ => V.mv rfl) rfl ?_
                refine GA.one 23 rfl (by kernel_rfl) ?_
                refine GB.gd rfl rfl ?_
                refine GB.callW (xs := [.tmp 104, .tmp 105]) (vs := [.slice adv vs2.length cpv, .slice adS vs2.length cpS]) (fun v H2 => v = .bool true ∧ H2 = Hq ++ (⟨b7, true, .row [I (n : Nat), S rb.p, .slice adn (prs rb.p none).2.length cpn, .slice adv vs2.length cpv, S []] 33 (0, 0)⟩ :: ((Hn ++ Hv) ++ Hs0))) Tryd.call22 rfl rfl (fun v H2 ⟨_, h2⟩ w1 hw1 => hSb _ w1 hw1 (by rw [h2]; simp)) (fun w1 hw1 => ?_) ?_
                · exact (f22_any w1 adv adS cpv cpS vs2 vs2 (hown2.tx fun e he => hw1.has e (by simp [he])) (hownS.tx fun e he => hw1.has e (by simp [he])) (by omega) (by omega)).mono fun e w' ⟨h1, h2⟩ => ⟨_, _, h1, hw1.after0 h2 (fun e he => by cases he), by simp, rfl⟩
                rintro v H2 ⟨rfl, rfl⟩
                refine GA.pg 24 rfl rfl rfl (by kernel_rfl) (fun w1 hw1 => hSb _ w1 hw1 (by simp)) (fun _ => V.pickT rfl rfl) rfl ?_
                refine GA.p 25 rfl (by kernel_rfl) (fun w1 hw1 => hSb _ w1 hw1 (by simp)) (fun _ => V.pickF rfl rfl) rfl ?_
                refine GA.p 26 rfl (by kernel_rfl) (fun w1 hw1 => hSb _ w1 hw1 (by simp)) (fun _ => V.asg rfl) rfl ?_
                refine GA.done (by kernel_rfl) ?_
                exact J17 _ _ (.cons rfl .nil)
            intro fr' H' hs17
            refine GC.weak hs17 ?_
            clear hs17
            exact GC.ret1 rfl rfl fun w' hw' => ⟨rfl, hw'.sub (List.nil_sublist _)⟩
end Go.Proofs

/- A law's card out of its walk: FnEchoFind. -/
set_option maxRecDepth 100000
namespace Go.Proofs.YtekclaobeccbdaaDoor.find
open Go Bw Go.ChangeShapes Go.WideShapes Go.ChangeAt Go.RowKit

/-- what bytes.ErrTooLarge is laid as -/
abbrev tooS : ByteArray := { data := #[98, 121, 116, 101, 115, 46, 66, 117, 102, 102, 101, 114, 58, 32, 116, 111, 111, 32, 108, 97, 114, 103, 101] }
noncomputable def low : Nat := (World.holding Tryd.prog default ⟨#[], #[], []⟩).heap.size
noncomputable def laidWorld (os : Os) : World :=
  let w0 := World.holding Tryd.prog os ⟨#[.cells #[.string tooS] 217], #[], []⟩
  { w0 with heap := w0.heap.modify 1 fun
      | .cells _ t frozen => .cells #[.iface 200 (.pointer (some ⟨low, 0, none⟩))] t frozen
      | o => o }

theorem contract (H : Type) (enc : TypeId × Value → H) (W : World) (base : Nat) (args : Array Value) (ds gs : List (DataW H)) (before : List MemPlace)
    (hval : ∀ (j : Nat) t v, Tryd.f5.params[j]? = some t → args[j]? = some v → Value.okWide Tryd.prog W .any base t v)
    (hW : DataW.Whole enc Tryd.prog Tryd.f5.params.toList Rows.fnEchoFindSpec.vars false W args.toList ds gs before) :
    Calls Tryd.prog 5 args W fun e W' => ∃ v, e = .returned v ∧ Rows.fnEchoFindSpec.post enc Tryd.prog Tryd.f5 false true false false W args v W' := by
  have hW' := hW
  obtain ⟨p, q, hA0, hV, rfl, hfz, hnd⟩ := hW
  have hA : DataW.TrodAll enc Tryd.prog W 0 (fun _ => true) true [28, 9] args.toList ds p := hA0
  obtain ⟨v0, vs0, d0, ds0, p0, q0, hargs, rfl, rfl, h0, r0⟩ := trodAll_cons hA
  obtain ⟨v1, vs_1, d1, ds1, p1, q1, rfl, rfl, rfl, h1, r1⟩ := trodAll_cons r0
  obtain ⟨rfl, rfl, rfl⟩ := trodAll_nil r1
  obtain rfl : args = #[v0, v1] := by cases args; simp_all
  obtain ⟨ad0, cp0, Rs, rfl, hcp0, hat0⟩ := open_rts Tryd.underlying28 Tryd.underlying23 tryd_c23 ⟨rfl, rfl⟩ ⟨rfl, rfl⟩ ⟨rfl, rfl⟩ Tryd.underlying9 tryd_c9 (hval 0 28 v0 rfl rfl) h0
  obtain ⟨l1, rfl⟩ := open_str Tryd.underlying9 (hval 1 9 v1 rfl rfl)
  refine (f5_any W ad0 cp0 Rs l1 hat0).mono fun e W' ⟨he, hf⟩ => ⟨_, he, ?_⟩
  refine post_law hW' rfl rfl ?_ (by kernel_rfl) (below_of hf)
  obtain ⟨rfl, rfl⟩ := trodVars_none hV
  rfl

theorem laid_met (os : Os) : laidMet Tryd.prog Rows.fnEchoFindRow.laid ((laidWorld os).forCall (fun _ _ => 0) ⟨#[], #[.slice none 0 0, .string ⟨#[]⟩], []⟩).memory :=
  laidMet_of_run (ps := [.cell 1 0, .cell low 0]) 8 (by kernel_rfl) (by kernel_rfl) (by kernel_rfl)
theorem reads (os : Os) {H : Type} (enc : TypeId × Value → H) : ∃ places, DataW.whole enc Tryd.prog ((laidWorld os).forCall (fun _ _ => 0) ⟨#[], #[.slice none 0 0, .string ⟨#[]⟩], []⟩).memory Tryd.f5.params.toList Rows.fnEchoFindSpec.vars false (#[.slice none 0 0, .string ⟨#[]⟩] : Array Value).toList 8 = some ([.nil, .lit (.string [])], [], places) :=
  ⟨[], by kernel_rfl⟩

theorem lifted (os : Os) (started : os.Started) (H : Type) (enc : TypeId × Value → H) (F : Stop.Interp) :
    ReturnsInHanded {} Tryd.checked os 5 .any ((OpenSpec.ofChange Rows.fnEchoFindSpec).preRow enc Tryd.prog Tryd.f5 Rows.fnEchoFindRow.domain false Rows.fnEchoFindRow.laid) (((OpenSpec.ofChange Rows.fnEchoFindSpec).at F).post enc Tryd.prog Tryd.f5 false true false false) := by
  obtain ⟨places, hx⟩ := reads os enc
  refine returnsInHanded_of_row (C := Tryd.checked) (s := OpenSpec.ofChange Rows.fnEchoFindSpec) tryd_own started (by kernel_rfl) Tryd.func5
    (witness_row_at (enc := enc) (C := Tryd.checked) false (laidWorld os) #[.slice none 0 0, .string ⟨#[]⟩] rfl (by kernel_rfl) (by kernel_rfl) (by kernel_rfl)
      (OpenSpec.preRow_of_cond 8 hx (by kernel_rfl) (fun k hk => by cases hk) (by kernel_rfl) (laid_met os))) ?_
  intro W base args ds gs before hval hW _ _ _ hL _ _
  exact contract H enc W base args ds gs before hval hW

theorem said : Rows.FnEchoFindSaid :=
  OpenClaim.holds_of_cond 5 Tryd.f5 rfl rfl rfl rfl rfl rfl rfl ⟨rfl, rfl, rfl, rfl, rfl⟩ rfl rfl rfl rfl rfl (by kernel_rfl) Tryd.func5 (by kernel_rfl)
    (of_decide_eq_true (by kernel_rfl)) (by unfold Func.isWrapper; first | (rw [if_pos (by decide +kernel)]; kernel_rfl) | (rw [if_neg (by decide +kernel)]; exact ⟨rfl, rfl⟩))
    (fun os started H enc _ F => by rw [OpenClaim.pre_eq_preRow]; exact lifted os started H enc F)

theorem plain (f : FuncId) (fn : Func) (hf : Tryd.pinned.checked.prog.funcNamed "pub-bridleway/laws.FnEchoFind" = some f) (hfn : Tryd.pinned.checked.prog.funcs[f]? = some fn) :
    false = Tryd.pinned.checked.prog.looks [] ∧ ∀ (j : Nat) t, fn.params[j]? = some t → Tryd.pinned.checked.prog.wantsStandIn t = false := by
  obtain rfl : f = 5 := Option.some.inj ((show Tryd.prog.funcNamed "pub-bridleway/laws.FnEchoFind" = some 5 by kernel_rfl).symm.trans hf) |>.symm
  obtain rfl : fn = Tryd.f5 := (Option.some.inj (Tryd.func5.symm.trans hfn)).symm
  refine ⟨by kernel_rfl, fun j t ht => ?_⟩
  have hm : t ∈ [28, 9] := by have := Array.mem_of_getElem? ht; simpa [Tryd.params5] using this
  have hall : ∀ u ∈ [28, 9], Tryd.prog.wantsStandIn u = false := by
    intro u hu
    simp only [List.mem_cons, List.not_mem_nil, or_false] at hu
    rcases hu with rfl | rfl
    · exact (show Tryd.prog.wantsStandIn 28 = false by kernel_rfl)
    · exact (show Tryd.prog.wantsStandIn 9 = false by kernel_rfl)
  exact hall t hm

theorem card : Rows.FnEchoFindCardSaid :=
  Claim7.holds_tied_plain_at .later [] _ _ _ _ said (fun _ h => by cases h) (by kernel_rfl) (fun _ h => by cases h) fnEchoFind_row_tie rfl ⟨rfl, rfl⟩ (by kernel_rfl) rfl plain (by kernel_rfl)
end Go.Proofs.YtekclaobeccbdaaDoor.find
