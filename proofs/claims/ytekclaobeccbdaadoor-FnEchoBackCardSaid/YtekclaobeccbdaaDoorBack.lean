/- The law FnEchoBack holds for every input: the values of a route that is found, put in the place of its parameters, are the path. -/
import Derived.Test.YtekclaobeccbdaaDoorBl
import Derived.Test.YtekclaobeccbdaaDoorBk
/- FnEchoBack. Printed by wip/mk_i2.py. -/
namespace Go.Proofs
open Go Bw
set_option maxRecDepth 20000

theorem f4_any (w : World) (ad : Option Addr) (cp : Nat) (Rs : List RB) (meth path : List UInt8) (hat : RtsAt w ad Rs) : Calls Tryd.prog 4 #[.slice ad Rs.length cp, S meth, S path] w fun e w' => e = .returned (.bool true) ∧ HF w (fun _ => False) [] w' := by
  refine enter (fun _ => False) [] Tryd.func4 rfl Tryd.ntmps4 rfl rfl (HF.start w _) fun c hc => ?_
  subst hc
  refine GC.seq ?_
  refine GC.reg ?_  -- region 0, echo.go:139
  refine G.v (V.asg rfl) rfl ?_
  refine G.nil ?_
  refine GC.seq ?_
  refine GC.seq ?_
  refine GC.reg ?_  -- region 1, echo.go:140
  refine G.v (V.mv rfl) rfl ?_
  refine G.callP Tryd.call23 rfl rfl (fun w1 hw1 => f23_any w1 ad cp Rs (fun i r hr => by obtain ⟨b, o, h1, h2⟩ := hat i r hr; exact ⟨b, o, h1, fun j v hj => hw1.cellOld (h2 j v hj) id⟩)) ?_
  refine G.v (V.not rfl) rfl ?_
  refine G.v (V.mv rfl) rfl ?_
  refine G.bc 12 rfl (fun h12 => ?_) (fun h12 => ?_)
  · refine G.sg rfl rfl rfl rfl rfl rfl ?_
    refine G.sg rfl rfl rfl rfl rfl rfl ?_
    refine G.sg rfl rfl rfl rfl rfl rfl ?_
    refine G.v (V.pickT rfl rfl) rfl ?_
    refine G.v (V.mv rfl) rfl ?_
    refine G.sg rfl rfl rfl rfl rfl rfl ?_
    refine G.sg rfl rfl rfl rfl rfl rfl ?_
    refine G.sg rfl rfl rfl rfl rfl rfl ?_
    refine G.v (V.pickT rfl rfl) rfl ?_
    refine G.nil ?_
    refine GC.condT rfl ?_
    refine GC.seq ?_
    refine GC.reg ?_  -- region 2, echo.go:141
    refine G.v (V.asg rfl) rfl ?_
    refine G.nil ?_
    exact GC.ret1 rfl rfl fun w' hw' => ⟨by first | rfl | (rw [hrv]; simp), hw'.sub (List.nil_sublist _)⟩
  · refine G.vg rfl rfl (V.mv rfl) rfl ?_
    refine G.vg rfl rfl (V.lenS Tryd.underlying9 rfl) rfl ?_
    refine G.vg rfl rfl (V.gt rfl rfl) rfl ?_
    refine G.v (V.pickF rfl rfl) rfl ?_
    refine G.v (V.mv rfl) rfl ?_
    refine G.bc 17 rfl (fun h17 => ?_) (fun h17 => ?_)
    · refine G.sg rfl rfl rfl rfl rfl rfl ?_
      refine G.sg rfl rfl rfl rfl rfl rfl ?_
      refine G.sg rfl rfl rfl rfl rfl rfl ?_
      refine G.v (V.pickT rfl rfl) rfl ?_
      refine G.nil ?_
      refine GC.condT rfl ?_
      refine GC.seq ?_
      refine GC.reg ?_  -- region 2, echo.go:141
      refine G.v (V.asg rfl) rfl ?_
      refine G.nil ?_
      exact GC.ret1 rfl rfl fun w' hw' => ⟨by first | rfl | (rw [hrv]; simp), hw'.sub (List.nil_sublist _)⟩
    · refine G.vg rfl rfl (V.mv rfl) rfl ?_
      refine G.vg rfl rfl (V.lenS Tryd.underlying9 rfl) rfl ?_
      refine G.vg rfl rfl (V.gt rfl rfl) rfl ?_
      refine G.v (V.pickF rfl rfl) rfl ?_
      refine G.nil ?_
      refine GC.cond rfl (fun h21 => ?_) (fun h21 => ?_)
      · refine GC.seq ?_
        refine GC.reg ?_  -- region 2, echo.go:141
        refine G.v (V.asg rfl) rfl ?_
        refine G.nil ?_
        exact GC.ret1 rfl rfl fun w' hw' => ⟨by first | rfl | (rw [hrv]; simp), hw'.sub (List.nil_sublist _)⟩
      refine GC.skip ?_
      refine GC.seq ?_
      refine GC.seq ?_
      refine GC.reg ?_  -- region 3, echo.go:143
      refine G.v (V.mv rfl) rfl ?_
      refine G.callW (fun v H2 => ∃ b : Bool, (b = true ↔ Right Rs) ∧ v = .bool b ∧ H2 = []) Tryd.call14 rfl rfl (fun w1 hw1 => ?_) ?_
      · refine (f14_any w1 ad cp Rs (fun i r hr => by obtain ⟨b, o, h1, h2⟩ := hat i r hr; exact ⟨b, o, h1, fun j v hj => hw1.cellOld (h2 j v hj) id⟩)).mono fun e w' ⟨b, h1, h2, h3⟩ => ⟨_, _, h2, ?_, b, h1, rfl, rfl⟩
        exact hw1.after0 h3 (fun e he => by cases he)
      rintro v H2 ⟨br, hbr, rfl, rfl⟩
      refine G.v (V.not rfl) rfl ?_
      refine G.v (V.mv rfl) rfl ?_
      refine G.bc 25 rfl (fun h25 => ?_) (fun h25 => ?_)
      · refine G.sg rfl rfl rfl rfl rfl rfl ?_
        refine G.sg rfl rfl rfl rfl rfl rfl ?_
        refine G.sg rfl rfl rfl rfl rfl rfl ?_
        refine G.v (V.pickT rfl rfl) rfl ?_
        refine G.v (V.mv rfl) rfl ?_
        refine G.sg rfl rfl rfl rfl rfl rfl ?_
        refine G.sg rfl rfl rfl rfl rfl rfl ?_
        refine G.sg rfl rfl rfl rfl rfl rfl ?_
        refine G.v (V.pickT rfl rfl) rfl ?_
        refine G.nil ?_
        refine GC.condT rfl ?_
        refine GC.seq ?_
        refine GC.reg ?_  -- region 4, echo.go:144
        refine G.callP Tryd.call16 rfl rfl (fun w1 hw1 => f16_any w1) ?_
        refine G.v (V.asg rfl) rfl ?_
        refine G.nil ?_
        exact GC.ret1 rfl rfl fun w' hw' => ⟨by first | rfl | (rw [hrv]; simp), hw'.sub (List.nil_sublist _)⟩
      · refine G.vg rfl rfl (V.mv rfl) rfl ?_
        refine G.vg rfl rfl (V.lenS Tryd.underlying9 rfl) rfl ?_
        refine G.vg rfl rfl (V.gt rfl rfl) rfl ?_
        refine G.v (V.pickF rfl rfl) rfl ?_
        refine G.v (V.mv rfl) rfl ?_
        refine G.bc 30 rfl (fun h30 => ?_) (fun h30 => ?_)
        · refine G.sg rfl rfl rfl rfl rfl rfl ?_
          refine G.sg rfl rfl rfl rfl rfl rfl ?_
          refine G.sg rfl rfl rfl rfl rfl rfl ?_
          refine G.v (V.pickT rfl rfl) rfl ?_
          refine G.nil ?_
          refine GC.condT rfl ?_
          refine GC.seq ?_
          refine GC.reg ?_  -- region 4, echo.go:144
          refine G.callP Tryd.call16 rfl rfl (fun w1 hw1 => f16_any w1) ?_
          refine G.v (V.asg rfl) rfl ?_
          refine G.nil ?_
          exact GC.ret1 rfl rfl fun w' hw' => ⟨by first | rfl | (rw [hrv]; simp), hw'.sub (List.nil_sublist _)⟩
        · refine G.vg rfl rfl (V.mv rfl) rfl ?_
          refine G.vg rfl rfl (V.lenS Tryd.underlying9 rfl) rfl ?_
          refine G.vg rfl rfl (V.gt rfl rfl) rfl ?_
          refine G.v (V.pickF rfl rfl) rfl ?_
          refine G.nil ?_
          refine GC.cond rfl (fun h34 => ?_) (fun h34 => ?_)
          · refine GC.seq ?_
            refine GC.reg ?_  -- region 4, echo.go:144
            refine G.callP Tryd.call16 rfl rfl (fun w1 hw1 => f16_any w1) ?_
            refine G.v (V.asg rfl) rfl ?_
            refine G.nil ?_
            exact GC.ret1 rfl rfl fun w' hw' => ⟨by first | rfl | (rw [hrv]; simp), hw'.sub (List.nil_sublist _)⟩
          refine GC.skip ?_
          refine GC.seq ?_
          have hRt : Right Rs := hbr.1 (by simpa using h25)
          have hpl : path.length ≤ 300 := by have := of_decide_eq_false h30; omega
          refine GC.reg ?_  -- region 5, echo.go:146
          refine G.v (V.mv rfl) rfl ?_
          refine G.callW (fun v H2 => Own 51 3 v Rs.length (Rs.flatMap RB.cells) H2) Tryd.call19 rfl rfl (fun w1 hw1 => ?_) ?_
          · refine (f19_any w1 ad cp Rs (fun i r hr => by obtain ⟨b, o, h1, h2⟩ := hat i r hr; exact ⟨b, o, h1, fun j v hj => hw1.cellOld (h2 j v hj) id⟩) (by have := hRt.1; omega)).mono fun e w' ⟨v, Hs, h1, h2, h3⟩ => ⟨v, _, h1, ?_, h2⟩
            have := hw1.after0 h3 h2.w
            simpa using this
          intro v Hr hownr
          obtain ⟨adr, cpr, rfl⟩ := hownr.slice
          refine G.v (V.mv rfl) rfl ?_
          refine G.v (V.mv rfl) rfl ?_
          refine G.callW (fun v H2 => ∃ (num : Int) (p : List UInt8) (ns vs : List (List UInt8)) (al : List UInt8) (adn adv0 : Option Addr) (cpn cpv : Nat) (Hn Hv : SH), FRes Rs meth (visK (KS Rs) meth 202 [] path [] none) num p ns vs al ∧ ns.length ≤ 200 ∧ v = .agg #[I num, S p, .slice adn ns.length cpn, .slice adv0 vs.length cpv, S al] ∧ Own 9 1 (.slice adn ns.length cpn) ns.length (ns.map S) Hn ∧ Own 9 1 (.slice adv0 vs.length cpv) vs.length (vs.map S) Hv ∧ H2 = Hn ++ Hv) Tryd.call18 rfl rfl (fun w1 hw1 => ?_) ?_
          · refine (f18_any w1 adr cpr Rs meth path (rts_own hw1 (fun e he => he) hownr) (fun x h => (hRt.2 x h).ok) hRt.1 (by omega)).mono fun e w' ⟨num, p, ns, vs, al, vn, vv, Hn, Hv, h1, h1', h2, h3, h4, h5⟩ => ?_
            obtain ⟨adn, cpn, rfl⟩ := h3.slice
            obtain ⟨adv0, cpv, rfl⟩ := h4.slice
            refine ⟨_, _, h2, ?_, num, p, ns, vs, al, adn, adv0, cpn, cpv, Hn, Hv, h1, h1', rfl, h3, h4, rfl⟩
            have := hw1.after0 h5 (fun e he => by
              rcases List.mem_append.1 he with he | he
              · exact h3.w e he
              · exact h4.w e he)
            exact this.sub (List.sublist_append_left _ _)
          rintro v H2 ⟨num, p, ns, vs, al, adn, adv0, cpn, cpv, Hn, Hv, hfr, hnl, rfl, hown1, hown2, rfl⟩
          refine G.al Tryd.zeroValue33 rfl rfl (fun b7 hb7 => ?_)
          refine G.stA (cs := [I num, S p, .slice adn ns.length cpn, .slice adv0 vs.length cpv, S al]) Tryd.sizeOf33 rfl rfl (fun v hv => ?_) .z rfl ?_
          · simp only [List.mem_cons, List.not_mem_nil, or_false] at hv
            rcases hv with rfl | rfl | rfl | rfl | rfl <;> rfl
          refine G.nil ?_
          refine GC.seq ?_
          refine GC.seq ?_
          refine GC.reg ?_  -- region 6, echo.go:147
          refine G.v (V.fa F33_0 rfl) rfl ?_
          refine G.v (V.ld Tryd.isAgg3 rfl (.head _) rfl) rfl ?_
          refine G.v (V.lt rfl rfl) rfl ?_
          refine G.nil ?_
          refine GC.condD rfl (fun h43 => ?_) (fun h43 => ?_)
          · refine GC.seq ?_
            refine GC.reg ?_  -- region 7, echo.go:148
            refine G.callP Tryd.call16 rfl rfl (fun w1 hw1 => f16_any w1) ?_
            refine G.v (V.asg rfl) rfl ?_
            refine G.nil ?_
            exact GC.ret1 rfl rfl fun w' hw' => ⟨by first | rfl | (rw [hrv]; simp), hw'.sub (List.nil_sublist _)⟩
          refine GC.skip ?_
          refine GC.seq ?_
          refine GC.seq ?_
          refine GC.join (fun fr' H' => ∃ (n : Nat) (rb : RB), Rs[n]? = some rb ∧ num = (n : Nat) ∧ p = rb.p ∧ ns = (prs rb.p none).2 ∧ vs.length = ns.length ∧ (rb.m = nfName ∨ rb.m = meth ∧ fill (prs rb.p none).1 vs = path ∧ ∀ v ∈ vs, v.length ≤ path.length) ∧ Sub [(0, .slice ad Rs.length cp), (1, S meth), (2, S path), (7, Pt b7 0), (79, .bool false)] fr' ∧ (∀ w1, HF w (fun _ => False) H' w1 → HF w (fun _ => False) (⟨b7, true, .row [I num, S p, .slice adn ns.length cpn, .slice adv0 vs.length cpv, S al] 33 (0, 0)⟩ :: (Hn ++ Hv)) w1)) (fun J8 => ?_) ?_
          · have hbk := fres_back hfr
            obtain ⟨n, rb, rfl, hnlt, hrb, rfl, hnse, hvl, hfin⟩ := hbk.resolve_left h43
            have hrbR := hRt.2 rb (List.mem_of_getElem? hrb)
            obtain ⟨ab, ao, rfl, hcell⟩ := hat n rb hrb
            have hePp := ePath_of hrbR.hd
            have hprl := hrbR.pl
            subst hnse
            have hSb : ∀ (H : SH) w1, HF w (fun _ => False) H w1 → (⟨b7, true, .row [I (n : Nat), S rb.p, .slice adn (prs rb.p none).2.length cpn, .slice adv0 vs.length cpv, S al] 33 (0, 0)⟩ : Ent) ∈ H → (∀ i v, nth [I (n : Nat), S rb.p, .slice adn (prs rb.p none).2.length cpn, .slice adv0 vs.length cpv, S al] i = some v → w1.cell? ⟨b7, i, none⟩ = some v) ∧ (∀ j v, rb.cells[j]? = some v → w1.cell? ⟨ab, ao + n * 3 + j, none⟩ = some v) := fun H w1 hw hm => ⟨fun i v hv => by have := cell_row hw hm hv; exact this, fun j v hj => hw.cellOld (hcell j v hj) id⟩
            refine GC.turn (H' := ⟨b7, true, .row [I (n : Nat), S rb.p, .slice adn (prs rb.p none).2.length cpn, .slice adv0 vs.length cpv, S al] 33 (0, 0)⟩ :: (Hn ++ Hv)) (fun w1 hw1 => hw1) ?_
            refine GC.regA (fun w1 => (∀ i v, nth [I (n : Nat), S rb.p, .slice adn (prs rb.p none).2.length cpn, .slice adv0 vs.length cpv, S al] i = some v → w1.cell? ⟨b7, i, none⟩ = some v) ∧ (∀ j v, rb.cells[j]? = some v → w1.cell? ⟨ab, ao + n * 3 + j, none⟩ = some v)) mixed ?_
            refine GA.p 0 rfl (by kernel_rfl) (fun w1 hw1 => hSb _ w1 hw1 (by simp)) (fun _ => V.fa F33_0 rfl) rfl ?_
            refine GA.ld 1 rfl (by kernel_rfl) (fun w1 hw1 => hSb _ w1 hw1 (by simp)) Tryd.isAgg3 rfl (fun w1 h => h.1 0 _ rfl) rfl ?_
            refine GA.p 2 rfl (by kernel_rfl) (fun w1 hw1 => hSb _ w1 hw1 (by simp)) (fun _ => V.mv rfl) rfl ?_
            refine GA.p 3 rfl (by kernel_rfl) (fun w1 hw1 => hSb _ w1 hw1 (by simp)) (fun _ => V.lenL Tryd.underlying28 rfl) rfl ?_
            refine GA.p 4 (v := .bool false) rfl (by kernel_rfl) (fun w1 hw1 => hSb _ w1 hw1 (by simp)) (fun w0 => ge_false (by omega) (V.ge rfl rfl)) rfl ?_
            refine GA.p 5 rfl (by kernel_rfl) (fun w1 hw1 => hSb _ w1 hw1 (by simp)) (fun _ => V.mv rfl) rfl ?_
            refine GA.pg 6 rfl rfl rfl (by kernel_rfl) (fun w1 hw1 => hSb _ w1 hw1 (by simp)) (fun _ => V.fa F33_1 rfl) rfl ?_
            refine GA.ldg 7 rfl rfl rfl (by kernel_rfl) (fun w1 hw1 => hSb _ w1 hw1 (by simp)) Tryd.isAgg9 rfl (fun w1 h => h.1 1 _ rfl) rfl ?_
            refine GA.pg 8 rfl rfl rfl (by kernel_rfl) (fun w1 hw1 => hSb _ w1 hw1 (by simp)) (fun _ => V.mv rfl) rfl ?_
            refine GA.pg 9 rfl rfl rfl (by kernel_rfl) (fun w1 hw1 => hSb _ w1 hw1 (by simp)) (fun _ => V.fa F33_0 rfl) rfl ?_
            refine GA.ldg 10 rfl rfl rfl (by kernel_rfl) (fun w1 hw1 => hSb _ w1 hw1 (by simp)) Tryd.isAgg3 rfl (fun w1 h => h.1 0 _ rfl) rfl ?_
            refine GA.pg 11 rfl rfl rfl (by kernel_rfl) (fun w1 hw1 => hSb _ w1 hw1 (by simp)) (fun _ => V.ia (i := n) Tryd.underlying28 Tryd.sizeOf23 rfl rfl hnlt) rfl ?_
            refine GA.pg 12 rfl rfl rfl (by kernel_rfl) (fun w1 hw1 => hSb _ w1 hw1 (by simp)) (fun _ => V.fa F23_1 rfl) rfl ?_
            refine GA.ldg 13 rfl rfl rfl (by kernel_rfl) (fun w1 hw1 => hSb _ w1 hw1 (by simp)) Tryd.isAgg9 rfl (fun w1 h => h.2 1 (S rb.p) rfl) rfl ?_
            refine GA.one 14 rfl (by kernel_rfl) ?_
            refine GB.gd rfl rfl ?_
            refine GB.callW (xs := [.tmp 58]) (vs := [S rb.p]) (fun v H2 => v = S rb.p ∧ H2 = ⟨b7, true, .row [I (n : Nat), S rb.p, .slice adn (prs rb.p none).2.length cpn, .slice adv0 vs.length cpv, S al] 33 (0, 0)⟩ :: (Hn ++ Hv)) Tryd.call21 rfl rfl (fun v H2 ⟨_, h2⟩ w1 hw1 => hSb _ w1 hw1 (by rw [h2]; simp)) (fun w1 hw1 => ?_) ?_
            · exact (f21_any w1 rb.p (by omega)).mono fun e w' ⟨h1, h2⟩ => ⟨_, _, h1, hw1.after0 h2 (fun e he => by cases he), by rw [hePp], rfl⟩
            rintro v H2 ⟨rfl, rfl⟩
            refine GA.pg 15 (v := .bool false) rfl rfl rfl (by kernel_rfl) (fun w1 hw1 => hSb _ w1 hw1 (by simp)) (fun w0 => neS_false rfl (V.neS rfl rfl)) rfl ?_
            refine GA.p 16 rfl (by kernel_rfl) (fun w1 hw1 => hSb _ w1 hw1 (by simp)) (fun _ => V.pickF rfl rfl) rfl ?_
            refine GA.p 17 rfl (by kernel_rfl) (fun w1 hw1 => hSb _ w1 hw1 (by simp)) (fun _ => V.mv rfl) rfl ?_
            refine GA.pg 18 rfl rfl rfl (by kernel_rfl) (fun w1 hw1 => hSb _ w1 hw1 (by simp)) (fun _ => V.fa F33_2 rfl) rfl ?_
            refine GA.ldg 19 rfl rfl rfl (by kernel_rfl) (fun w1 hw1 => hSb _ w1 hw1 (by simp)) Tryd.isAgg24 rfl (fun w1 h => h.1 2 _ rfl) rfl ?_
            refine GA.pg 20 rfl rfl rfl (by kernel_rfl) (fun w1 hw1 => hSb _ w1 hw1 (by simp)) (fun _ => V.lenL Tryd.underlying24 rfl) rfl ?_
            refine GA.pg 21 rfl rfl rfl (by kernel_rfl) (fun w1 hw1 => hSb _ w1 hw1 (by simp)) (fun _ => V.fa F33_3 rfl) rfl ?_
            refine GA.ldg 22 rfl rfl rfl (by kernel_rfl) (fun w1 hw1 => hSb _ w1 hw1 (by simp)) Tryd.isAgg24 rfl (fun w1 h => h.1 3 _ rfl) rfl ?_
            refine GA.pg 23 rfl rfl rfl (by kernel_rfl) (fun w1 hw1 => hSb _ w1 hw1 (by simp)) (fun _ => V.lenL Tryd.underlying24 rfl) rfl ?_
            refine GA.pg 24 (v := .bool false) rfl rfl rfl (by kernel_rfl) (fun w1 hw1 => hSb _ w1 hw1 (by simp)) (fun w0 => neI_false (by omega) (V.neI rfl rfl)) rfl ?_
            refine GA.p 25 rfl (by kernel_rfl) (fun w1 hw1 => hSb _ w1 hw1 (by simp)) (fun _ => V.pickF rfl rfl) rfl ?_
            refine GA.p 26 rfl (by kernel_rfl) (fun w1 hw1 => hSb _ w1 hw1 (by simp)) (fun _ => V.mv rfl) rfl ?_
            refine GA.pg 27 rfl rfl rfl (by kernel_rfl) (fun w1 hw1 => hSb _ w1 hw1 (by simp)) (fun _ => V.fa F33_2 rfl) rfl ?_
            refine GA.ldg 28 rfl rfl rfl (by kernel_rfl) (fun w1 hw1 => hSb _ w1 hw1 (by simp)) Tryd.isAgg24 rfl (fun w1 h => h.1 2 _ rfl) rfl ?_
            refine GA.pg 29 rfl rfl rfl (by kernel_rfl) (fun w1 hw1 => hSb _ w1 hw1 (by simp)) (fun _ => V.fa F33_1 rfl) rfl ?_
            refine GA.ldg 30 rfl rfl rfl (by kernel_rfl) (fun w1 hw1 => hSb _ w1 hw1 (by simp)) Tryd.isAgg9 rfl (fun w1 h => h.1 1 _ rfl) rfl ?_
            refine GA.one 31 rfl (by kernel_rfl) ?_
            refine GB.gd rfl rfl ?_
            refine GB.callW (xs := [.tmp 75]) (vs := [S rb.p]) (fun v H2 => ∃ Hq, Own 9 1 v (prs rb.p none).2.length ((prs rb.p none).2.map S) Hq ∧ H2 = Hq ++ (⟨b7, true, .row [I (n : Nat), S rb.p, .slice adn (prs rb.p none).2.length cpn, .slice adv0 vs.length cpv, S al] 33 (0, 0)⟩ :: (Hn ++ Hv))) Tryd.call15 rfl rfl (fun v H2 ⟨Hq, _, h2⟩ w1 hw1 => hSb _ w1 hw1 (by rw [h2]; simp)) (fun w1 hw1 => ?_) ?_
            · refine (f15_any w1 rb.p (by omega)).mono fun e w' ⟨v, H1, h1, h2, h3⟩ => ?_
              rw [hePp] at h2
              exact ⟨_, _, h1, hw1.after0 h3 h2.w, H1, h2, rfl⟩
            rintro v H2 ⟨Hq, hownq, rfl⟩
            obtain ⟨adq, cpq, rfl⟩ := hownq.slice
            refine GA.one 32 rfl (by kernel_rfl) ?_
            refine GB.gd rfl rfl ?_
            refine GB.callW (xs := [.tmp 73, .tmp 76]) (vs := [.slice adn (prs rb.p none).2.length cpn, .slice adq (prs rb.p none).2.length cpq]) (fun v H2 => v = .bool true ∧ H2 = Hq ++ (⟨b7, true, .row [I (n : Nat), S rb.p, .slice adn (prs rb.p none).2.length cpn, .slice adv0 vs.length cpv, S al] 33 (0, 0)⟩ :: (Hn ++ Hv))) Tryd.call22 rfl rfl (fun v H2 ⟨_, h2⟩ w1 hw1 => hSb _ w1 hw1 (by rw [h2]; simp)) (fun w1 hw1 => ?_) ?_
            · exact (f22_any w1 adn adq cpn cpq (prs rb.p none).2 (prs rb.p none).2 (hown1.tx fun e he => hw1.has e (by simp [he])) (hownq.tx fun e he => hw1.has e (by simp [he])) (by omega) (by omega)).mono fun e w' ⟨h1, h2⟩ => ⟨_, _, h1, hw1.after0 h2 (fun e he => by cases he), by simp, rfl⟩
            rintro v H2 ⟨rfl, rfl⟩
            refine GA.pg 33 (v := .bool false) rfl rfl rfl (by kernel_rfl) (fun w1 hw1 => hSb _ w1 hw1 (by simp)) (fun w0 => V.not (b := true) rfl) rfl ?_
            refine GA.p 34 rfl (by kernel_rfl) (fun w1 hw1 => hSb _ w1 hw1 (by simp)) (fun _ => V.pickF rfl rfl) rfl ?_
            refine GA.done (by kernel_rfl) ?_
            exact J8 _ _ ⟨n, rb, hrb, rfl, rfl, rfl, hvl, hfin, .cons rfl (.cons rfl (.cons rfl (.cons rfl (.cons rfl .nil)))), fun w1 h => h.sub (List.sublist_append_right Hq _)⟩
          rintro fr' H' ⟨n, rb, hrb, rfl, rfl, rfl, hvl, hfin, hs8, hH8⟩
          have hnlt : n < Rs.length := (List.getElem?_eq_some_iff.1 hrb).1
          have hrbR := hRt.2 rb (List.mem_of_getElem? hrb)
          obtain ⟨ab, ao, rfl, hcell⟩ := hat n rb hrb
          have hePp := ePath_of hrbR.hd
          have hprl := hrbR.pl
          refine GC.weak hs8 ?_
          clear hs8
          refine GC.turn hH8 ?_
          refine GC.condF rfl ?_
          refine GC.skip ?_
          refine GC.seq ?_
          refine GC.seq ?_
          refine GC.reg ?_  -- region 10, echo.go:153
          refine G.v (V.mv rfl) rfl ?_
          refine G.v (V.fa F33_0 rfl) rfl ?_
          refine G.v (V.ld Tryd.isAgg3 rfl (.head _) rfl) rfl ?_
          refine G.v (V.ia (i := n) Tryd.underlying28 Tryd.sizeOf23 rfl rfl hnlt) rfl ?_
          refine G.v (V.fa F23_0 rfl) rfl ?_
          refine G.v (V.ldC (v := S rb.m) Tryd.isAgg9 rfl (hcell 0 _ rfl) id) rfl ?_
          refine G.v (V.asg rfl) rfl ?_
          refine G.nil ?_
          refine GC.seq ?_
          refine GC.reg ?_  -- region 11, echo.go:153
          refine G.v (V.mv rfl) rfl ?_
          refine G.v (V.eqS rfl rfl) rfl ?_
          refine G.nil ?_
          refine GC.condD rfl (fun h87 => ?_) (fun h87 => ?_)
          · refine GC.seq ?_
            refine GC.reg ?_  -- region 12, echo.go:154
            refine G.callP Tryd.call16 rfl rfl (fun w1 hw1 => f16_any w1) ?_
            refine G.v (V.asg rfl) rfl ?_
            refine G.nil ?_
            exact GC.ret1 rfl rfl fun w' hw' => ⟨by first | rfl | (rw [hrv]; simp), hw'.sub (List.nil_sublist _)⟩
          refine GC.seq ?_
          refine GC.reg ?_  -- region 13, echo.go:155
          refine G.v (V.mv rfl) rfl ?_
          refine G.v (V.mv rfl) rfl ?_
          refine G.v (V.neS rfl rfl) rfl ?_
          refine G.nil ?_
          refine GC.cond rfl (fun h91 => absurd (hfin.resolve_left h87).1 (by simpa using h91)) (fun h91 => ?_)
          refine GC.skip ?_
          refine GC.seq ?_
          refine GC.reg ?_  -- region 15, echo.go:158
          refine G.callP Tryd.call16 rfl rfl (fun w1 hw1 => f16_any w1) ?_
          refine G.v (V.mv rfl) rfl ?_
          refine G.bc 93 rfl (fun h93 => ?_) (fun h93 => ?_)
          · refine G.vg rfl rfl (V.fa F33_1 rfl) rfl ?_
            refine G.vg rfl rfl (V.ld Tryd.isAgg9 rfl (.head _) rfl) rfl ?_
            refine G.vg rfl rfl (V.fa F33_3 rfl) rfl ?_
            refine G.vg rfl rfl (V.ld Tryd.isAgg24 rfl (.head _) rfl) rfl ?_
            obtain ⟨hm, hfill, hvb⟩ := hfin.resolve_left h87
            have hrv : rv false rb.p vs = path := (rv_fill hrbR.okR hvl).trans hfill
            have hcpv : vs.length ≤ cpv := hown2.le
            refine G.gd rfl rfl ?_
            refine G.callP Tryd.call20 rfl rfl (fun w1 hw1 => f20_any w1 rb.p adv0 cpv vs (hown2.tx fun e he => hw1.has e (by simp [he])) (by omega) (fun x h => by have := hvb x h; omega) (by have := prs_names_le rb.p; omega) hcpv) ?_
            refine G.vg rfl rfl (V.mv rfl) rfl ?_
            refine G.vg rfl rfl (V.eqS rfl rfl) rfl ?_
            refine G.v (V.pickT rfl rfl) rfl ?_
            refine G.v (V.asg rfl) rfl ?_
            refine G.nil ?_
            exact GC.ret1 rfl rfl fun w' hw' => ⟨by first | rfl | (rw [hrv]; simp), hw'.sub (List.nil_sublist _)⟩
          · exact absurd h93 (by decide)
end Go.Proofs

/- A law's card out of its walk: FnEchoBack. -/
set_option maxRecDepth 100000
namespace Go.Proofs.YtekclaobeccbdaaDoor.back
open Go Bw Go.ChangeShapes Go.WideShapes Go.ChangeAt Go.RowKit

/-- what bytes.ErrTooLarge is laid as -/
abbrev tooS : ByteArray := { data := #[98, 121, 116, 101, 115, 46, 66, 117, 102, 102, 101, 114, 58, 32, 116, 111, 111, 32, 108, 97, 114, 103, 101] }
noncomputable def low : Nat := (World.holding Tryd.prog default ⟨#[], #[], []⟩).heap.size
noncomputable def laidWorld (os : Os) : World :=
  let w0 := World.holding Tryd.prog os ⟨#[.cells #[.string tooS] 217], #[], []⟩
  { w0 with heap := w0.heap.modify 1 fun
      | .cells _ t frozen => .cells #[.iface 200 (.pointer (some ⟨low, 0, none⟩))] t frozen
      | o => o }

theorem contract (H : Type) (enc : TypeId × Value → H) (W : World) (base : Nat) (args : Array Value) (ds gs : List (DataW H)) (before : List MemPlace)
    (hval : ∀ (j : Nat) t v, Tryd.f4.params[j]? = some t → args[j]? = some v → Value.okWide Tryd.prog W .any base t v)
    (hW : DataW.Whole enc Tryd.prog Tryd.f4.params.toList Rows.fnEchoBackSpec.vars false W args.toList ds gs before) :
    Calls Tryd.prog 4 args W fun e W' => ∃ v, e = .returned v ∧ Rows.fnEchoBackSpec.post enc Tryd.prog Tryd.f4 false true false false W args v W' := by
  have hW' := hW
  obtain ⟨p, q, hA0, hV, rfl, hfz, hnd⟩ := hW
  have hA : DataW.TrodAll enc Tryd.prog W 0 (fun _ => true) true [28, 9, 9] args.toList ds p := hA0
  obtain ⟨v0, vs0, d0, ds0, p0, q0, hargs, rfl, rfl, h0, r0⟩ := trodAll_cons hA
  obtain ⟨v1, vs_1, d1, ds1, p1, q1, rfl, rfl, rfl, h1, r1⟩ := trodAll_cons r0
  obtain ⟨v2, vs_2, d2, ds2, p2, q2, rfl, rfl, rfl, h2, r2⟩ := trodAll_cons r1
  obtain ⟨rfl, rfl, rfl⟩ := trodAll_nil r2
  obtain rfl : args = #[v0, v1, v2] := by cases args; simp_all
  obtain ⟨ad0, cp0, Rs, rfl, hcp0, hat0⟩ := open_rts Tryd.underlying28 Tryd.underlying23 tryd_c23 ⟨rfl, rfl⟩ ⟨rfl, rfl⟩ ⟨rfl, rfl⟩ Tryd.underlying9 tryd_c9 (hval 0 28 v0 rfl rfl) h0
  obtain ⟨l1, rfl⟩ := open_str Tryd.underlying9 (hval 1 9 v1 rfl rfl)
  obtain ⟨l2, rfl⟩ := open_str Tryd.underlying9 (hval 2 9 v2 rfl rfl)
  refine (f4_any W ad0 cp0 Rs l1 l2 hat0).mono fun e W' ⟨he, hf⟩ => ⟨_, he, ?_⟩
  refine post_law hW' rfl rfl ?_ (by kernel_rfl) (below_of hf)
  obtain ⟨rfl, rfl⟩ := trodVars_none hV
  rfl

theorem laid_met (os : Os) : laidMet Tryd.prog Rows.fnEchoBackRow.laid ((laidWorld os).forCall (fun _ _ => 0) ⟨#[], #[.slice none 0 0, .string ⟨#[]⟩, .string ⟨#[]⟩], []⟩).memory :=
  laidMet_of_run (ps := [.cell 1 0, .cell low 0]) 8 (by kernel_rfl) (by kernel_rfl) (by kernel_rfl)
theorem reads (os : Os) {H : Type} (enc : TypeId × Value → H) : ∃ places, DataW.whole enc Tryd.prog ((laidWorld os).forCall (fun _ _ => 0) ⟨#[], #[.slice none 0 0, .string ⟨#[]⟩, .string ⟨#[]⟩], []⟩).memory Tryd.f4.params.toList Rows.fnEchoBackSpec.vars false (#[.slice none 0 0, .string ⟨#[]⟩, .string ⟨#[]⟩] : Array Value).toList 8 = some ([.nil, .lit (.string []), .lit (.string [])], [], places) :=
  ⟨[], by kernel_rfl⟩

theorem lifted (os : Os) (started : os.Started) (H : Type) (enc : TypeId × Value → H) (F : Stop.Interp) :
    ReturnsInHanded {} Tryd.checked os 4 .any ((OpenSpec.ofChange Rows.fnEchoBackSpec).preRow enc Tryd.prog Tryd.f4 Rows.fnEchoBackRow.domain false Rows.fnEchoBackRow.laid) (((OpenSpec.ofChange Rows.fnEchoBackSpec).at F).post enc Tryd.prog Tryd.f4 false true false false) := by
  obtain ⟨places, hx⟩ := reads os enc
  refine returnsInHanded_of_row (C := Tryd.checked) (s := OpenSpec.ofChange Rows.fnEchoBackSpec) tryd_own started (by kernel_rfl) Tryd.func4
    (witness_row_at (enc := enc) (C := Tryd.checked) false (laidWorld os) #[.slice none 0 0, .string ⟨#[]⟩, .string ⟨#[]⟩] rfl (by kernel_rfl) (by kernel_rfl) (by kernel_rfl)
      (OpenSpec.preRow_of_cond 8 hx (by kernel_rfl) (fun k hk => by cases hk) (by kernel_rfl) (laid_met os))) ?_
  intro W base args ds gs before hval hW _ _ _ hL _ _
  exact contract H enc W base args ds gs before hval hW

theorem said : Rows.FnEchoBackSaid :=
  OpenClaim.holds_of_cond 4 Tryd.f4 rfl rfl rfl rfl rfl rfl rfl ⟨rfl, rfl, rfl, rfl, rfl⟩ rfl rfl rfl rfl rfl (by kernel_rfl) Tryd.func4 (by kernel_rfl)
    (of_decide_eq_true (by kernel_rfl)) (by unfold Func.isWrapper; first | (rw [if_pos (by decide +kernel)]; kernel_rfl) | (rw [if_neg (by decide +kernel)]; exact ⟨rfl, rfl⟩))
    (fun os started H enc _ F => by rw [OpenClaim.pre_eq_preRow]; exact lifted os started H enc F)

theorem plain (f : FuncId) (fn : Func) (hf : Tryd.pinned.checked.prog.funcNamed "pub-bridleway/laws.FnEchoBack" = some f) (hfn : Tryd.pinned.checked.prog.funcs[f]? = some fn) :
    false = Tryd.pinned.checked.prog.looks [] ∧ ∀ (j : Nat) t, fn.params[j]? = some t → Tryd.pinned.checked.prog.wantsStandIn t = false := by
  obtain rfl : f = 4 := Option.some.inj ((show Tryd.prog.funcNamed "pub-bridleway/laws.FnEchoBack" = some 4 by kernel_rfl).symm.trans hf) |>.symm
  obtain rfl : fn = Tryd.f4 := (Option.some.inj (Tryd.func4.symm.trans hfn)).symm
  refine ⟨by kernel_rfl, fun j t ht => ?_⟩
  have hm : t ∈ [28, 9, 9] := by have := Array.mem_of_getElem? ht; simpa [Tryd.params4] using this
  have hall : ∀ u ∈ [28, 9, 9], Tryd.prog.wantsStandIn u = false := by
    intro u hu
    simp only [List.mem_cons, List.not_mem_nil, or_false] at hu
    rcases hu with rfl | rfl | rfl
    · exact (show Tryd.prog.wantsStandIn 28 = false by kernel_rfl)
    · exact (show Tryd.prog.wantsStandIn 9 = false by kernel_rfl)
    · exact (show Tryd.prog.wantsStandIn 9 = false by kernel_rfl)
  exact hall t hm

theorem card : Rows.FnEchoBackCardSaid :=
  Claim7.holds_tied_plain_at .later [] _ _ _ _ said (fun _ h => by cases h) (by kernel_rfl) (fun _ h => by cases h) fnEchoBack_row_tie rfl ⟨rfl, rfl⟩ (by kernel_rfl) rfl plain (by kernel_rfl)
end Go.Proofs.YtekclaobeccbdaaDoor.back
