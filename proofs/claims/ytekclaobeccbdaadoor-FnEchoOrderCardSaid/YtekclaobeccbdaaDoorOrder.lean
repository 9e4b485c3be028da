/- The law FnEchoOrder holds for every input: the order in which routes are added does not matter. -/
import Derived.Test.YtekclaobeccbdaaDoorBp
import Derived.Test.YtekclaobeccbdaaDoorBq
import Derived.Test.YtekclaobeccbdaaDoorBn
import Derived.Test.YtekclaobeccbdaaDoorBk
/- FnEchoOrder. Printed by wip/mk_i11.py. -/
namespace Go.Proofs
open Go Bw
set_option maxRecDepth 20000

theorem eqS_tt {P : Program} {c : Cx} {n : Nat} {op : Op} {ty : TypeId} {fr : SF} {H : SH} {i j : List UInt8} (h : i = j) (hv : Val P c n op ty fr H (.bool (decide (i = j)))) : Val P c n op ty fr H (.bool true) := by rw [decide_eq_true h] at hv; exact hv
theorem turn_get {Rs : List RB} {ord : List Nat} (hp : ord.Perm (List.range Rs.length)) (k : Nat) : (ord.map fun i => Rs.getD i dR)[k]? = (ord[k]?).bind fun i => Rs[i]? := by
  rw [List.getElem?_map]
  cases h : ord[k]? with
  | none => rfl
  | some i =>
    have hi : i < Rs.length := List.mem_range.1 (hp.mem_iff.1 (List.mem_of_getElem? h))
    show some (Rs.getD i dR) = Rs[i]?
    rw [List.getElem?_eq_getElem hi, List.getD_eq_getElem?_getD, List.getElem?_eq_getElem hi]; rfl
theorem turn_right {Rs : List RB} (hR : Right Rs) {ord : List Nat} (hp : ord.Perm (List.range Rs.length)) : Right (ord.map fun i => Rs.getD i dR) := by
  refine ⟨by rw [List.length_map, hp.length_eq, List.length_range]; exact hR.1, fun r hr => ?_⟩
  obtain ⟨k, hk⟩ := List.getElem?_of_mem hr
  rw [turn_get hp] at hk
  obtain ⟨i, _, h2⟩ := Option.bind_eq_some_iff.1 hk
  exact hR.2 r (List.mem_of_getElem? h2)

theorem f11_any (w : World) (ad : Option Addr) (cp : Nat) (Rs : List RB) (ad1 : Option Addr) (cp1 : Nat) (bs : List UInt8) (meth path : List UInt8) (hat : RtsAt w ad Rs) (hbs : BytesAt w ad1 bs) : Calls Tryd.prog 11 #[.slice ad Rs.length cp, .slice ad1 bs.length cp1, S meth, S path] w fun e w' => e = .returned (.bool true) ∧ HF w (fun _ => False) [] w' := by
  refine enter (fun _ => False) [] Tryd.func11 rfl Tryd.ntmps11 rfl rfl (HF.start w _) fun c hc => ?_
  subst hc
  refine GC.seq ?_
  refine GC.reg ?_  -- region 0, echo.go:120
  refine G.v (V.asg rfl) rfl ?_
  refine G.nil ?_
  refine GC.seq ?_
  refine GC.seq ?_
  refine GC.reg ?_  -- region 1, echo.go:121
  refine G.v (V.mv rfl) rfl ?_
  refine G.callP Tryd.call23 rfl rfl (fun w1 hw1 => f23_any w1 ad cp Rs (fun i r hr => by obtain ⟨b, o, h1, h2⟩ := hat i r hr; exact ⟨b, o, h1, fun j v hj => hw1.cellOld (h2 j v hj) id⟩)) ?_
  refine G.v (V.not rfl) rfl ?_
  refine G.v (V.mv rfl) rfl ?_
  refine G.bc 16 rfl (fun h16 => ?_) (fun h16 => ?_)
  · refine G.sg rfl rfl rfl rfl rfl rfl ?_
    refine G.sg rfl rfl rfl rfl rfl rfl ?_
    refine G.sg rfl rfl rfl rfl rfl rfl ?_
    refine G.v (V.pickT rfl rfl) rfl ?_
    refine G.v (V.mv rfl) rfl ?_
    refine G.sg rfl rfl rfl rfl rfl rfl ?_
    refine G.sg rfl rfl rfl rfl rfl rfl ?_
    refine G.sg rfl rfl rfl rfl rfl rfl ?_
    refine G.v (V.pickT rfl rfl) rfl ?_
    refine G.v (V.mv rfl) rfl ?_
    refine G.sg rfl rfl rfl rfl rfl rfl ?_
    refine G.sg rfl rfl rfl rfl rfl rfl ?_
    refine G.sg rfl rfl rfl rfl rfl rfl ?_
    refine G.v (V.pickT rfl rfl) rfl ?_
    refine G.nil ?_
    refine GC.condT rfl ?_
    refine GC.seq ?_
    refine GC.reg ?_  -- region 2, echo.go:122
    refine G.v (V.asg rfl) rfl ?_
    refine G.nil ?_
    exact GC.ret1 rfl rfl fun w' hw' => ⟨rfl, hw'.sub (List.nil_sublist _)⟩
  · refine G.vg rfl rfl (V.mv rfl) rfl ?_
    refine G.vg rfl rfl (V.lenL Tryd.underlying58 rfl) rfl ?_
    refine G.vg rfl rfl (V.gt rfl rfl) rfl ?_
    refine G.v (V.pickF rfl rfl) rfl ?_
    refine G.v (V.mv rfl) rfl ?_
    refine G.bc 21 rfl (fun h21 => ?_) (fun h21 => ?_)
    · refine G.sg rfl rfl rfl rfl rfl rfl ?_
      refine G.sg rfl rfl rfl rfl rfl rfl ?_
      refine G.sg rfl rfl rfl rfl rfl rfl ?_
      refine G.v (V.pickT rfl rfl) rfl ?_
      refine G.v (V.mv rfl) rfl ?_
      refine G.sg rfl rfl rfl rfl rfl rfl ?_
      refine G.sg rfl rfl rfl rfl rfl rfl ?_
      refine G.sg rfl rfl rfl rfl rfl rfl ?_
      refine G.v (V.pickT rfl rfl) rfl ?_
      refine G.nil ?_
      refine GC.condT rfl ?_
      refine GC.seq ?_
      refine GC.reg ?_  -- region 2, echo.go:122
      refine G.v (V.asg rfl) rfl ?_
      refine G.nil ?_
      exact GC.ret1 rfl rfl fun w' hw' => ⟨rfl, hw'.sub (List.nil_sublist _)⟩
    · refine G.vg rfl rfl (V.mv rfl) rfl ?_
      refine G.vg rfl rfl (V.lenS Tryd.underlying9 rfl) rfl ?_
      refine G.vg rfl rfl (V.gt rfl rfl) rfl ?_
      refine G.v (V.pickF rfl rfl) rfl ?_
      refine G.v (V.mv rfl) rfl ?_
      refine G.bc 26 rfl (fun h26 => ?_) (fun h26 => ?_)
      · refine G.sg rfl rfl rfl rfl rfl rfl ?_
        refine G.sg rfl rfl rfl rfl rfl rfl ?_
        refine G.sg rfl rfl rfl rfl rfl rfl ?_
        refine G.v (V.pickT rfl rfl) rfl ?_
        refine G.nil ?_
        refine GC.condT rfl ?_
        refine GC.seq ?_
        refine GC.reg ?_  -- region 2, echo.go:122
        refine G.v (V.asg rfl) rfl ?_
        refine G.nil ?_
        exact GC.ret1 rfl rfl fun w' hw' => ⟨rfl, hw'.sub (List.nil_sublist _)⟩
      · refine G.vg rfl rfl (V.mv rfl) rfl ?_
        refine G.vg rfl rfl (V.lenS Tryd.underlying9 rfl) rfl ?_
        refine G.vg rfl rfl (V.gt rfl rfl) rfl ?_
        refine G.v (V.pickF rfl rfl) rfl ?_
        refine G.nil ?_
        refine GC.cond rfl (fun h30 => ?_) (fun h30 => ?_)
        · refine GC.seq ?_
          refine GC.reg ?_  -- region 2, echo.go:122
          refine G.v (V.asg rfl) rfl ?_
          refine G.nil ?_
          exact GC.ret1 rfl rfl fun w' hw' => ⟨rfl, hw'.sub (List.nil_sublist _)⟩
        refine GC.skip ?_
        refine GC.seq ?_
        refine GC.seq ?_
        refine GC.reg ?_  -- region 3, echo.go:124
        refine G.v (V.mv rfl) rfl ?_
        refine G.callW (fun v H2 => ∃ b : Bool, (b = true ↔ Right Rs) ∧ v = .bool b ∧ H2 = []) Tryd.call14 rfl rfl (fun w1 hw1 => ?_) ?_
        · refine (f14_any w1 ad cp Rs (fun i r hr => by obtain ⟨b, o, h1, h2⟩ := hat i r hr; exact ⟨b, o, h1, fun j v hj => hw1.cellOld (h2 j v hj) id⟩)).mono fun e w' ⟨b, h1, h2, h3⟩ => ⟨_, _, h2, ?_, b, h1, rfl, rfl⟩
          exact hw1.after0 h3 (fun e he => by cases he)
        rintro v H2 ⟨br, hbr, rfl, rfl⟩
        refine G.v (V.not rfl) rfl ?_
        refine G.v (V.mv rfl) rfl ?_
        refine G.bc 34 rfl (fun h34 => ?_) (fun h34 => ?_)
        · refine G.sg rfl rfl rfl rfl rfl rfl ?_
          refine G.sg rfl rfl rfl rfl rfl rfl ?_
          refine G.sg rfl rfl rfl rfl rfl rfl ?_
          refine G.v (V.pickT rfl rfl) rfl ?_
          refine G.v (V.mv rfl) rfl ?_
          refine G.sg rfl rfl rfl rfl rfl rfl ?_
          refine G.sg rfl rfl rfl rfl rfl rfl ?_
          refine G.sg rfl rfl rfl rfl rfl rfl ?_
          refine G.v (V.pickT rfl rfl) rfl ?_
          refine G.v (V.mv rfl) rfl ?_
          refine G.sg rfl rfl rfl rfl rfl rfl ?_
          refine G.sg rfl rfl rfl rfl rfl rfl ?_
          refine G.sg rfl rfl rfl rfl rfl rfl ?_
          refine G.v (V.pickT rfl rfl) rfl ?_
          refine G.nil ?_
          refine GC.condT rfl ?_
          refine GC.seq ?_
          refine GC.reg ?_  -- region 4, echo.go:125
          refine G.callP Tryd.call16 rfl rfl (fun w1 hw1 => f16_any w1) ?_
          refine G.v (V.asg rfl) rfl ?_
          refine G.nil ?_
          exact GC.ret1 rfl rfl fun w' hw' => ⟨rfl, hw'.sub (List.nil_sublist _)⟩
        · refine G.vg rfl rfl (V.mv rfl) rfl ?_
          have hRt : Right Rs := hbr.1 (by simpa using h34)
          refine G.gd rfl rfl ?_
          refine G.callW (fun v H2 => ∃ b : Bool, (b = true ↔ (Rs.map ekey).Nodup) ∧ v = .bool b ∧ H2 = []) Tryd.call25 rfl rfl (fun w1 hw1 => ?_) ?_
          · refine (f25_any w1 ad cp Rs (fun i r hr => by obtain ⟨b, o, h1, h2⟩ := hat i r hr; exact ⟨b, o, h1, fun j v hj => hw1.cellOld (h2 j v hj) id⟩) (by have := hRt.1; omega) (fun x hx => ⟨by have := (hRt.2 x hx).ml; omega, by have := (hRt.2 x hx).pl; omega⟩)).mono fun e w' ⟨b, h1, h2, h3⟩ => ⟨_, _, h2, ?_, b, h1, rfl, rfl⟩
            exact hw1.after0 h3 (fun e he => by cases he)
          rintro v H2 ⟨ba, hba, rfl, rfl⟩
          refine G.vg rfl rfl (V.not rfl) rfl ?_
          refine G.v (V.pickF rfl rfl) rfl ?_
          refine G.v (V.mv rfl) rfl ?_
          refine G.bc 39 rfl (fun h39 => ?_) (fun h39 => ?_)
          · refine G.sg rfl rfl rfl rfl rfl rfl ?_
            refine G.sg rfl rfl rfl rfl rfl rfl ?_
            refine G.sg rfl rfl rfl rfl rfl rfl ?_
            refine G.v (V.pickT rfl rfl) rfl ?_
            refine G.v (V.mv rfl) rfl ?_
            refine G.sg rfl rfl rfl rfl rfl rfl ?_
            refine G.sg rfl rfl rfl rfl rfl rfl ?_
            refine G.sg rfl rfl rfl rfl rfl rfl ?_
            refine G.v (V.pickT rfl rfl) rfl ?_
            refine G.nil ?_
            refine GC.condT rfl ?_
            refine GC.seq ?_
            refine GC.reg ?_  -- region 4, echo.go:125
            refine G.callP Tryd.call16 rfl rfl (fun w1 hw1 => f16_any w1) ?_
            refine G.v (V.asg rfl) rfl ?_
            refine G.nil ?_
            exact GC.ret1 rfl rfl fun w' hw' => ⟨rfl, hw'.sub (List.nil_sublist _)⟩
          · refine G.vg rfl rfl (V.mv rfl) rfl ?_
            refine G.vg rfl rfl (V.lenS Tryd.underlying9 rfl) rfl ?_
            refine G.vg rfl rfl (V.gt rfl rfl) rfl ?_
            refine G.v (V.pickF rfl rfl) rfl ?_
            refine G.v (V.mv rfl) rfl ?_
            refine G.bc 44 rfl (fun h44 => ?_) (fun h44 => ?_)
            · refine G.sg rfl rfl rfl rfl rfl rfl ?_
              refine G.sg rfl rfl rfl rfl rfl rfl ?_
              refine G.sg rfl rfl rfl rfl rfl rfl ?_
              refine G.v (V.pickT rfl rfl) rfl ?_
              refine G.nil ?_
              refine GC.condT rfl ?_
              refine GC.seq ?_
              refine GC.reg ?_  -- region 4, echo.go:125
              refine G.callP Tryd.call16 rfl rfl (fun w1 hw1 => f16_any w1) ?_
              refine G.v (V.asg rfl) rfl ?_
              refine G.nil ?_
              exact GC.ret1 rfl rfl fun w' hw' => ⟨rfl, hw'.sub (List.nil_sublist _)⟩
            · refine G.vg rfl rfl (V.mv rfl) rfl ?_
              refine G.vg rfl rfl (V.lenS Tryd.underlying9 rfl) rfl ?_
              refine G.vg rfl rfl (V.gt rfl rfl) rfl ?_
              refine G.v (V.pickF rfl rfl) rfl ?_
              refine G.nil ?_
              refine GC.cond rfl (fun h48 => ?_) (fun h48 => ?_)
              · refine GC.seq ?_
                refine GC.reg ?_  -- region 4, echo.go:125
                refine G.callP Tryd.call16 rfl rfl (fun w1 hw1 => f16_any w1) ?_
                refine G.v (V.asg rfl) rfl ?_
                refine G.nil ?_
                exact GC.ret1 rfl rfl fun w' hw' => ⟨rfl, hw'.sub (List.nil_sublist _)⟩
              refine GC.skip ?_
              refine GC.seq ?_
              have hlen := hRt.1
              have hnd : (Rs.map ekey).Nodup := hba.1 (by simpa using h39)
              have hpl : path.length ≤ 300 := by have := of_decide_eq_false h44; omega
              refine GC.reg ?_  -- region 5, echo.go:127
              refine G.v (V.mv rfl) rfl ?_
              refine G.v (V.mv rfl) rfl ?_
              refine G.callW (fun v H2 => ∃ ado cpo adi cpi ord Ho Hi, v = .tuple #[.slice ado (ord.map fun i => Rs.getD i dR).length cpo, .slice adi ord.length cpi] ∧ ord.Perm (List.range Rs.length) ∧ Own 23 3 (.slice ado (ord.map fun i => Rs.getD i dR).length cpo) (ord.map fun i => Rs.getD i dR).length ((ord.map fun i => Rs.getD i dR).flatMap RB.cells) Ho ∧ Own 3 1 (.slice adi ord.length cpi) ord.length (II ord) Hi ∧ H2 = Ho ++ Hi) Tryd.call38 rfl rfl (fun w1 hw1 => ?_) ?_
              · refine (f38_any w1 ad cp Rs ad1 cp1 bs (fun i r hr => by obtain ⟨b, o, h1, h2⟩ := hat i r hr; exact ⟨b, o, h1, fun j v hj => hw1.cellOld (h2 j v hj) id⟩) (by omega) (fun i b hb => by obtain ⟨bk, o, h1, h2⟩ := hbs i b hb; exact ⟨bk, o, h1, hw1.cellOld h2 id⟩)).mono fun e w' ⟨v1, v2, ord, H1, H2, h1, h2, h3, h4, h5⟩ => ?_
                obtain ⟨ado, cpo, rfl⟩ := h3.slice
                obtain ⟨adi, cpi, rfl⟩ := h4.slice
                have e : (ord.map fun i => Rs.getD i dR).length = ord.length := List.length_map _
                refine ⟨_, _, h1, ?_, ado, cpo, adi, cpi, ord, H1, H2, by rw [e], h2, by rw [e]; exact h3, h4, rfl⟩
                have := hw1.after0 h5 (fun e he => by
                  rcases List.mem_append.1 he with he | he
                  · exact h3.w e he
                  · exact h4.w e he)
                simpa using this
              rintro v H2 ⟨ado, cpo, adi, cpi, ord, Ho, Hi, rfl, hperm, howno, howni, rfl⟩
              have hRt2 : Right (ord.map fun i => Rs.getD i dR) := turn_right hRt hperm
              have hlen2 := hRt2.1
              refine G.v (V.mv rfl) rfl ?_
              refine G.v (V.ex rfl rfl) rfl ?_
              refine G.v (V.ex rfl rfl) rfl ?_
              refine G.v (V.asg rfl) rfl ?_
              refine G.v (V.asg rfl) rfl ?_
              refine G.nil ?_
              refine GC.seq ?_
              refine GC.reg ?_  -- region 6, echo.go:128
              refine G.v (V.mv rfl) rfl ?_
              refine G.callW (fun v H2 => ∃ Hr, Own 51 3 v Rs.length (Rs.flatMap RB.cells) Hr ∧ H2 = Hr ++ (Ho ++ Hi)) Tryd.call19 rfl rfl (fun w1 hw1 => ?_) ?_
              · exact (f19_any w1 ad cp Rs (fun i r hr => by obtain ⟨b, o, h1, h2⟩ := hat i r hr; exact ⟨b, o, h1, fun j v hj => hw1.cellOld (h2 j v hj) id⟩) (by omega)).mono fun e w' ⟨v, Hs, h1, h2, h3⟩ => ⟨v, _, h1, hw1.after0 h3 h2.w, Hs, h2, rfl⟩
              rintro v H2 ⟨Hr, hownr1, rfl⟩
              obtain ⟨adr1, cpr1, rfl⟩ := hownr1.slice
              refine G.v (V.mv rfl) rfl ?_
              refine G.v (V.mv rfl) rfl ?_
              refine G.callW (fun v H2 => ∃ (num : Int) (p : List UInt8) (ns vs : List (List UInt8)) (al : List UInt8) (adn adv : Option Addr) (cpn cpv : Nat) (Hn Hv : SH), FRes Rs meth (visK (KS Rs) meth 202 [] path [] none) num p ns vs al ∧ ns.length ≤ 200 ∧ v = .agg #[I num, S p, .slice adn ns.length cpn, .slice adv vs.length cpv, S al] ∧ Own 9 1 (.slice adn ns.length cpn) ns.length (ns.map S) Hn ∧ Own 9 1 (.slice adv vs.length cpv) vs.length (vs.map S) Hv ∧ H2 = (Hn ++ Hv) ++ (Ho ++ Hi)) Tryd.call18 rfl rfl (fun w1 hw1 => ?_) ?_
              · refine (f18_any w1 adr1 cpr1 Rs meth path (rts_own hw1 (fun e he => List.mem_append_left _ he) hownr1) (fun x h => (hRt.2 x h).ok) hRt.1 (by omega)).mono fun e w' ⟨num, p, ns, vs, al, vn, vv, Hn, Hv, h1, h1', h2, h3, h4, h5⟩ => ?_
                obtain ⟨adn, cpn, rfl⟩ := h3.slice
                obtain ⟨adv, cpv, rfl⟩ := h4.slice
                refine ⟨_, _, h2, ?_, num, p, ns, vs, al, adn, adv, cpn, cpv, Hn, Hv, h1, h1', rfl, h3, h4, rfl⟩
                have := hw1.after0 h5 (fun e he => by
                  rcases List.mem_append.1 he with he | he
                  · exact h3.w e he
                  · exact h4.w e he)
                exact this.sub ((List.Sublist.refl _).append (List.sublist_append_right _ _))
              rintro v H2 ⟨num1, p1, ns1, vs1, al1, adn1, adv1, cpn1, cpv1, Hn1, Hv1, hfr1, hnl1, rfl, hownn1, hownv1, rfl⟩
              refine G.v (V.mv rfl) rfl ?_
              refine G.callW (fun v H2 => ∃ Hr, Own 51 3 v (ord.map fun i => Rs.getD i dR).length ((ord.map fun i => Rs.getD i dR).flatMap RB.cells) Hr ∧ H2 = Hr ++ (((Hn1 ++ Hv1) ++ (Ho ++ Hi)))) Tryd.call19 rfl rfl (fun w1 hw1 => ?_) ?_
              · exact (f19_any w1 ado cpo (ord.map fun i => Rs.getD i dR) (rts_own hw1 (fun e he => by simp [he]) howno) (by omega)).mono fun e w' ⟨v, Hs, h1, h2, h3⟩ => ⟨v, _, h1, hw1.after0 h3 h2.w, Hs, h2, rfl⟩
              rintro v H2 ⟨Hr, hownr2, rfl⟩
              obtain ⟨adr2, cpr2, rfl⟩ := hownr2.slice
              refine G.v (V.mv rfl) rfl ?_
              refine G.v (V.mv rfl) rfl ?_
              refine G.callW (fun v H2 => ∃ (num : Int) (p : List UInt8) (ns vs : List (List UInt8)) (al : List UInt8) (adn adv : Option Addr) (cpn cpv : Nat) (Hn Hv : SH), FRes (ord.map fun i => Rs.getD i dR) meth (visK (KS (ord.map fun i => Rs.getD i dR)) meth 202 [] path [] none) num p ns vs al ∧ ns.length ≤ 200 ∧ v = .agg #[I num, S p, .slice adn ns.length cpn, .slice adv vs.length cpv, S al] ∧ Own 9 1 (.slice adn ns.length cpn) ns.length (ns.map S) Hn ∧ Own 9 1 (.slice adv vs.length cpv) vs.length (vs.map S) Hv ∧ H2 = (Hn ++ Hv) ++ (((Hn1 ++ Hv1) ++ (Ho ++ Hi)))) Tryd.call18 rfl rfl (fun w1 hw1 => ?_) ?_
              · refine (f18_any w1 adr2 cpr2 (ord.map fun i => Rs.getD i dR) meth path (rts_own hw1 (fun e he => List.mem_append_left _ he) hownr2) (fun x h => (hRt2.2 x h).ok) hRt2.1 (by omega)).mono fun e w' ⟨num, p, ns, vs, al, vn, vv, Hn, Hv, h1, h1', h2, h3, h4, h5⟩ => ?_
                obtain ⟨adn, cpn, rfl⟩ := h3.slice
                obtain ⟨adv, cpv, rfl⟩ := h4.slice
                refine ⟨_, _, h2, ?_, num, p, ns, vs, al, adn, adv, cpn, cpv, Hn, Hv, h1, h1', rfl, h3, h4, rfl⟩
                have := hw1.after0 h5 (fun e he => by
                  rcases List.mem_append.1 he with he | he
                  · exact h3.w e he
                  · exact h4.w e he)
                exact this.sub ((List.Sublist.refl _).append (List.sublist_append_right _ _))
              rintro v H2 ⟨num2, p2, ns2, vs2, al2, adn2, adv2, cpn2, cpv2, Hn2, Hv2, hfr2, hnl2, rfl, hownn2, hownv2, rfl⟩
              refine G.al Tryd.zeroValue33 rfl rfl (fun b15 hb15 => ?_)
              refine G.al Tryd.zeroValue33 rfl rfl (fun b16 hb16 => ?_)
              refine G.stA (cs := [I num1, S p1, .slice adn1 ns1.length cpn1, .slice adv1 vs1.length cpv1, S al1]) Tryd.sizeOf33 rfl rfl (fun v hv => ?_) (.s .z) rfl ?_
              · simp only [List.mem_cons, List.not_mem_nil, or_false] at hv
                rcases hv with rfl | rfl | rfl | rfl | rfl <;> rfl
              refine G.stA (cs := [I num2, S p2, .slice adn2 ns2.length cpn2, .slice adv2 vs2.length cpv2, S al2]) Tryd.sizeOf33 rfl rfl (fun v hv => ?_) .z rfl ?_
              · simp only [List.mem_cons, List.not_mem_nil, or_false] at hv
                rcases hv with rfl | rfl | rfl | rfl | rfl <;> rfl
              refine G.nil ?_
              refine GC.seq ?_
              refine GC.seq ?_
              refine GC.turn (H' := (⟨b16, true, .row [I num2, S p2, .slice adn2 ns2.length cpn2, .slice adv2 vs2.length cpv2, S al2] 33 (0, 0)⟩ :: ⟨b15, true, .row [I num1, S p1, .slice adn1 ns1.length cpn1, .slice adv1 vs1.length cpv1, S al1] 33 (0, 0)⟩ :: ((Hn2 ++ Hv2) ++ ((Hn1 ++ Hv1) ++ (Ho ++ Hi))))) (fun w1 hw1 => hw1) ?_
              obtain ⟨hvs, hal, hcase⟩ := fresMap (KS_turn hRt hnd hperm (turn_get hperm)) (fun k _ => rfl) hfr2 hfr1
              have hal1 := fres_al hRt hfr1
              have hal2 := fres_al hRt2 hfr2
              have hvl1 := fres_vl hRt hfr1
              have hvl2 := fres_vl hRt2 hfr2
              refine GC.reg ?_  -- region 7, echo.go:129
              refine G.callP Tryd.call16 rfl rfl (fun w1 hw1 => f16_any w1) ?_
              refine G.v (V.not rfl) rfl ?_
              refine G.nil ?_
              refine GC.condF rfl ?_
              refine GC.skip ?_
              refine GC.seq ?_
              refine GC.seq ?_
              refine GC.reg ?_  -- region 9, echo.go:132
              refine G.v (V.fa F33_0 rfl) rfl ?_
              refine G.v (V.ld (b := b16) (off := 0 + 0) (wf := true) (l := [I num2, S p2, .slice adn2 ns2.length cpn2, .slice adv2 vs2.length cpv2, S al2]) (T := 33) (fz := (0, 0)) (v := I num2) Tryd.isAgg3 rfl (.head _) rfl) rfl ?_
              refine G.v (V.ge rfl rfl) rfl ?_
              refine G.nil ?_
              refine GC.condD rfl (fun h70 => ?_) (fun h70 => ?_)
              · refine GC.seq ?_
                refine GC.join (fun fr' H' => Sub [(8, .bool true)] fr') (fun J10 => ?_) ?_
                · rcases hcase with ⟨rb, n, hrb, rfl, hn1, hp2, hp1, hns2, hns1⟩ | ⟨_, hneg, _⟩
                  · skip
                    have hno : n < ord.length := by have := (List.getElem?_eq_some_iff.1 hrb).1; rw [List.length_map] at this; exact this
                    obtain ⟨x, hx⟩ : ∃ x, ord[n]? = some x := ⟨_, List.getElem?_eq_getElem hno⟩
                    have hxe : num1 = ((x : Nat) : Int) := by rw [hn1]; show ((ord.getD n 0 : Nat) : Int) = _; rw [List.getD_eq_getElem?_getD, hx]; rfl
                    have hpe : p1 = p2 := hp1.trans hp2.symm
                    have hnse : ns1 = ns2 := by rw [hns1, hns2, hpe]
                    obtain ⟨bi, ci, si, e1, hHi⟩ := howni.at (i := n) hno
                    simp only [Value.slice.injEq, true_and] at e1
                    obtain ⟨rfl, rfl⟩ := e1
                    refine GC.turn (H' := (⟨b16, true, .row [I ((n : Nat) : Int), S p2, .slice adn2 ns2.length cpn2, .slice adv2 vs2.length cpv2, S al2] 33 (0, 0)⟩ :: ⟨b15, true, .row [I num1, S p1, .slice adn1 ns1.length cpn1, .slice adv1 vs1.length cpv1, S al1] 33 (0, 0)⟩ :: ((Hn2 ++ Hv2) ++ ((Hn1 ++ Hv1) ++ (Ho ++ [⟨bi, true, .row (II ord ++ si) 3 (0, 0)⟩]))))) (fun w1 hw1 => by rw [hHi] at hw1; exact hw1) ?_
                    have hSb : ∀ (H : SH) w1, HF w (fun _ => False) H w1 → (⟨b15, true, .row [I num1, S p1, .slice adn1 ns1.length cpn1, .slice adv1 vs1.length cpv1, S al1] 33 (0, 0)⟩ : Ent) ∈ H → ((⟨b16, true, .row [I ((n : Nat) : Int), S p2, .slice adn2 ns2.length cpn2, .slice adv2 vs2.length cpv2, S al2] 33 (0, 0)⟩ : Ent) ∈ H ∧ (⟨bi, true, .row (II ord ++ si) 3 (0, 0)⟩ : Ent) ∈ H) → ((∀ i v, nth [I num1, S p1, .slice adn1 ns1.length cpn1, .slice adv1 vs1.length cpv1, S al1] i = some v → w1.cell? ⟨b15, i, none⟩ = some v) ∧ (∀ i v, nth [I ((n : Nat) : Int), S p2, .slice adn2 ns2.length cpn2, .slice adv2 vs2.length cpv2, S al2] i = some v → w1.cell? ⟨b16, i, none⟩ = some v)) ∧ w1.cell? ⟨bi, 0 + n * 1, none⟩ = some (I ((x : Nat) : Int)) := fun H w1 hw m1 m2 => ⟨⟨fun i v hv => cell_row hw m1 hv, fun i v hv => cell_row hw m2.1 hv⟩, cell_row hw m2.2 (by rw [nth_eq, Nat.zero_add, Nat.mul_one, List.getElem?_append_left (by simpa [II] using hno), II, List.getElem?_map, hx]; rfl)⟩
                    refine GC.regA (fun w1 => ((∀ i v, nth [I num1, S p1, .slice adn1 ns1.length cpn1, .slice adv1 vs1.length cpv1, S al1] i = some v → w1.cell? ⟨b15, i, none⟩ = some v) ∧ (∀ i v, nth [I ((n : Nat) : Int), S p2, .slice adn2 ns2.length cpn2, .slice adv2 vs2.length cpv2, S al2] i = some v → w1.cell? ⟨b16, i, none⟩ = some v)) ∧ w1.cell? ⟨bi, 0 + n * 1, none⟩ = some (I ((x : Nat) : Int))) mixed ?_
                    refine GA.p 0 rfl (by kernel_rfl) (fun w1 hw1 => hSb _ w1 hw1 (by simp) (by simp)) (fun _ => V.fa F33_0 rfl) rfl ?_
                    refine GA.ld 1 rfl (by kernel_rfl) (fun w1 hw1 => hSb _ w1 hw1 (by simp) (by simp)) Tryd.isAgg3 rfl (fun w1 h => h.1.2 0 _ rfl) rfl ?_
                    refine GA.p 2 rfl (by kernel_rfl) (fun w1 hw1 => hSb _ w1 hw1 (by simp) (by simp)) (fun _ => V.mv rfl) rfl ?_
                    refine GA.p 3 rfl (by kernel_rfl) (fun w1 hw1 => hSb _ w1 hw1 (by simp) (by simp)) (fun _ => V.lenL Tryd.underlying59 rfl) rfl ?_
                    refine GA.p 4 (v := .bool true) rfl (by kernel_rfl) (fun w1 hw1 => hSb _ w1 hw1 (by simp) (by simp)) (fun w0 => lt_true (by omega) (V.lt (i := (n : Nat)) (j := (ord.length : Nat)) rfl rfl)) rfl ?_
                    refine GA.p 5 rfl (by kernel_rfl) (fun w1 hw1 => hSb _ w1 hw1 (by simp) (by simp)) (fun _ => V.mv rfl) rfl ?_
                    refine GA.pg 6 rfl rfl rfl (by kernel_rfl) (fun w1 hw1 => hSb _ w1 hw1 (by simp) (by simp)) (fun _ => V.fa F33_0 rfl) rfl ?_
                    refine GA.ldg 7 rfl rfl rfl (by kernel_rfl) (fun w1 hw1 => hSb _ w1 hw1 (by simp) (by simp)) Tryd.isAgg3 rfl (fun w1 h => h.1.1 0 _ rfl) rfl ?_
                    refine GA.pg 8 rfl rfl rfl (by kernel_rfl) (fun w1 hw1 => hSb _ w1 hw1 (by simp) (by simp)) (fun _ => V.mv rfl) rfl ?_
                    refine GA.pg 9 rfl rfl rfl (by kernel_rfl) (fun w1 hw1 => hSb _ w1 hw1 (by simp) (by simp)) (fun _ => V.fa F33_0 rfl) rfl ?_
                    refine GA.ldg 10 rfl rfl rfl (by kernel_rfl) (fun w1 hw1 => hSb _ w1 hw1 (by simp) (by simp)) Tryd.isAgg3 rfl (fun w1 h => h.1.2 0 _ rfl) rfl ?_
                    refine GA.pg 11 rfl rfl rfl (by kernel_rfl) (fun w1 hw1 => hSb _ w1 hw1 (by simp) (by simp)) (fun _ => V.ia (i := n) Tryd.underlying59 Tryd.sizeOf3 rfl rfl hno) rfl ?_
                    refine GA.ldg 12 rfl rfl rfl (by kernel_rfl) (fun w1 hw1 => hSb _ w1 hw1 (by simp) (by simp)) Tryd.isAgg3 rfl (fun w1 h => h.2) rfl ?_
                    refine GA.pg 13 (v := .bool true) rfl rfl rfl (by kernel_rfl) (fun w1 hw1 => hSb _ w1 hw1 (by simp) (by simp)) (fun w0 => eqI_tt hxe (V.eqI rfl rfl)) rfl ?_
                    refine GA.p 14 rfl (by kernel_rfl) (fun w1 hw1 => hSb _ w1 hw1 (by simp) (by simp)) (fun _ => V.pickT rfl rfl) rfl ?_
                    refine GA.p 15 rfl (by kernel_rfl) (fun w1 hw1 => hSb _ w1 hw1 (by simp) (by simp)) (fun _ => V.mv rfl) rfl ?_
                    refine GA.pg 16 rfl rfl rfl (by kernel_rfl) (fun w1 hw1 => hSb _ w1 hw1 (by simp) (by simp)) (fun _ => V.fa F33_1 rfl) rfl ?_
                    refine GA.ldg 17 rfl rfl rfl (by kernel_rfl) (fun w1 hw1 => hSb _ w1 hw1 (by simp) (by simp)) Tryd.isAgg9 rfl (fun w1 h => h.1.1 1 _ rfl) rfl ?_
                    refine GA.pg 18 rfl rfl rfl (by kernel_rfl) (fun w1 hw1 => hSb _ w1 hw1 (by simp) (by simp)) (fun _ => V.fa F33_1 rfl) rfl ?_
                    refine GA.ldg 19 rfl rfl rfl (by kernel_rfl) (fun w1 hw1 => hSb _ w1 hw1 (by simp) (by simp)) Tryd.isAgg9 rfl (fun w1 h => h.1.2 1 _ rfl) rfl ?_
                    refine GA.pg 20 (v := .bool true) rfl rfl rfl (by kernel_rfl) (fun w1 hw1 => hSb _ w1 hw1 (by simp) (by simp)) (fun w0 => eqS_tt hpe (V.eqS rfl rfl)) rfl ?_
                    refine GA.p 21 rfl (by kernel_rfl) (fun w1 hw1 => hSb _ w1 hw1 (by simp) (by simp)) (fun _ => V.pickT rfl rfl) rfl ?_
                    refine GA.p 22 rfl (by kernel_rfl) (fun w1 hw1 => hSb _ w1 hw1 (by simp) (by simp)) (fun _ => V.mv rfl) rfl ?_
                    refine GA.pg 23 rfl rfl rfl (by kernel_rfl) (fun w1 hw1 => hSb _ w1 hw1 (by simp) (by simp)) (fun _ => V.fa F33_2 rfl) rfl ?_
                    refine GA.ldg 24 rfl rfl rfl (by kernel_rfl) (fun w1 hw1 => hSb _ w1 hw1 (by simp) (by simp)) Tryd.isAgg24 rfl (fun w1 h => h.1.1 2 _ rfl) rfl ?_
                    refine GA.pg 25 rfl rfl rfl (by kernel_rfl) (fun w1 hw1 => hSb _ w1 hw1 (by simp) (by simp)) (fun _ => V.fa F33_2 rfl) rfl ?_
                    refine GA.ldg 26 rfl rfl rfl (by kernel_rfl) (fun w1 hw1 => hSb _ w1 hw1 (by simp) (by simp)) Tryd.isAgg24 rfl (fun w1 h => h.1.2 2 _ rfl) rfl ?_
                    refine GA.one 27 rfl (by kernel_rfl) ?_
                    refine GB.gd rfl rfl ?_
                    refine GB.callW (xs := [.tmp 95, .tmp 97]) (vs := [.slice adn1 ns1.length cpn1, .slice adn2 ns2.length cpn2]) (fun v H2 => v = .bool true ∧ H2 = (⟨b16, true, .row [I ((n : Nat) : Int), S p2, .slice adn2 ns2.length cpn2, .slice adv2 vs2.length cpv2, S al2] 33 (0, 0)⟩ :: ⟨b15, true, .row [I num1, S p1, .slice adn1 ns1.length cpn1, .slice adv1 vs1.length cpv1, S al1] 33 (0, 0)⟩ :: ((Hn2 ++ Hv2) ++ ((Hn1 ++ Hv1) ++ (Ho ++ [⟨bi, true, .row (II ord ++ si) 3 (0, 0)⟩]))))) Tryd.call22 rfl rfl (fun v H2 ⟨_, h2⟩ w1 hw1 => hSb _ w1 hw1 (by rw [h2]; simp) (by rw [h2]; simp)) (fun w1 hw1 => ?_) ?_
                    · exact (f22_any w1 _ _ _ _ ns1 ns2 (hownn1.tx fun e he => hw1.has e (by simp [he])) (hownn2.tx fun e he => hw1.has e (by simp [he])) (by omega) (by omega)).mono fun e w' ⟨h1, h2⟩ => ⟨_, _, h1, hw1.after0 h2 (fun e he => by cases he), by rw [decide_eq_true (hnse)], rfl⟩
                    rintro v H2 ⟨rfl, rfl⟩
                    refine GA.p 28 rfl (by kernel_rfl) (fun w1 hw1 => hSb _ w1 hw1 (by simp) (by simp)) (fun _ => V.pickT rfl rfl) rfl ?_
                    refine GA.p 29 rfl (by kernel_rfl) (fun w1 hw1 => hSb _ w1 hw1 (by simp) (by simp)) (fun _ => V.mv rfl) rfl ?_
                    refine GA.pg 30 rfl rfl rfl (by kernel_rfl) (fun w1 hw1 => hSb _ w1 hw1 (by simp) (by simp)) (fun _ => V.fa F33_3 rfl) rfl ?_
                    refine GA.ldg 31 rfl rfl rfl (by kernel_rfl) (fun w1 hw1 => hSb _ w1 hw1 (by simp) (by simp)) Tryd.isAgg24 rfl (fun w1 h => h.1.1 3 _ rfl) rfl ?_
                    refine GA.pg 32 rfl rfl rfl (by kernel_rfl) (fun w1 hw1 => hSb _ w1 hw1 (by simp) (by simp)) (fun _ => V.fa F33_3 rfl) rfl ?_
                    refine GA.ldg 33 rfl rfl rfl (by kernel_rfl) (fun w1 hw1 => hSb _ w1 hw1 (by simp) (by simp)) Tryd.isAgg24 rfl (fun w1 h => h.1.2 3 _ rfl) rfl ?_
                    refine GA.one 34 rfl (by kernel_rfl) ?_
                    refine GB.gd rfl rfl ?_
                    refine GB.callW (xs := [.tmp 102, .tmp 104]) (vs := [.slice adv1 vs1.length cpv1, .slice adv2 vs2.length cpv2]) (fun v H2 => v = .bool true ∧ H2 = (⟨b16, true, .row [I ((n : Nat) : Int), S p2, .slice adn2 ns2.length cpn2, .slice adv2 vs2.length cpv2, S al2] 33 (0, 0)⟩ :: ⟨b15, true, .row [I num1, S p1, .slice adn1 ns1.length cpn1, .slice adv1 vs1.length cpv1, S al1] 33 (0, 0)⟩ :: ((Hn2 ++ Hv2) ++ ((Hn1 ++ Hv1) ++ (Ho ++ [⟨bi, true, .row (II ord ++ si) 3 (0, 0)⟩]))))) Tryd.call22 rfl rfl (fun v H2 ⟨_, h2⟩ w1 hw1 => hSb _ w1 hw1 (by rw [h2]; simp) (by rw [h2]; simp)) (fun w1 hw1 => ?_) ?_
                    · exact (f22_any w1 _ _ _ _ vs1 vs2 (hownv1.tx fun e he => hw1.has e (by simp [he])) (hownv2.tx fun e he => hw1.has e (by simp [he])) (by omega) (by omega)).mono fun e w' ⟨h1, h2⟩ => ⟨_, _, h1, hw1.after0 h2 (fun e he => by cases he), by rw [decide_eq_true (hvs.symm)], rfl⟩
                    rintro v H2 ⟨rfl, rfl⟩
                    refine GA.p 35 rfl (by kernel_rfl) (fun w1 hw1 => hSb _ w1 hw1 (by simp) (by simp)) (fun _ => V.pickT rfl rfl) rfl ?_
                    refine GA.p 36 rfl (by kernel_rfl) (fun w1 hw1 => hSb _ w1 hw1 (by simp) (by simp)) (fun _ => V.asg rfl) rfl ?_
                    refine GA.done (by kernel_rfl) ?_
                    exact J10 _ _ (.cons rfl .nil)
                  · exact absurd h70 (by omega)
                intro fr' H' hs10
                refine GC.weak hs10 ?_
                clear hs10
                exact GC.ret1 rfl rfl fun w' hw' => ⟨rfl, hw'.sub (List.nil_sublist _)⟩
              refine GC.skip ?_
              refine GC.seq ?_
              refine GC.join (fun fr' H' => Sub [(8, .bool true)] fr') (fun J11 => ?_) ?_
              · have hnum : num1 = num2 := by
                  rcases hcase with ⟨rb, n, _, h1, _⟩ | ⟨h1, _⟩
                  · exact absurd h70 (by omega)
                  · exact h1.symm
                have hl35 := alw_len al1
                have hl36 := alw_len al2
                have hSb : ∀ (H : SH) w1, HF w (fun _ => False) H w1 → (⟨b15, true, .row [I num1, S p1, .slice adn1 ns1.length cpn1, .slice adv1 vs1.length cpv1, S al1] 33 (0, 0)⟩ : Ent) ∈ H → (⟨b16, true, .row [I num2, S p2, .slice adn2 ns2.length cpn2, .slice adv2 vs2.length cpv2, S al2] 33 (0, 0)⟩ : Ent) ∈ H → (∀ i v, nth [I num1, S p1, .slice adn1 ns1.length cpn1, .slice adv1 vs1.length cpv1, S al1] i = some v → w1.cell? ⟨b15, i, none⟩ = some v) ∧ (∀ i v, nth [I num2, S p2, .slice adn2 ns2.length cpn2, .slice adv2 vs2.length cpv2, S al2] i = some v → w1.cell? ⟨b16, i, none⟩ = some v) := fun H w1 hw m1 m2 => ⟨fun i v hv => cell_row hw m1 hv, fun i v hv => cell_row hw m2 hv⟩
                refine GC.regA (fun w1 => (∀ i v, nth [I num1, S p1, .slice adn1 ns1.length cpn1, .slice adv1 vs1.length cpv1, S al1] i = some v → w1.cell? ⟨b15, i, none⟩ = some v) ∧ (∀ i v, nth [I num2, S p2, .slice adn2 ns2.length cpn2, .slice adv2 vs2.length cpv2, S al2] i = some v → w1.cell? ⟨b16, i, none⟩ = some v)) mixed ?_
                refine GA.p 0 rfl (by kernel_rfl) (fun w1 hw1 => hSb _ w1 hw1 (by simp) (by simp)) (fun _ => V.fa F33_0 rfl) rfl ?_
                refine GA.ld 1 rfl (by kernel_rfl) (fun w1 hw1 => hSb _ w1 hw1 (by simp) (by simp)) Tryd.isAgg3 rfl (fun w1 h => h.1 0 _ rfl) rfl ?_
                refine GA.p 2 rfl (by kernel_rfl) (fun w1 hw1 => hSb _ w1 hw1 (by simp) (by simp)) (fun _ => V.fa F33_0 rfl) rfl ?_
                refine GA.ld 3 rfl (by kernel_rfl) (fun w1 hw1 => hSb _ w1 hw1 (by simp) (by simp)) Tryd.isAgg3 rfl (fun w1 h => h.2 0 _ rfl) rfl ?_
                refine GA.p 4 (v := .bool true) rfl (by kernel_rfl) (fun w1 hw1 => hSb _ w1 hw1 (by simp) (by simp)) (fun w0 => eqI_tt hnum (V.eqI rfl rfl)) rfl ?_
                refine GA.p 5 rfl (by kernel_rfl) (fun w1 hw1 => hSb _ w1 hw1 (by simp) (by simp)) (fun _ => V.mv rfl) rfl ?_
                refine GA.pg 6 rfl rfl rfl (by kernel_rfl) (fun w1 hw1 => hSb _ w1 hw1 (by simp) (by simp)) (fun _ => V.fa F33_4 rfl) rfl ?_
                refine GA.ldg 7 rfl rfl rfl (by kernel_rfl) (fun w1 hw1 => hSb _ w1 hw1 (by simp) (by simp)) Tryd.isAgg9 rfl (fun w1 h => h.1 4 _ rfl) rfl ?_
                refine GA.pg 9 rfl rfl rfl (by kernel_rfl) (fun w1 hw1 => hSb _ w1 hw1 (by simp) (by simp)) (fun _ => V.fa F33_4 rfl) rfl ?_
                refine GA.ldg 10 rfl rfl rfl (by kernel_rfl) (fun w1 hw1 => hSb _ w1 hw1 (by simp) (by simp)) Tryd.isAgg9 rfl (fun w1 h => h.2 4 _ rfl) rfl ?_
                refine GA.one 8 rfl (by kernel_rfl) ?_
                refine GB.gd rfl rfl ?_
                refine GB.callW (xs := [.tmp 114]) (vs := [S al1]) (fun v H2 => ∃ HX, Own 9 1 v (alw al1).length ((alw al1).map S) HX ∧ H2 = HX ++ ((⟨b16, true, .row [I num2, S p2, .slice adn2 ns2.length cpn2, .slice adv2 vs2.length cpv2, S al2] 33 (0, 0)⟩ :: ⟨b15, true, .row [I num1, S p1, .slice adn1 ns1.length cpn1, .slice adv1 vs1.length cpv1, S al1] 33 (0, 0)⟩ :: ((Hn2 ++ Hv2) ++ ((Hn1 ++ Hv1) ++ (Ho ++ Hi)))))) Tryd.call35 rfl rfl (fun v H2 ⟨_, _, h2⟩ w1 hw1 => hSb _ w1 hw1 (by rw [h2]; simp) (by rw [h2]; simp)) (fun w1 hw1 => ?_) ?_
                · exact (f35_any w1 al1 (by omega)).mono fun e w' ⟨v, Ha, g1, g2, g3⟩ => ⟨_, _, g1, hw1.after0 g3 g2.w, Ha, g2, rfl⟩
                rintro vX H2 ⟨HX, hownX, rfl⟩
                obtain ⟨adX, cpX, rfl⟩ := hownX.slice
                refine GA.one 11 rfl (by kernel_rfl) ?_
                refine GB.gd rfl rfl ?_
                refine GB.callW (xs := [.tmp 117]) (vs := [S al2]) (fun v H2 => ∃ HY, Own 9 1 v (alw al2).length ((alw al2).map S) HY ∧ H2 = HY ++ (HX ++ (⟨b16, true, .row [I num2, S p2, .slice adn2 ns2.length cpn2, .slice adv2 vs2.length cpv2, S al2] 33 (0, 0)⟩ :: ⟨b15, true, .row [I num1, S p1, .slice adn1 ns1.length cpn1, .slice adv1 vs1.length cpv1, S al1] 33 (0, 0)⟩ :: ((Hn2 ++ Hv2) ++ ((Hn1 ++ Hv1) ++ (Ho ++ Hi)))))) Tryd.call35 rfl rfl (fun v H2 ⟨_, _, h2⟩ w1 hw1 => hSb _ w1 hw1 (by rw [h2]; simp) (by rw [h2]; simp)) (fun w1 hw1 => ?_) ?_
                · exact (f35_any w1 al2 (by omega)).mono fun e w' ⟨v, Ha, g1, g2, g3⟩ => ⟨_, _, g1, hw1.after0 g3 g2.w, Ha, g2, rfl⟩
                rintro vY H2 ⟨HY, hownY, rfl⟩
                obtain ⟨adY, cpY, rfl⟩ := hownY.slice
                refine GA.one 12 rfl (by kernel_rfl) ?_
                refine GB.gd rfl rfl ?_
                refine GB.callW (xs := [.tmp 115, .tmp 118]) (vs := [.slice adX (alw al1).length cpX, .slice adY (alw al2).length cpY]) (fun v H2 => v = .bool true ∧ H2 = HY ++ (HX ++ (⟨b16, true, .row [I num2, S p2, .slice adn2 ns2.length cpn2, .slice adv2 vs2.length cpv2, S al2] 33 (0, 0)⟩ :: ⟨b15, true, .row [I num1, S p1, .slice adn1 ns1.length cpn1, .slice adv1 vs1.length cpv1, S al1] 33 (0, 0)⟩ :: ((Hn2 ++ Hv2) ++ ((Hn1 ++ Hv1) ++ (Ho ++ Hi)))))) Tryd.call22 rfl rfl (fun v H2 ⟨_, h2⟩ w1 hw1 => hSb _ w1 hw1 (by rw [h2]; simp) (by rw [h2]; simp)) (fun w1 hw1 => ?_) ?_
                · exact (f22_any w1 _ _ _ _ (alw al1) (alw al2) (hownX.tx fun e he => hw1.has e (by simp [he])) (hownY.tx fun e he => hw1.has e (by simp [he])) (by omega) (by omega)).mono fun e w' ⟨h1, h2⟩ => ⟨_, _, h1, hw1.after0 h2 (fun e he => by cases he), by rw [decide_eq_true (hal.symm)], rfl⟩
                rintro v H2 ⟨rfl, rfl⟩
                refine GA.p 13 rfl (by kernel_rfl) (fun w1 hw1 => hSb _ w1 hw1 (by simp) (by simp)) (fun _ => V.pickT rfl rfl) rfl ?_
                refine GA.p 14 rfl (by kernel_rfl) (fun w1 hw1 => hSb _ w1 hw1 (by simp) (by simp)) (fun _ => V.asg rfl) rfl ?_
                refine GA.done (by kernel_rfl) ?_
                exact J11 _ _ (.cons rfl .nil)
              intro fr' H' hs11
              refine GC.weak hs11 ?_
              clear hs11
              exact GC.ret1 rfl rfl fun w' hw' => ⟨rfl, hw'.sub (List.nil_sublist _)⟩
end Go.Proofs

/- A law's card out of its walk: FnEchoOrder. -/
set_option maxRecDepth 100000
namespace Go.Proofs.YtekclaobeccbdaaDoor.order
open Go Bw Go.ChangeShapes Go.WideShapes Go.ChangeAt Go.RowKit

/-- what bytes.ErrTooLarge is laid as -/
abbrev tooS : ByteArray := { data := #[98, 121, 116, 101, 115, 46, 66, 117, 102, 102, 101, 114, 58, 32, 116, 111, 111, 32, 108, 97, 114, 103, 101] }
noncomputable def low : Nat := (World.holding Tryd.prog default ⟨#[], #[], []⟩).heap.size
noncomputable def laidWorld (os : Os) : World :=
  let w0 := World.holding Tryd.prog os ⟨#[.cells #[.string tooS] 217], #[], []⟩
  { w0 with heap := w0.heap.modify 1 fun
      | .cells _ t frozen => .cells #[.iface 200 (.pointer (some ⟨low, 0, none⟩))] t frozen
      | o => o }

theorem contract (H : Type) (enc : TypeId × Value → H) (W : World) (base : Nat) (args : Array Value) (ds gs : List (DataW H)) (before : List MemPlace)
    (hval : ∀ (j : Nat) t v, Tryd.f11.params[j]? = some t → args[j]? = some v → Value.okWide Tryd.prog W .any base t v)
    (hW : DataW.Whole enc Tryd.prog Tryd.f11.params.toList Rows.fnEchoOrderSpec.vars false W args.toList ds gs before) :
    Calls Tryd.prog 11 args W fun e W' => ∃ v, e = .returned v ∧ Rows.fnEchoOrderSpec.post enc Tryd.prog Tryd.f11 false true false false W args v W' := by
  have hW' := hW
  obtain ⟨p, q, hA0, hV, rfl, hfz, hnd⟩ := hW
  have hA : DataW.TrodAll enc Tryd.prog W 0 (fun _ => true) true [28, 58, 9, 9] args.toList ds p := hA0
  obtain ⟨v0, vs0, d0, ds0, p0, q0, hargs, rfl, rfl, h0, r0⟩ := trodAll_cons hA
  obtain ⟨v1, vs_1, d1, ds1, p1, q1, rfl, rfl, rfl, h1, r1⟩ := trodAll_cons r0
  obtain ⟨v2, vs_2, d2, ds2, p2, q2, rfl, rfl, rfl, h2, r2⟩ := trodAll_cons r1
  obtain ⟨v3, vs_3, d3, ds3, p3, q3, rfl, rfl, rfl, h3, r3⟩ := trodAll_cons r2
  obtain ⟨rfl, rfl, rfl⟩ := trodAll_nil r3
  obtain rfl : args = #[v0, v1, v2, v3] := by cases args; simp_all
  obtain ⟨ad0, cp0, Rs, rfl, hcp0, hat0⟩ := open_rts Tryd.underlying28 Tryd.underlying23 tryd_c23 ⟨rfl, rfl⟩ ⟨rfl, rfl⟩ ⟨rfl, rfl⟩ Tryd.underlying9 tryd_c9 (hval 0 28 v0 rfl rfl) h0
  obtain ⟨ad1, cp1, bs1, rfl, hcp1, hb1⟩ := open_bytes Tryd.underlying58 Tryd.underlying5 tryd_c5 (hval 1 58 v1 rfl rfl) h1
  obtain ⟨l2, rfl⟩ := open_str Tryd.underlying9 (hval 2 9 v2 rfl rfl)
  obtain ⟨l3, rfl⟩ := open_str Tryd.underlying9 (hval 3 9 v3 rfl rfl)
  refine (f11_any W ad0 cp0 Rs ad1 cp1 bs1 l2 l3 hat0 hb1).mono fun e W' ⟨he, hf⟩ => ⟨_, he, ?_⟩
  refine post_law hW' rfl rfl ?_ (by kernel_rfl) (below_of hf)
  obtain ⟨rfl, rfl⟩ := trodVars_none hV
  rfl

theorem laid_met (os : Os) : laidMet Tryd.prog Rows.fnEchoOrderRow.laid ((laidWorld os).forCall (fun _ _ => 0) ⟨#[], #[.slice none 0 0, .slice none 0 0, .string ⟨#[]⟩, .string ⟨#[]⟩], []⟩).memory :=
  laidMet_of_run (ps := [.cell 1 0, .cell low 0]) 8 (by kernel_rfl) (by kernel_rfl) (by kernel_rfl)
theorem reads (os : Os) {H : Type} (enc : TypeId × Value → H) : ∃ places, DataW.whole enc Tryd.prog ((laidWorld os).forCall (fun _ _ => 0) ⟨#[], #[.slice none 0 0, .slice none 0 0, .string ⟨#[]⟩, .string ⟨#[]⟩], []⟩).memory Tryd.f11.params.toList Rows.fnEchoOrderSpec.vars false (#[.slice none 0 0, .slice none 0 0, .string ⟨#[]⟩, .string ⟨#[]⟩] : Array Value).toList 8 = some ([.nil, .nil, .lit (.string []), .lit (.string [])], [], places) :=
  ⟨[], by kernel_rfl⟩

theorem lifted (os : Os) (started : os.Started) (H : Type) (enc : TypeId × Value → H) (F : Stop.Interp) :
    ReturnsInHanded {} Tryd.checked os 11 .any ((OpenSpec.ofChange Rows.fnEchoOrderSpec).preRow enc Tryd.prog Tryd.f11 Rows.fnEchoOrderRow.domain false Rows.fnEchoOrderRow.laid) (((OpenSpec.ofChange Rows.fnEchoOrderSpec).at F).post enc Tryd.prog Tryd.f11 false true false false) := by
  obtain ⟨places, hx⟩ := reads os enc
  refine returnsInHanded_of_row (C := Tryd.checked) (s := OpenSpec.ofChange Rows.fnEchoOrderSpec) tryd_own started (by kernel_rfl) Tryd.func11
    (witness_row_at (enc := enc) (C := Tryd.checked) false (laidWorld os) #[.slice none 0 0, .slice none 0 0, .string ⟨#[]⟩, .string ⟨#[]⟩] rfl (by kernel_rfl) (by kernel_rfl) (by kernel_rfl)
      (OpenSpec.preRow_of_cond 8 hx (by kernel_rfl) (fun k hk => by cases hk) (by kernel_rfl) (laid_met os))) ?_
  intro W base args ds gs before hval hW _ _ _ hL _ _
  exact contract H enc W base args ds gs before hval hW

theorem said : Rows.FnEchoOrderSaid :=
  OpenClaim.holds_of_cond 11 Tryd.f11 rfl rfl rfl rfl rfl rfl rfl ⟨rfl, rfl, rfl, rfl, rfl⟩ rfl rfl rfl rfl rfl (by kernel_rfl) Tryd.func11 (by kernel_rfl)
    (of_decide_eq_true (by kernel_rfl)) (by unfold Func.isWrapper; first | (rw [if_pos (by decide +kernel)]; kernel_rfl) | (rw [if_neg (by decide +kernel)]; exact ⟨rfl, rfl⟩))
    (fun os started H enc _ F => by rw [OpenClaim.pre_eq_preRow]; exact lifted os started H enc F)

theorem plain (f : FuncId) (fn : Func) (hf : Tryd.pinned.checked.prog.funcNamed "pub-bridleway/laws.FnEchoOrder" = some f) (hfn : Tryd.pinned.checked.prog.funcs[f]? = some fn) :
    false = Tryd.pinned.checked.prog.looks [] ∧ ∀ (j : Nat) t, fn.params[j]? = some t → Tryd.pinned.checked.prog.wantsStandIn t = false := by
  obtain rfl : f = 11 := Option.some.inj ((show Tryd.prog.funcNamed "pub-bridleway/laws.FnEchoOrder" = some 11 by kernel_rfl).symm.trans hf) |>.symm
  obtain rfl : fn = Tryd.f11 := (Option.some.inj (Tryd.func11.symm.trans hfn)).symm
  refine ⟨by kernel_rfl, fun j t ht => ?_⟩
  have hm : t ∈ [28, 58, 9, 9] := by have := Array.mem_of_getElem? ht; simpa [Tryd.params11] using this
  have hall : ∀ u ∈ [28, 58, 9, 9], Tryd.prog.wantsStandIn u = false := by
    intro u hu
    simp only [List.mem_cons, List.not_mem_nil, or_false] at hu
    rcases hu with rfl | rfl | rfl | rfl
    · exact (show Tryd.prog.wantsStandIn 28 = false by kernel_rfl)
    · exact (show Tryd.prog.wantsStandIn 58 = false by kernel_rfl)
    · exact (show Tryd.prog.wantsStandIn 9 = false by kernel_rfl)
    · exact (show Tryd.prog.wantsStandIn 9 = false by kernel_rfl)
  exact hall t hm

theorem card : Rows.FnEchoOrderCardSaid :=
  Claim7.holds_tied_plain_at .later [] _ _ _ _ said (fun _ h => by cases h) (by kernel_rfl) (fun _ h => by cases h) fnEchoOrder_row_tie rfl ⟨rfl, rfl⟩ (by kernel_rfl) rfl plain (by kernel_rfl)
end Go.Proofs.YtekclaobeccbdaaDoor.order
