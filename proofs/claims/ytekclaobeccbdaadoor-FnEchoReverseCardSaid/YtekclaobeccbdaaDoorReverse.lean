/- The law FnEchoReverse holds for every input: the path of a route by its name. -/
import Derived.Test.YtekclaobeccbdaaDoorBr
import Derived.Test.YtekclaobeccbdaaDoorBq
import Derived.Test.YtekclaobeccbdaaDoorBj
import Derived.Test.YtekclaobeccbdaaDoorBl
import Derived.Test.YtekclaobeccbdaaDoorBk
/- FnEchoReverse. Printed by wip/mk_i8.py. -/
namespace Go.Proofs
open Go Bw
set_option maxRecDepth 20000

theorem eqS_tt2 {P : Program} {c : Cx} {n : Nat} {op : Op} {ty : TypeId} {fr : SF} {H : SH} {i j : List UInt8} (h : i = j) (hv : Val P c n op ty fr H (.bool (decide (i = j)))) : Val P c n op ty fr H (.bool true) := by rw [decide_eq_true h] at hv; exact hv
/-- routes with names of their own, and places of their own -/
def Dist (Rs : List RB) : Prop := ∀ (i j : Nat) (a b : RB), j < i → Rs[i]? = some a → Rs[j]? = some b → b.nm ≠ a.nm ∧ ¬ (b.m = a.m ∧ b.p = a.p)
theorem Dist.same {Rs : List RB} (h : Dist Rs) {a b : RB} (ha : a ∈ Rs) (hb : b ∈ Rs) (he : a.nm = b.nm ∨ (a.m = b.m ∧ a.p = b.p)) : a = b := by
  obtain ⟨i, hi⟩ := List.getElem?_of_mem ha
  obtain ⟨j, hj⟩ := List.getElem?_of_mem hb
  rcases Nat.lt_trichotomy i j with hl | rfl | hl
  · have := h j i b a hl hj hi
    rcases he with he | he
    · exact absurd he this.1
    · exact absurd he this.2
  · rw [hi] at hj; exact Option.some.inj hj
  · have := h i j a b hl hi hj
    rcases he with he | he
    · exact absurd he.symm this.1
    · exact absurd ⟨he.1.symm, he.2.symm⟩ this.2
theorem Keyed.same {Rs : List RB} (h : Keyed Rs) {a b : RB} (ha : a ∈ Rs) (hb : b ∈ Rs) (he : a.m ++ a.p = b.m ++ b.p) : a.m = b.m ∧ a.p = b.p := by
  obtain ⟨i, hi⟩ := List.getElem?_of_mem ha
  obtain ⟨j, hj⟩ := List.getElem?_of_mem hb
  rcases Nat.lt_trichotomy i j with hl | rfl | hl
  · have := h j i b a hl hj hi he.symm
    exact ⟨this.1.symm, this.2.symm⟩
  · rw [hi] at hj; cases hj; exact ⟨rfl, rfl⟩
  · exact h i j a b hl hi hj he
theorem rev_law {Rs Qs : List RB} (hK : Keyed Rs) (hD : Dist Rs) {r0 : RB} (hr : r0 ∈ Rs) (h1 : ∀ q ∈ Qs, q ∈ Rs) (h2 : ∀ r ∈ Rs, ∃ q ∈ Qs, q.m ++ q.p = r.m ++ r.p) {R : List UInt8} {ws : List (List UInt8)}
    (h3 : (∃ q ∈ Qs, q.nm = r0.nm ∧ R = rv false q.p ws) ∨ (∀ q ∈ Qs, q.nm ≠ r0.nm)) : R = rv false r0.p ws := by
  obtain ⟨q0, hq0, he⟩ := h2 r0 hr
  have e0 : q0 = r0 := hD.same (h1 _ hq0) hr (.inr (hK.same (h1 _ hq0) hr he))
  subst e0
  rcases h3 with ⟨q, hq, hn, rfl⟩ | h3
  · rw [hD.same (h1 _ hq) hr (.inl hn)]
  · exact absurd rfl (h3 _ hq0)

theorem f8_any (w : World) (ad : Option Addr) (cp : Nat) (Rs : List RB) (bt : UInt8) (ad2 : Option Addr) (cp2 : Nat) (vs : List (List UInt8)) (hat : RtsAt w ad Rs) (hcp : Rs.length ≤ cp) (htx : TxAt w ad2 vs) (hcp2 : vs.length ≤ cp2) :
    Calls Tryd.prog 8 #[.slice ad Rs.length cp, .int .u8 (bt.toNat : Int), .slice ad2 vs.length cp2] w fun e w' => e = .returned (.bool true) ∧ HF w (fun _ => False) [] w' := by
  refine enter (fun _ => False) [] Tryd.func8 rfl Tryd.ntmps8 rfl rfl (HF.start w _) fun c hc => ?_
  subst hc
  refine GC.seq ?_
  refine GC.reg ?_  -- region 0, echo.go:225
  refine G.v (V.asg rfl) rfl ?_
  refine G.nil ?_
  refine GC.seq ?_
  refine GC.seq ?_
  refine GC.reg ?_  -- region 1, echo.go:226
  refine G.v (V.mv rfl) rfl ?_
  refine G.callP Tryd.call23 rfl rfl (fun w1 hw1 => f23_any w1 ad cp Rs (fun i r hr => by obtain ⟨b, o, h1, h2⟩ := hat i r hr; exact ⟨b, o, h1, fun j v hj => hw1.cellOld (h2 j v hj) id⟩)) ?_
  refine G.v (V.not rfl) rfl ?_
  refine G.v (V.mv rfl) rfl ?_
  refine G.bc 17 rfl (fun h17 => ?_) (fun h17 => ?_)
  · refine G.sg rfl rfl rfl rfl rfl rfl ?_
    refine G.sg rfl rfl rfl rfl rfl rfl ?_
    refine G.sg rfl rfl rfl rfl rfl rfl ?_
    refine G.v (V.pickT rfl rfl) rfl ?_
    refine G.nil ?_
    refine GC.condT rfl ?_
    refine GC.seq ?_
    refine GC.reg ?_  -- region 2, echo.go:227
    refine G.v (V.asg rfl) rfl ?_
    refine G.nil ?_
    exact GC.ret1 rfl rfl fun w' hw' => ⟨rfl, hw'.sub (List.nil_sublist _)⟩
  · refine G.vg rfl rfl (V.mv rfl) rfl ?_
    refine G.gd rfl rfl ?_
    refine G.callP Tryd.call13 rfl rfl (fun w1 hw1 => f13_any w1 ad2 cp2 vs (fun j x hj => by obtain ⟨b, o, h1, h2⟩ := htx j x hj; exact ⟨b, o, h1, hw1.cellOld h2 id⟩)) ?_
    refine G.vg rfl rfl (V.not rfl) rfl ?_
    refine G.v (V.pickF rfl rfl) rfl ?_
    refine G.nil ?_
    refine GC.cond rfl (fun h21 => ?_) (fun h21 => ?_)
    · refine GC.seq ?_
      refine GC.reg ?_  -- region 2, echo.go:227
      refine G.v (V.asg rfl) rfl ?_
      refine G.nil ?_
      exact GC.ret1 rfl rfl fun w' hw' => ⟨rfl, hw'.sub (List.nil_sublist _)⟩
    refine GC.skip ?_
    refine GC.seq ?_
    refine GC.seq ?_
    refine GC.reg ?_  -- region 3, echo.go:229
    refine G.v (V.mv rfl) rfl ?_
    refine G.callW (fun v H2 => ∃ b : Bool, (b = true ↔ Right Rs) ∧ v = .bool b ∧ H2 = []) Tryd.call14 rfl rfl (fun w1 hw1 => ?_) ?_
    · refine (f14_any w1 ad cp Rs (fun i r hr => by obtain ⟨b, o, h1, h2⟩ := hat i r hr; exact ⟨b, o, h1, fun j v hj => hw1.cellOld (h2 j v hj) id⟩)).mono fun e w' ⟨b, h1, h2, h3⟩ => ⟨_, _, h2, ?_, b, h1, rfl, rfl⟩
      exact hw1.after0 h3 (fun e he => by cases he)
    rintro v H2 ⟨br, hbr, rfl, rfl⟩
    refine G.v (V.not rfl) rfl ?_
    refine G.v (V.mv rfl) rfl ?_
    refine G.bc 25 rfl (fun h25 => ?_) (fun h25 => ?_)
    · refine G.sg rfl rfl rfl rfl rfl rfl ?_
      refine G.sg rfl rfl rfl rfl rfl rfl ?_
      refine G.sg rfl rfl rfl rfl rfl rfl ?_
      refine G.v (V.pickT rfl rfl) rfl ?_
      refine G.v (V.mv rfl) rfl ?_
      refine G.sg rfl rfl rfl rfl rfl rfl ?_
      refine G.sg rfl rfl rfl rfl rfl rfl ?_
      refine G.sg rfl rfl rfl rfl rfl rfl ?_
      refine G.v (V.pickT rfl rfl) rfl ?_
      refine G.v (V.mv rfl) rfl ?_
      refine G.sg rfl rfl rfl rfl rfl rfl ?_
      refine G.sg rfl rfl rfl rfl rfl rfl ?_
      refine G.sg rfl rfl rfl rfl rfl rfl ?_
      refine G.v (V.pickT rfl rfl) rfl ?_
      refine G.nil ?_
      refine GC.condT rfl ?_
      refine GC.seq ?_
      refine GC.reg ?_  -- region 4, echo.go:230
      refine G.callP Tryd.call16 rfl rfl (fun w1 hw1 => f16_any w1) ?_
      refine G.v (V.asg rfl) rfl ?_
      refine G.nil ?_
      exact GC.ret1 rfl rfl fun w' hw' => ⟨rfl, hw'.sub (List.nil_sublist _)⟩
    · refine G.vg rfl rfl (V.mv rfl) rfl ?_
      have hRt : Right Rs := hbr.1 (by simpa using h25)
      refine G.gd rfl rfl ?_
      refine G.callW (fun v H2 => ∃ b : Bool, (b = true → Keyed Rs) ∧ v = .bool b ∧ H2 = []) Tryd.call26 rfl rfl (fun w1 hw1 => ?_) ?_
      · refine (f26_any w1 ad cp Rs (fun i r hr => by obtain ⟨b, o, h1, h2⟩ := hat i r hr; exact ⟨b, o, h1, fun j v hj => hw1.cellOld (h2 j v hj) id⟩) hRt hcp).mono fun e w' ⟨b, h1, h2, h3⟩ => ⟨_, _, h2, ?_, b, h1, rfl, rfl⟩
        exact hw1.after0 h3 (fun e he => by cases he)
      rintro v H2 ⟨ba, hba, rfl, rfl⟩
      refine G.vg rfl rfl (V.not rfl) rfl ?_
      refine G.v (V.pickF rfl rfl) rfl ?_
      refine G.v (V.mv rfl) rfl ?_
      refine G.bc 30 rfl (fun h30 => ?_) (fun h30 => ?_)
      · refine G.sg rfl rfl rfl rfl rfl rfl ?_
        refine G.sg rfl rfl rfl rfl rfl rfl ?_
        refine G.sg rfl rfl rfl rfl rfl rfl ?_
        refine G.v (V.pickT rfl rfl) rfl ?_
        refine G.v (V.mv rfl) rfl ?_
        refine G.sg rfl rfl rfl rfl rfl rfl ?_
        refine G.sg rfl rfl rfl rfl rfl rfl ?_
        refine G.sg rfl rfl rfl rfl rfl rfl ?_
        refine G.v (V.pickT rfl rfl) rfl ?_
        refine G.nil ?_
        refine GC.condT rfl ?_
        refine GC.seq ?_
        refine GC.reg ?_  -- region 4, echo.go:230
        refine G.callP Tryd.call16 rfl rfl (fun w1 hw1 => f16_any w1) ?_
        refine G.v (V.asg rfl) rfl ?_
        refine G.nil ?_
        exact GC.ret1 rfl rfl fun w' hw' => ⟨rfl, hw'.sub (List.nil_sublist _)⟩
      · refine G.vg rfl rfl (V.mv rfl) rfl ?_
        refine G.vg rfl rfl (V.lenL Tryd.underlying28 rfl) rfl ?_
        refine G.vg rfl rfl (V.eqI rfl rfl) rfl ?_
        refine G.v (V.pickF rfl rfl) rfl ?_
        refine G.v (V.mv rfl) rfl ?_
        refine G.bc 35 rfl (fun h35 => ?_) (fun h35 => ?_)
        · refine G.sg rfl rfl rfl rfl rfl rfl ?_
          refine G.sg rfl rfl rfl rfl rfl rfl ?_
          refine G.sg rfl rfl rfl rfl rfl rfl ?_
          refine G.v (V.pickT rfl rfl) rfl ?_
          refine G.nil ?_
          refine GC.condT rfl ?_
          refine GC.seq ?_
          refine GC.reg ?_  -- region 4, echo.go:230
          refine G.callP Tryd.call16 rfl rfl (fun w1 hw1 => f16_any w1) ?_
          refine G.v (V.asg rfl) rfl ?_
          refine G.nil ?_
          exact GC.ret1 rfl rfl fun w' hw' => ⟨rfl, hw'.sub (List.nil_sublist _)⟩
        · refine G.vg rfl rfl (V.mv rfl) rfl ?_
          refine G.vg rfl rfl (V.lenL Tryd.underlying24 rfl) rfl ?_
          refine G.vg rfl rfl (V.gt rfl rfl) rfl ?_
          refine G.v (V.pickF rfl rfl) rfl ?_
          refine G.nil ?_
          refine GC.cond rfl (fun h39 => ?_) (fun h39 => ?_)
          · refine GC.seq ?_
            refine GC.reg ?_  -- region 4, echo.go:230
            refine G.callP Tryd.call16 rfl rfl (fun w1 hw1 => f16_any w1) ?_
            refine G.v (V.asg rfl) rfl ?_
            refine G.nil ?_
            exact GC.ret1 rfl rfl fun w' hw' => ⟨rfl, hw'.sub (List.nil_sublist _)⟩
          refine GC.skip ?_
          refine GC.seq ?_
          refine GC.seq ?_
          have hlen := hRt.1
          have hK : Keyed Rs := hba (by simpa using h30)
          have hvl : vs.length ≤ 20 := by have := of_decide_eq_false h39; omega
          have hne : ¬ ((Rs.length : Nat) : Int) = 0 := by simpa using h35
          refine GC.reg ?_  -- region 5, echo.go:232
          refine G.v (V.mv rfl) rfl ?_
          refine G.v (V.lenL Tryd.underlying24 rfl) rfl ?_
          refine G.v (V.mv rfl) rfl ?_
          refine G.nil ?_
          refine GC.block ?_
          refine GC.loopJ (fun N fr' H' => ∃ j, j + N = vs.length ∧ (∀ i x, i < j → vs[i]? = some x → x.length ≤ 50) ∧ Sub [(41, .slice ad2 vs.length cp2), (42, I (vs.length : Nat)), (43, I ((j : Nat) : Int)), (0, .slice ad Rs.length cp), (1, .int .u8 (bt.toNat : Int)), (2, .slice ad2 vs.length cp2)] fr' ∧ H' = []) vs.length
            ⟨0, by omega, fun i x h => absurd h (Nat.not_lt_zero i), .cons rfl (.cons rfl (.cons rfl (.cons rfl (.cons rfl (.cons rfl .nil))))), rfl⟩ ?_
          rintro N fr' H' ⟨j, hj, hall, hs, rfl⟩ ih
          refine GC.weak hs ?_
          clear hs
          refine GC.seq ?_
          refine GC.reg ?_  -- region 6, echo.go:232
          refine G.v (V.lt rfl rfl) rfl ?_
          refine G.nil ?_
          refine GC.seq ?_
          refine GC.condD rfl (fun h44 => ?_) (fun h44 => ?_)
          · refine GC.skip ?_
            refine GC.seq ?_
            refine GC.block ?_
            refine GC.seq ?_
            have hlt : j < vs.length := by omega
            obtain ⟨x, hx⟩ : ∃ x, vs[j]? = some x := ⟨_, List.getElem?_eq_getElem hlt⟩
            obtain ⟨vb, vo, rfl, hvc⟩ := htx j x hx
            refine GC.reg ?_  -- region 7, echo.go:232
            refine G.v (V.ia (i := j) Tryd.underlying24 Tryd.sizeOf9 rfl rfl hlt) rfl ?_
            refine G.v (V.ldC (v := S x) Tryd.isAgg9 rfl (by rw [Nat.mul_one]; exact hvc) id) rfl ?_
            refine G.v (V.asg rfl) rfl ?_
            refine G.nil ?_
            refine GC.seq ?_
            refine GC.reg ?_  -- region 8, echo.go:233
            refine G.v (V.mv rfl) rfl ?_
            refine G.v (V.lenS Tryd.underlying9 rfl) rfl ?_
            refine G.v (V.gt rfl rfl) rfl ?_
            refine G.nil ?_
            refine GC.condD rfl (fun h49 => ?_) (fun h49 => ?_)
            · refine GC.seq ?_
              refine GC.reg ?_  -- region 9, echo.go:234
              refine G.callP Tryd.call16 rfl rfl (fun w1 hw1 => f16_any w1) ?_
              refine G.v (V.asg rfl) rfl ?_
              refine G.nil ?_
              exact GC.ret1 rfl rfl fun w' hw' => ⟨rfl, hw'.sub (List.nil_sublist _)⟩
            refine GC.skip ?_
            refine GC.inBlock ?_
            refine GC.reg ?_  -- region 10, echo.go:232
            refine G.v (V.addI (r := ((j + 1 : Nat) : Int)) rfl rfl rfl (by omega) (by omega)) rfl ?_
            refine G.v (V.mv rfl) rfl ?_
            refine G.nil ?_
            refine ih (N - 1) _ _ (by omega) ⟨j + 1, by omega, fun i y hi hy => ?_, .cons rfl (.cons rfl (.cons rfl (.cons rfl (.cons rfl (.cons rfl .nil))))), rfl⟩
            by_cases hij : i = j
            · subst hij; rw [hx] at hy; cases hy; omega
            · exact hall i y (by omega) hy
          refine GC.exit rfl ?_
          refine GC.seq ?_
          refine GC.seq ?_
          have hvb : ∀ x ∈ vs, x.length ≤ 50 := fun x hx => by
            obtain ⟨i, hi⟩ := List.getElem?_of_mem hx
            exact hall i x (by have := (List.getElem?_eq_some_iff.1 hi).1; omega) hi
          clear ih hall
          refine GC.reg ?_  -- region 11, echo.go:237
          refine G.v (V.mv rfl) rfl ?_
          refine G.v (V.lenL Tryd.underlying28 rfl) rfl ?_
          refine G.v (V.mv rfl) rfl ?_
          refine G.nil ?_
          refine GC.block ?_
          refine GC.loopJ (fun N fr' H' => ∃ i, i + N = Rs.length ∧ (∀ (i' j' : Nat) (a b : RB), i' < i → j' < i' → Rs[i']? = some a → Rs[j']? = some b → b.nm ≠ a.nm ∧ ¬ (b.m = a.m ∧ b.p = a.p)) ∧ Sub [(52, .slice ad Rs.length cp), (53, I (Rs.length : Nat)), (54, I ((i : Nat) : Int)), (0, .slice ad Rs.length cp), (1, .int .u8 (bt.toNat : Int)), (2, .slice ad2 vs.length cp2)] fr' ∧ H' = []) Rs.length
            ⟨0, by omega, fun i' j' a b h => absurd h (Nat.not_lt_zero i'), .cons rfl (.cons rfl (.cons rfl (.cons rfl (.cons rfl (.cons rfl .nil))))), rfl⟩ ?_
          rintro N fr' H' ⟨i, hi, hall, hs, rfl⟩ ih
          refine GC.weak hs ?_
          clear hs
          refine GC.seq ?_
          refine GC.reg ?_  -- region 12, echo.go:237
          refine G.v (V.lt rfl rfl) rfl ?_
          refine G.nil ?_
          refine GC.seq ?_
          refine GC.condD rfl (fun h55 => ?_) (fun h55 => ?_)
          · refine GC.skip ?_
            refine GC.seq ?_
            refine GC.block ?_
            refine GC.seq ?_
            have hlt : i < Rs.length := by omega
            obtain ⟨r, hr⟩ : ∃ r, Rs[i]? = some r := ⟨_, List.getElem?_eq_getElem hlt⟩
            have hR := hRt.2 r (List.mem_of_getElem? hr)
            have heP := ePath_of hR.hd
            have hrpl := hR.pl
            have hcell : ∃ ab o, ad = some ⟨ab, o, none⟩ ∧ ∀ k v, r.cells[k]? = some v → w.cell? ⟨ab, o + i * 3 + k, none⟩ = some v := hat i r hr
            obtain ⟨ab, o, rfl, hcell⟩ := hcell
            refine GC.reg ?_  -- region 13, echo.go:237
            refine G.v (V.mv rfl) rfl ?_
            refine G.v (V.ia (i := i) Tryd.underlying28 Tryd.sizeOf23 rfl rfl hlt) rfl ?_
            refine G.v (V.ldAC (cs := r.cells) Tryd.isAgg23 Tryd.sizeOf23 rfl hcell rfl id) rfl ?_
            refine G.al Tryd.zeroValue23 rfl rfl (fun xb hxb => ?_)
            refine G.v (V.asg rfl) rfl ?_
            refine G.stA (cs := r.cells) Tryd.sizeOf23 rfl rfl (fun v hv => ?_) .z rfl ?_
            · simp only [RB.cells, List.mem_cons, List.not_mem_nil, or_false] at hv
              rcases hv with rfl | rfl | rfl <;> rfl
            refine G.nil ?_
            refine GC.seq ?_
            refine GC.turn (H' := [⟨xb, true, .row r.cells 23 (0, 0)⟩]) (fun w1 hw1 => hw1) ?_
            refine GC.reg ?_  -- region 14, echo.go:238
            refine G.v (V.mv rfl) rfl ?_
            refine G.v (V.mv rfl) rfl ?_
            refine G.v (V.slTH (i := i) Tryd.underlying28 Tryd.sizeOf23 rfl rfl (by omega)) rfl ?_
            refine G.v (V.lenL Tryd.underlying28 rfl) rfl ?_
            refine G.v (V.mv rfl) rfl ?_
            refine G.nil ?_
            refine GC.block ?_
            refine GC.loopJ (fun M fr2 H2 => ∃ j, j + M = i ∧ (∀ (j' : Nat) (b : RB), j' < j → Rs[j']? = some b → b.nm ≠ r.nm ∧ ¬ (b.m = r.m ∧ b.p = r.p)) ∧ Sub [(52, .slice (some ⟨ab, o, none⟩) Rs.length cp), (53, I (Rs.length : Nat)), (54, I ((i : Nat) : Int)), (0, .slice (some ⟨ab, o, none⟩) Rs.length cp), (1, .int .u8 (bt.toNat : Int)), (2, .slice ad2 vs.length cp2), (10, Pt xb 0), (61, .slice (some ⟨ab, o, none⟩) i cp), (62, I ((i : Nat) : Int)), (63, I ((j : Nat) : Int))] fr2 ∧ H2 = [⟨xb, true, .row r.cells 23 (0, 0)⟩]) i
              ⟨0, by omega, fun j' b h => absurd h (Nat.not_lt_zero j'), .cons rfl (.cons rfl (.cons rfl (.cons rfl (.cons rfl (.cons rfl (.cons rfl (.cons rfl (.cons rfl (.cons rfl .nil))))))))), rfl⟩ ?_
            rintro M fr2 H2 ⟨j, hj2, hin, hs, rfl⟩ ih2
            refine GC.weak hs ?_
            clear hs
            refine GC.seq ?_
            refine GC.reg ?_  -- region 15, echo.go:238
            refine G.v (V.lt rfl rfl) rfl ?_
            refine G.nil ?_
            refine GC.seq ?_
            refine GC.condD rfl (fun h64 => ?_) (fun h64 => ?_)
            · refine GC.skip ?_
              refine GC.seq ?_
              refine GC.block ?_
              refine GC.seq ?_
              have hjl : j < i := by omega
              obtain ⟨q, hq⟩ : ∃ q, Rs[j]? = some q := ⟨_, List.getElem?_eq_getElem (by omega)⟩
              have hQ := hRt.2 q (List.mem_of_getElem? hq)
              have heQ := ePath_of hQ.hd
              have hqpl := hQ.pl
              have hqc : ∀ k v, q.cells[k]? = some v → w.cell? ⟨ab, o + j * 3 + k, none⟩ = some v := by
                obtain ⟨b2, o2, e, h⟩ := hat j q hq
                cases e
                exact h
              refine GC.reg ?_  -- region 16, echo.go:238
              refine G.v (V.ia (i := j) Tryd.underlying28 Tryd.sizeOf23 rfl rfl hjl) rfl ?_
              refine G.v (V.ldAC (cs := q.cells) Tryd.isAgg23 Tryd.sizeOf23 rfl hqc rfl id) rfl ?_
              refine G.al Tryd.zeroValue23 rfl rfl (fun yb hyb => ?_)
              refine G.stA (cs := q.cells) Tryd.sizeOf23 rfl rfl (fun v hv => ?_) .z rfl ?_
              · simp only [RB.cells, List.mem_cons, List.not_mem_nil, or_false] at hv
                rcases hv with rfl | rfl | rfl <;> rfl
              refine G.nil ?_
              refine GC.seq ?_
              refine GC.join (fun fr2 H2 => ∃ b : Bool, (b = false → q.nm ≠ r.nm ∧ ¬ (q.m = r.m ∧ q.p = r.p)) ∧ Sub [(52, .slice (some ⟨ab, o, none⟩) Rs.length cp), (53, I (Rs.length : Nat)), (54, I ((i : Nat) : Int)), (0, .slice (some ⟨ab, o, none⟩) Rs.length cp), (1, .int .u8 (bt.toNat : Int)), (2, .slice ad2 vs.length cp2), (10, Pt xb 0), (61, .slice (some ⟨ab, o, none⟩) i cp), (62, I ((i : Nat) : Int)), (63, I ((j : Nat) : Int)), (87, .bool b)] fr2 ∧ [⟨yb, true, .row q.cells 23 (0, 0)⟩, ⟨xb, true, .row r.cells 23 (0, 0)⟩] = H2) (fun J17 => ?_) ?_
              · refine GC.turn (H' := [⟨yb, true, .row q.cells 23 (0, 0)⟩, ⟨xb, true, .row r.cells 23 (0, 0)⟩]) (fun w1 hw1 => hw1) ?_
                refine GC.regQ mixed (by kernel_rfl) ?_  -- region 17, echo.go:239
                refine GQ.v (V.fa F23_2 rfl) rfl ?_
                refine GQ.v (V.ld (b := yb) (off := 0 + 2) (wf := true) (l := q.cells) (T := 23) (fz := (0, 0)) (v := S q.nm) Tryd.isAgg9 rfl (.head _) rfl) rfl ?_
                refine GQ.v (V.fa F23_2 rfl) rfl ?_
                refine GQ.v (V.ld (b := xb) (off := 0 + 2) (wf := true) (l := r.cells) (T := 23) (fz := (0, 0)) (v := S r.nm) Tryd.isAgg9 rfl (.tail _ (.head _)) rfl) rfl ?_
                refine GQ.v (V.eqS rfl rfl) rfl ?_
                refine GQ.v (V.mv rfl) rfl ?_
                refine GQ.bc 72 rfl (fun h72 => ?_) (fun h72 => ?_)
                · refine GQ.sg rfl rfl rfl rfl rfl rfl ?_
                  refine GQ.sg rfl rfl rfl rfl rfl rfl ?_
                  refine GQ.sg rfl rfl rfl rfl rfl rfl ?_
                  refine GQ.sg rfl rfl rfl rfl rfl rfl ?_
                  refine GQ.sg rfl rfl rfl rfl rfl rfl ?_
                  refine GQ.sg rfl rfl rfl rfl rfl rfl ?_
                  refine GQ.sgU rfl rfl rfl rfl rfl ?_
                  refine GQ.sgU rfl rfl rfl rfl rfl ?_
                  refine GQ.sgU rfl rfl rfl rfl rfl ?_
                  refine GQ.sgU rfl rfl rfl rfl rfl ?_
                  refine GQ.sgU rfl rfl rfl rfl rfl ?_
                  refine GQ.sgU rfl rfl rfl rfl rfl ?_
                  refine GQ.sgU rfl rfl rfl rfl rfl ?_
                  refine GQ.sg rfl rfl rfl rfl rfl rfl ?_
                  refine GQ.v (V.pickT rfl rfl) rfl ?_
                  refine GQ.nil ?_
                  exact J17 _ _ ⟨true, fun h => (by cases h), .cons rfl (.cons rfl (.cons rfl (.cons rfl (.cons rfl (.cons rfl (.cons rfl (.cons rfl (.cons rfl (.cons rfl (.cons rfl .nil)))))))))), rfl⟩
                · refine GQ.vg rfl rfl (V.fa F23_0 rfl) rfl ?_
                  refine GQ.vg rfl rfl (V.ld (b := yb) (off := 0 + 0) (wf := true) (l := q.cells) (T := 23) (fz := (0, 0)) (v := S q.m) Tryd.isAgg9 rfl (.head _) rfl) rfl ?_
                  refine GQ.vg rfl rfl (V.fa F23_0 rfl) rfl ?_
                  refine GQ.vg rfl rfl (V.ld (b := xb) (off := 0 + 0) (wf := true) (l := r.cells) (T := 23) (fz := (0, 0)) (v := S r.m) Tryd.isAgg9 rfl (.tail _ (.head _)) rfl) rfl ?_
                  refine GQ.vg rfl rfl (V.eqS rfl rfl) rfl ?_
                  refine GQ.vg rfl rfl (V.mv rfl) rfl ?_
                  refine GQ.bc 78 rfl (fun h78 => ?_) (fun h78 => ?_)
                  · refine GQ.vg rfl rfl (V.fa F23_1 rfl) rfl ?_
                    refine GQ.vg rfl rfl (V.ld (b := yb) (off := 0 + 1) (wf := true) (l := q.cells) (T := 23) (fz := (0, 0)) (v := S q.p) Tryd.isAgg9 rfl (.head _) rfl) rfl ?_
                    refine GQ.gd rfl rfl ?_
                    refine GQ.callP (v := S q.p) Tryd.call21 rfl rfl (fun w1 hw1 => (f21_any w1 q.p (by omega)).mono fun e w' h => by rw [heQ] at h; exact h) ?_
                    refine GQ.vg rfl rfl (V.fa F23_1 rfl) rfl ?_
                    refine GQ.vg rfl rfl (V.ld (b := xb) (off := 0 + 1) (wf := true) (l := r.cells) (T := 23) (fz := (0, 0)) (v := S r.p) Tryd.isAgg9 rfl (.tail _ (.head _)) rfl) rfl ?_
                    refine GQ.gd rfl rfl ?_
                    refine GQ.callP (v := S r.p) Tryd.call21 rfl rfl (fun w1 hw1 => (f21_any w1 r.p (by omega)).mono fun e w' h => by rw [heP] at h; exact h) ?_
                    refine GQ.vg rfl rfl (V.eqS rfl rfl) rfl ?_
                    refine GQ.vg rfl rfl (V.pickT rfl rfl) rfl ?_
                    refine GQ.v (V.pickF rfl rfl) rfl ?_
                    refine GQ.nil ?_
                    exact J17 _ _ ⟨_, fun h => ⟨of_decide_eq_false h72, fun e => absurd e.2 (of_decide_eq_false h)⟩, .cons rfl (.cons rfl (.cons rfl (.cons rfl (.cons rfl (.cons rfl (.cons rfl (.cons rfl (.cons rfl (.cons rfl (.cons rfl .nil)))))))))), rfl⟩
                  · refine GQ.sg rfl rfl rfl rfl rfl rfl ?_
                    refine GQ.sg rfl rfl rfl rfl rfl rfl ?_
                    refine GQ.sg rfl rfl rfl rfl rfl rfl ?_
                    refine GQ.sg rfl rfl rfl rfl rfl rfl ?_
                    refine GQ.sg rfl rfl rfl rfl rfl rfl ?_
                    refine GQ.sg rfl rfl rfl rfl rfl rfl ?_
                    refine GQ.sg rfl rfl rfl rfl rfl rfl ?_
                    refine GQ.vg rfl rfl (V.pickF rfl rfl) rfl ?_
                    refine GQ.v (V.pickF rfl rfl) rfl ?_
                    refine GQ.nil ?_
                    exact J17 _ _ ⟨false, fun h => ⟨of_decide_eq_false h72, fun e => absurd e.1 (of_decide_eq_false h78)⟩, .cons rfl (.cons rfl (.cons rfl (.cons rfl (.cons rfl (.cons rfl (.cons rfl (.cons rfl (.cons rfl (.cons rfl (.cons rfl .nil)))))))))), rfl⟩
              rintro fr2 H2 ⟨b17, hb17, hs17, rfl⟩
              refine GC.weak hs17 ?_
              clear hs17
              refine GC.cond rfl (fun h87 => ?_) (fun h87 => ?_)
              · refine GC.seq ?_
                refine GC.reg ?_  -- region 18, echo.go:240
                refine G.callP Tryd.call16 rfl rfl (fun w1 hw1 => f16_any w1) ?_
                refine G.v (V.asg rfl) rfl ?_
                refine G.nil ?_
                exact GC.ret1 rfl rfl fun w' hw' => ⟨rfl, hw'.sub (List.nil_sublist _)⟩
              refine GC.skip ?_
              refine GC.inBlock ?_
              refine GC.reg ?_  -- region 19, echo.go:238
              refine G.v (V.addI (r := ((j + 1 : Nat) : Int)) rfl rfl rfl (by omega) (by omega)) rfl ?_
              refine G.v (V.mv rfl) rfl ?_
              refine G.nil ?_
              refine GC.weakH (List.sublist_cons_self _ _) (ih2 (M - 1) _ _ (by omega) ⟨j + 1, by omega, fun j' b h1 h2 => ?_, .cons rfl (.cons rfl (.cons rfl (.cons rfl (.cons rfl (.cons rfl (.cons rfl (.cons rfl (.cons rfl (.cons rfl .nil))))))))), rfl⟩)
              by_cases hjj : j' = j
              · subst hjj; rw [hq] at h2; cases h2; exact hb17 h87
              · exact hin j' b (by omega) h2
            refine GC.exit rfl ?_
            refine GC.inBlock ?_
            refine GC.reg ?_  -- region 20, echo.go:237
            refine G.v (V.addI (r := ((i + 1 : Nat) : Int)) rfl rfl rfl (by omega) (by omega)) rfl ?_
            refine G.v (V.mv rfl) rfl ?_
            refine G.nil ?_
            refine GC.weakH (List.nil_sublist _) (ih (N - 1) _ _ (by omega) ⟨i + 1, by omega, fun i' j' a b h1 h2 h3 h4 => ?_, .cons rfl (.cons rfl (.cons rfl (.cons rfl (.cons rfl (.cons rfl .nil))))), rfl⟩)
            by_cases hii : i' = i
            · subst hii; rw [hr] at h3; cases h3; exact hin j' b (by omega) h4
            · exact hall i' j' a b (by omega) h2 h3 h4
          refine GC.exit rfl ?_
          refine GC.seq ?_
          have hD : Dist Rs := fun i' j' a b h1 h2 h3 => hall i' j' a b (by have := (List.getElem?_eq_some_iff.1 h2).1; omega) h1 h2 h3
          have hwr : IntKind.i64.wrap (bt.toNat : Int) = (bt.toNat : Int) := wrap_i64 (by omega) (by have := bt.toNat_lt; omega)
          have hpos : 0 < Rs.length := by omega
          have hxl : bt.toNat % Rs.length < Rs.length := Nat.mod_lt _ hpos
          obtain ⟨x, hxe⟩ : ∃ x, bt.toNat % Rs.length = x := ⟨_, rfl⟩
          rw [hxe] at hxl
          obtain ⟨r, hr⟩ : ∃ r, Rs[x]? = some r := ⟨_, List.getElem?_eq_getElem hxl⟩
          have hR := hRt.2 r (List.mem_of_getElem? hr)
          have heP := ePath_of hR.hd
          have hrpl := hR.pl
          obtain ⟨ab, ao, rfl, hcell⟩ := hat x r hr
          refine GC.reg ?_  -- region 21, echo.go:244
          refine G.v (V.mv rfl) rfl ?_
          refine G.v (V.mv rfl) rfl ?_
          refine G.v (V.cvI Tryd.underlying5 Tryd.underlying3 rfl) rfl ?_
          rw [hwr]
          refine G.v (V.mv rfl) rfl ?_
          refine G.v (V.lenL Tryd.underlying28 rfl) rfl ?_
          refine G.v (V.rem (i := bt.toNat) (j := Rs.length) rfl rfl hpos (by have := bt.toNat_lt; omega)) rfl ?_
          rw [hxe]
          refine G.v (V.ia (i := x) Tryd.underlying28 Tryd.sizeOf23 rfl rfl hxl) rfl ?_
          refine G.v (V.ldAC (cs := r.cells) Tryd.isAgg23 Tryd.sizeOf23 rfl hcell rfl id) rfl ?_
          refine G.al Tryd.zeroValue23 rfl rfl (fun xb hxb => ?_)
          refine G.stA (cs := r.cells) Tryd.sizeOf23 rfl rfl (fun v hv => ?_) .z rfl ?_
          · simp only [RB.cells, List.mem_cons, List.not_mem_nil, or_false] at hv
            rcases hv with rfl | rfl | rfl <;> rfl
          refine G.nil ?_
          refine GC.seq ?_
          refine GC.seq ?_
          refine GC.turn (H' := [⟨xb, true, .row r.cells 23 (0, 0)⟩]) (fun w1 hw1 => hw1) ?_
          refine GC.reg ?_  -- region 22, echo.go:245
          refine G.v (V.fa F23_2 rfl) rfl ?_
          refine G.v (V.ld (b := xb) (off := 0 + 2) (wf := true) (l := r.cells) (T := 23) (fz := (0, 0)) (v := S r.nm) Tryd.isAgg9 rfl (.head _) rfl) rfl ?_
          refine G.v (V.eqS rfl rfl) rfl ?_
          refine G.nil ?_
          refine GC.condD rfl (fun h101 => ?_) (fun h101 => ?_)
          · refine GC.seq ?_
            refine GC.reg ?_  -- region 23, echo.go:246
            refine G.callP Tryd.call16 rfl rfl (fun w1 hw1 => f16_any w1) ?_
            refine G.v (V.asg rfl) rfl ?_
            refine G.nil ?_
            exact GC.ret1 rfl rfl fun w' hw' => ⟨rfl, hw'.sub (List.nil_sublist _)⟩
          refine GC.skip ?_
          refine GC.seq ?_
          refine GC.join (fun fr' H' => Sub [(6, .bool true)] fr') (fun J24 => ?_) ?_
          · have hSb : ∀ (H : SH) w1, HF w (fun _ => False) H w1 → (⟨xb, true, .row r.cells 23 (0, 0)⟩ : Ent) ∈ H → ∀ k v, r.cells[k]? = some v → w1.cell? ⟨xb, k, none⟩ = some v := fun H w1 hw hm k v hk => cell_row hw hm (by rw [nth_eq]; exact hk)
            refine GC.regA (fun w1 => ∀ k v, r.cells[k]? = some v → w1.cell? ⟨xb, k, none⟩ = some v) mixed ?_
            refine GA.one 0 rfl (by kernel_rfl) ?_
            refine GB.callW (xs := []) (vs := []) (fun v H2 => v = .bool true ∧ H2 = [⟨xb, true, .row r.cells 23 (0, 0)⟩]) Tryd.call16 rfl rfl (fun v H2 ⟨_, h2⟩ w1 hw1 => hSb _ w1 hw1 (by rw [h2]; simp)) (fun w1 hw1 => (f16_any w1).mono fun e w' ⟨h1, h2⟩ => ⟨_, _, h1, hw1.after0 h2 (fun e he => by cases he), rfl, rfl⟩) ?_
            rintro v H2 ⟨rfl, rfl⟩
            refine GA.p 1 rfl (by kernel_rfl) (fun w1 hw1 => hSb _ w1 hw1 (by simp)) (fun _ => V.mv rfl) rfl ?_
            refine GA.pg 2 rfl rfl rfl (by kernel_rfl) (fun w1 hw1 => hSb _ w1 hw1 (by simp)) (fun _ => V.mv rfl) rfl ?_
            refine GA.pg 4 rfl rfl rfl (by kernel_rfl) (fun w1 hw1 => hSb _ w1 hw1 (by simp)) (fun _ => V.fa F23_2 rfl) rfl ?_
            refine GA.ldg 5 rfl rfl rfl (by kernel_rfl) (fun w1 hw1 => hSb _ w1 hw1 (by simp)) Tryd.isAgg9 rfl (fun w1 h => h 2 (S r.nm) rfl) rfl ?_
            refine GA.pg 6 rfl rfl rfl (by kernel_rfl) (fun w1 hw1 => hSb _ w1 hw1 (by simp)) (fun _ => V.mv rfl) rfl ?_
            refine GA.pg 8 rfl rfl rfl (by kernel_rfl) (fun w1 hw1 => hSb _ w1 hw1 (by simp)) (fun _ => V.fa F23_1 rfl) rfl ?_
            refine GA.ldg 9 rfl rfl rfl (by kernel_rfl) (fun w1 hw1 => hSb _ w1 hw1 (by simp)) Tryd.isAgg9 rfl (fun w1 h => h 1 (S r.p) rfl) rfl ?_
            refine GA.pg 11 rfl rfl rfl (by kernel_rfl) (fun w1 hw1 => hSb _ w1 hw1 (by simp)) (fun _ => V.mv rfl) rfl ?_
            refine GA.one 3 rfl (by kernel_rfl) ?_
            refine GB.gd rfl rfl ?_
            refine GB.callW (xs := [.tmp 105]) (vs := [.slice (some ⟨ab, ao, none⟩) Rs.length cp]) (fun v H2 => ∃ Hr, Own 51 3 v Rs.length (Rs.flatMap RB.cells) Hr ∧ H2 = Hr ++ [⟨xb, true, .row r.cells 23 (0, 0)⟩]) Tryd.call19 rfl rfl (fun v H2 ⟨_, _, h2⟩ w1 hw1 => hSb _ w1 hw1 (by rw [h2]; simp)) (fun w1 hw1 => ?_) ?_
            · exact (f19_any w1 _ cp Rs (fun i r hr => by obtain ⟨b, o, h1, h2⟩ := hat i r hr; exact ⟨b, o, h1, fun j v hj => hw1.cellOld (h2 j v hj) id⟩) (by omega)).mono fun e w' ⟨v, Hr, h1, h2, h3⟩ => ⟨v, _, h1, hw1.after0 h3 h2.w, Hr, h2, rfl⟩
            rintro v H2 ⟨Hr, hownr, rfl⟩
            obtain ⟨adr, cpr, rfl⟩ := hownr.slice
            refine GA.one 7 rfl (by kernel_rfl) ?_
            refine GB.gd rfl rfl ?_
            refine GB.callW (xs := [.tmp 106, .tmp 108, .tmp 109]) (vs := [.slice adr Rs.length cpr, S r.nm, .slice ad2 vs.length cp2]) (fun v H2 => v = S (rv false r.p vs) ∧ H2 = Hr ++ [⟨xb, true, .row r.cells 23 (0, 0)⟩]) Tryd.call33 rfl rfl (fun v H2 ⟨_, h2⟩ w1 hw1 => hSb _ w1 hw1 (by rw [h2]; simp)) (fun w1 hw1 => ?_) ?_
            · refine (f33_any w1 adr cpr Rs r.nm ad2 cp2 vs (rts_own hw1 (fun e he => by simp [he]) hownr) (fun x h => (hRt.2 x h).ok) hlen (fun j x hj => by obtain ⟨b, o, h1, h2⟩ := htx j x hj; exact ⟨b, o, h1, hw1.cellOld h2 id⟩) (by omega) (fun x hx => by have := hvb x hx; omega)).mono fun e w' ⟨R, h1, ⟨Qs, g1, g2, g3⟩, h3⟩ => ?_
              have hRe := rev_law hK hD (List.mem_of_getElem? hr) g1 g2 g3
              exact ⟨_, _, h1, hw1.after0 h3 (fun e he => by cases he), by rw [hRe], rfl⟩
            rintro v H2 ⟨rfl, rfl⟩
            refine GA.one 10 rfl (by kernel_rfl) ?_
            refine GB.gd rfl rfl ?_
            refine GB.callW (xs := [.tmp 112]) (vs := [S r.p]) (fun v H2 => v = S r.p ∧ H2 = Hr ++ [⟨xb, true, .row r.cells 23 (0, 0)⟩]) Tryd.call21 rfl rfl (fun v H2 ⟨_, h2⟩ w1 hw1 => hSb _ w1 hw1 (by rw [h2]; simp)) (fun w1 hw1 => ?_) ?_
            · exact (f21_any w1 r.p (by omega)).mono fun e w' ⟨h1, h2⟩ => ⟨_, _, h1, hw1.after0 h2 (fun e he => by cases he), by rw [heP], rfl⟩
            rintro v H2 ⟨rfl, rfl⟩
            refine GA.one 12 rfl (by kernel_rfl) ?_
            refine GB.gd rfl rfl ?_
            refine GB.callW (xs := [.tmp 113, .tmp 114]) (vs := [S r.p, .slice ad2 vs.length cp2]) (fun v H2 => v = S (rv false r.p vs) ∧ H2 = Hr ++ [⟨xb, true, .row r.cells 23 (0, 0)⟩]) Tryd.call20 rfl rfl (fun v H2 ⟨_, h2⟩ w1 hw1 => hSb _ w1 hw1 (by rw [h2]; simp)) (fun w1 hw1 => ?_) ?_
            · exact (f20_any w1 r.p ad2 cp2 vs (fun j x hj => by obtain ⟨b, o, h1, h2⟩ := htx j x hj; exact ⟨b, o, h1, hw1.cellOld h2 id⟩) (by omega) (fun x hx => by have := hvb x hx; omega) (by omega) hcp2).mono fun e w' ⟨h1, h2⟩ => ⟨_, _, h1, hw1.after0 h2 (fun e he => by cases he), rfl, rfl⟩
            rintro v H2 ⟨rfl, rfl⟩
            refine GA.pg 13 (v := .bool true) rfl rfl rfl (by kernel_rfl) (fun w1 hw1 => hSb _ w1 hw1 (by simp)) (fun w0 => eqS_tt2 rfl (V.eqS rfl rfl)) rfl ?_
            refine GA.p 14 rfl (by kernel_rfl) (fun w1 hw1 => hSb _ w1 hw1 (by simp)) (fun _ => V.pickT rfl rfl) rfl ?_
            refine GA.p 15 rfl (by kernel_rfl) (fun w1 hw1 => hSb _ w1 hw1 (by simp)) (fun _ => V.asg rfl) rfl ?_
            refine GA.done (by kernel_rfl) ?_
            exact J24 _ _ (.cons rfl .nil)
          intro fr' H' hs24
          refine GC.weak hs24 ?_
          clear hs24
          exact GC.ret1 rfl rfl fun w' hw' => ⟨rfl, hw'.sub (List.nil_sublist _)⟩
end Go.Proofs

/- A law's card out of its walk: FnEchoReverse. -/
set_option maxRecDepth 100000
namespace Go.Proofs.YtekclaobeccbdaaDoor.reverse
open Go Bw Go.ChangeShapes Go.WideShapes Go.ChangeAt Go.RowKit

/-- what bytes.ErrTooLarge is laid as -/
abbrev tooS : ByteArray := { data := #[98, 121, 116, 101, 115, 46, 66, 117, 102, 102, 101, 114, 58, 32, 116, 111, 111, 32, 108, 97, 114, 103, 101] }
noncomputable def low : Nat := (World.holding Tryd.prog default ⟨#[], #[], []⟩).heap.size
noncomputable def laidWorld (os : Os) : World :=
  let w0 := World.holding Tryd.prog os ⟨#[.cells #[.string tooS] 217], #[], []⟩
  { w0 with heap := w0.heap.modify 1 fun
      | .cells _ t frozen => .cells #[.iface 200 (.pointer (some ⟨low, 0, none⟩))] t frozen
      | o => o }

theorem contract (H : Type) (enc : TypeId × Value → H) (W : World) (base : Nat) (args : Array Value) (ds gs : List (DataW H)) (before : List MemPlace)
    (hval : ∀ (j : Nat) t v, Tryd.f8.params[j]? = some t → args[j]? = some v → Value.okWide Tryd.prog W .any base t v)
    (hW : DataW.Whole enc Tryd.prog Tryd.f8.params.toList Rows.fnEchoReverseSpec.vars false W args.toList ds gs before) :
    Calls Tryd.prog 8 args W fun e W' => ∃ v, e = .returned v ∧ Rows.fnEchoReverseSpec.post enc Tryd.prog Tryd.f8 false true false false W args v W' := by
  have hW' := hW
  obtain ⟨p, q, hA0, hV, rfl, hfz, hnd⟩ := hW
  have hA : DataW.TrodAll enc Tryd.prog W 0 (fun _ => true) true [28, 5, 24] args.toList ds p := hA0
  obtain ⟨v0, vs0, d0, ds0, p0, q0, hargs, rfl, rfl, h0, r0⟩ := trodAll_cons hA
  obtain ⟨v1, vs_1, d1, ds1, p1, q1, rfl, rfl, rfl, h1, r1⟩ := trodAll_cons r0
  obtain ⟨v2, vs_2, d2, ds2, p2, q2, rfl, rfl, rfl, h2, r2⟩ := trodAll_cons r1
  obtain ⟨rfl, rfl, rfl⟩ := trodAll_nil r2
  obtain rfl : args = #[v0, v1, v2] := by cases args; simp_all
  obtain ⟨ad0, cp0, Rs, rfl, hcp0, hat0⟩ := open_rts Tryd.underlying28 Tryd.underlying23 tryd_c23 ⟨rfl, rfl⟩ ⟨rfl, rfl⟩ ⟨rfl, rfl⟩ Tryd.underlying9 tryd_c9 (hval 0 28 v0 rfl rfl) h0
  obtain ⟨n1, rfl⟩ := open_u8 Tryd.underlying5 (hval 1 5 v1 rfl rfl) h1
  obtain ⟨ad2, cp2, vs2, rfl, hcp2, htx2⟩ := open_txt Tryd.underlying24 Tryd.underlying9 tryd_c9 (hval 2 24 v2 rfl rfl) h2
  refine (f8_any W ad0 cp0 Rs n1 ad2 cp2 vs2 hat0 hcp0 htx2 hcp2).mono fun e W' ⟨he, hf⟩ => ⟨_, he, ?_⟩
  refine post_law hW' rfl rfl ?_ (by kernel_rfl) (below_of hf)
  obtain ⟨rfl, rfl⟩ := trodVars_none hV
  rfl

theorem laid_met (os : Os) : laidMet Tryd.prog Rows.fnEchoReverseRow.laid ((laidWorld os).forCall (fun _ _ => 0) ⟨#[], #[.slice none 0 0, .int .u8 0, .slice none 0 0], []⟩).memory :=
  laidMet_of_run (ps := [.cell 1 0, .cell low 0]) 8 (by kernel_rfl) (by kernel_rfl) (by kernel_rfl)
theorem reads (os : Os) {H : Type} (enc : TypeId × Value → H) : ∃ places, DataW.whole enc Tryd.prog ((laidWorld os).forCall (fun _ _ => 0) ⟨#[], #[.slice none 0 0, .int .u8 0, .slice none 0 0], []⟩).memory Tryd.f8.params.toList Rows.fnEchoReverseSpec.vars false (#[.slice none 0 0, .int .u8 0, .slice none 0 0] : Array Value).toList 8 = some ([.nil, .lit (.int .u8 0), .nil], [], places) :=
  ⟨[], by kernel_rfl⟩

theorem lifted (os : Os) (started : os.Started) (H : Type) (enc : TypeId × Value → H) (F : Stop.Interp) :
    ReturnsInHanded {} Tryd.checked os 8 .any ((OpenSpec.ofChange Rows.fnEchoReverseSpec).preRow enc Tryd.prog Tryd.f8 Rows.fnEchoReverseRow.domain false Rows.fnEchoReverseRow.laid) (((OpenSpec.ofChange Rows.fnEchoReverseSpec).at F).post enc Tryd.prog Tryd.f8 false true false false) := by
  obtain ⟨places, hx⟩ := reads os enc
  refine returnsInHanded_of_row (C := Tryd.checked) (s := OpenSpec.ofChange Rows.fnEchoReverseSpec) tryd_own started (by kernel_rfl) Tryd.func8
    (witness_row_at (enc := enc) (C := Tryd.checked) false (laidWorld os) #[.slice none 0 0, .int .u8 0, .slice none 0 0] rfl (by kernel_rfl) (by kernel_rfl) (by kernel_rfl)
      (OpenSpec.preRow_of_cond 8 hx (by kernel_rfl) (fun k hk => by cases hk) (by kernel_rfl) (laid_met os))) ?_
  intro W base args ds gs before hval hW _ _ _ hL _ _
  exact contract H enc W base args ds gs before hval hW

theorem said : Rows.FnEchoReverseSaid :=
  OpenClaim.holds_of_cond 8 Tryd.f8 rfl rfl rfl rfl rfl rfl rfl ⟨rfl, rfl, rfl, rfl, rfl⟩ rfl rfl rfl rfl rfl (by kernel_rfl) Tryd.func8 (by kernel_rfl)
    (of_decide_eq_true (by kernel_rfl)) (by unfold Func.isWrapper; first | (rw [if_pos (by decide +kernel)]; kernel_rfl) | (rw [if_neg (by decide +kernel)]; exact ⟨rfl, rfl⟩))
    (fun os started H enc _ F => by rw [OpenClaim.pre_eq_preRow]; exact lifted os started H enc F)

theorem plain (f : FuncId) (fn : Func) (hf : Tryd.pinned.checked.prog.funcNamed "pub-bridleway/laws.FnEchoReverse" = some f) (hfn : Tryd.pinned.checked.prog.funcs[f]? = some fn) :
    false = Tryd.pinned.checked.prog.looks [] ∧ ∀ (j : Nat) t, fn.params[j]? = some t → Tryd.pinned.checked.prog.wantsStandIn t = false := by
  obtain rfl : f = 8 := Option.some.inj ((show Tryd.prog.funcNamed "pub-bridleway/laws.FnEchoReverse" = some 8 by kernel_rfl).symm.trans hf) |>.symm
  obtain rfl : fn = Tryd.f8 := (Option.some.inj (Tryd.func8.symm.trans hfn)).symm
  refine ⟨by kernel_rfl, fun j t ht => ?_⟩
  have hm : t ∈ [28, 5, 24] := by have := Array.mem_of_getElem? ht; simpa [Tryd.params8] using this
  have hall : ∀ u ∈ [28, 5, 24], Tryd.prog.wantsStandIn u = false := by
    intro u hu
    simp only [List.mem_cons, List.not_mem_nil, or_false] at hu
    rcases hu with rfl | rfl | rfl
    · exact (show Tryd.prog.wantsStandIn 28 = false by kernel_rfl)
    · exact (show Tryd.prog.wantsStandIn 5 = false by kernel_rfl)
    · exact (show Tryd.prog.wantsStandIn 24 = false by kernel_rfl)
  exact hall t hm

theorem card : Rows.FnEchoReverseCardSaid :=
  Claim7.holds_tied_plain_at .later [] _ _ _ _ said (fun _ h => by cases h) (by kernel_rfl) (fun _ h => by cases h) fnEchoReverse_row_tie rfl ⟨rfl, rfl⟩ (by kernel_rfl) rfl plain (by kernel_rfl)
end Go.Proofs.YtekclaobeccbdaaDoor.reverse
