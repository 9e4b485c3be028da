/- What the functions of the laws answer; a single route is found by its path. -/
import Derived.Test.YtekclaobeccbdaaDoorBi
/- echoParts. Printed by wip/mk_h2.py. -/
namespace Go.Proofs
open Go Bw
set_option maxRecDepth 20000

theorem f55_any (w : World) (D : Nat → Prop) (b4 b2 b1 fr to : Nat) (p : List UInt8) (sv : Value) (xs : List (List UInt8)) (Hs : SH) (hown : Own 9 1 sv xs.length (xs.map S) Hs) (hH : HF w D (⟨b4, true, .row [I (fr : Nat)] 3 (0, 0)⟩ :: ⟨b2, true, .row [sv] 24 (0, 0)⟩ :: ⟨b1, true, .row [S p] 9 (0, 0)⟩ :: Hs) w) (hft : fr ≤ to) (htp : to ≤ p.length) (hxl : xs.length ≤ 1000000) (_hpl : p.length ≤ 1000000) :
    Calls Tryd.prog 55 #[I (to : Nat), Pt b4 0, Pt b2 0, Pt b1 0] w fun e w' => e = .returned (.tuple #[]) ∧ ∃ sv' Hs', Own 9 1 sv' (xs ++ txt ((p.take to).drop fr)).length ((xs ++ txt ((p.take to).drop fr)).map S) Hs' ∧ HF w D (⟨b4, true, .row [I (fr : Nat)] 3 (0, 0)⟩ :: ⟨b2, true, .row [sv'] 24 (0, 0)⟩ :: ⟨b1, true, .row [S p] 9 (0, 0)⟩ :: Hs') w' := by
  refine enter D (⟨b4, true, .row [I (fr : Nat)] 3 (0, 0)⟩ :: ⟨b2, true, .row [sv] 24 (0, 0)⟩ :: ⟨b1, true, .row [S p] 9 (0, 0)⟩ :: Hs) Tryd.func55 rfl Tryd.ntmps55 rfl rfl hH fun c hc => ?_
  subst hc
  refine GC.seq ?_
  refine GC.reg ?_  -- region 0, echo.go:25
  refine G.v (V.mv rfl) rfl ?_
  refine G.v (V.ld Tryd.isAgg3 rfl (.head _) rfl) rfl ?_
  refine G.v (V.gt rfl rfl) rfl ?_
  refine G.nil ?_
  refine GC.condD rfl (fun h7 => ?_) (fun h7 => ?_)
  · obtain ⟨ad, cp, rfl⟩ := hown.slice
    have htx : txt ((p.take to).drop fr) = [(p.take to).drop fr] := by
      unfold txt
      rw [if_neg]
      intro h
      have := congrArg List.length h
      simp only [List.length_drop, List.length_take, List.length_nil] at this
      omega
    have hSb : ∀ (H : SH) w1, HF w D H w1 → (⟨b4, true, .row [I (fr : Nat)] 3 (0, 0)⟩ : Ent) ∈ H → (⟨b1, true, .row [S p] 9 (0, 0)⟩ : Ent) ∈ H → w1.cell? ⟨b4, 0, none⟩ = some (I (fr : Nat)) ∧ w1.cell? ⟨b1, 0, none⟩ = some (S p) := fun H w1 hw h1 h2 => ⟨cell_row hw h1 rfl, cell_row hw h2 rfl⟩
    refine GC.regA (fun w1 => w1.cell? ⟨b4, 0, none⟩ = some (I (fr : Nat)) ∧ w1.cell? ⟨b1, 0, none⟩ = some (S p)) mixed ?_
    refine GA.ld 1 rfl (by kernel_rfl) (fun w1 hw1 => hSb _ w1 hw1 (by simp) (by simp)) Tryd.isAgg9 rfl (fun w1 h => h.2) rfl ?_
    refine GA.ld 2 rfl (by kernel_rfl) (fun w1 hw1 => hSb _ w1 hw1 (by simp) (by simp)) Tryd.isAgg3 rfl (fun w1 h => h.1) rfl ?_
    refine GA.p 3 rfl (by kernel_rfl) (fun w1 hw1 => hSb _ w1 hw1 (by simp) (by simp)) (fun _ => V.mv rfl) rfl ?_
    refine GA.p 4 rfl (by kernel_rfl) (fun w1 hw1 => hSb _ w1 hw1 (by simp) (by simp)) (fun _ => V.slLH Tryd.underlying9 rfl rfl rfl hft htp) rfl ?_
    refine GA.two 0 5 rfl rfl (by kernel_rfl) ?_ ?_
    · refine GB.v (V.ld Tryd.isAgg24 rfl (.tail _ (.head _)) rfl) (fun w1 hw1 => hSb _ w1 hw1 (by simp) (by simp)) rfl ?_
      refine GA.one 5 rfl (by kernel_rfl) ?_
      refine GB.bs (BS.one Tryd.underlying24 Tryd.sizeOf9 Tryd.zeroValue9 (v := S ((p.take to).drop fr)) rfl) rfl (fun w1 hw1 => hSb _ w1 hw1 (by simp) (by simp)) rfl (fun tb => ?_)
      refine GA.one 6 rfl (by kernel_rfl) ?_
      refine GB.app (i := Tryd.t9) (sz := 1) (by_ := 16) Tryd.underlying24 rfl rfl rfl rfl rfl rfl rfl hown (H' := [⟨tb, true, .row [S ((p.take to).drop fr)] 9 (0, 0)⟩, ⟨b4, true, .row [I (fr : Nat)] 3 (0, 0)⟩, ⟨b2, true, .row [.slice ad xs.length cp] 24 (0, 0)⟩, ⟨b1, true, .row [S p] 9 (0, 0)⟩]) ?_ (src_row (vs := [S ((p.take to).drop fr)]) (r := []) (.head _)) rfl (by simp [Value.oneCell']) (by omega) (by omega) (by omega) (fun w1 hw1 => hSb _ w1 hw1 (by simp) (by simp)) rfl (fun sv' Hs' hown' => ?_)
      · exact List.perm_append_comm (l₁ := [(⟨tb, true, .row [S ((p.take to).drop fr)] 9 (0, 0)⟩ : Ent), ⟨b4, true, .row [I (fr : Nat)] 3 (0, 0)⟩, ⟨b2, true, .row [.slice ad xs.length cp] 24 (0, 0)⟩, ⟨b1, true, .row [S p] 9 (0, 0)⟩])
      obtain ⟨ad2, cp2, rfl⟩ := hown'.slice
      refine GA.one 7 rfl (by kernel_rfl) ?_
      refine GB.st Tryd.sizeOf24 rfl rfl rfl (.s (.s .z)) rfl rfl (fun w1 hw1 => hSb _ w1 hw1 (by simp [putE]) (by simp [putE])) ?_
      refine GA.done (by kernel_rfl) ?_
      refine GC.end0 rfl fun w' hw' => ⟨rfl, _, Hs', ?_, hw'.sub (List.sublist_cons_self _ _)⟩
      rw [htx]
      simpa using hown'
    · refine GB.bs (BS.one Tryd.underlying24 Tryd.sizeOf9 Tryd.zeroValue9 (v := S ((p.take to).drop fr)) rfl) rfl (fun w1 hw1 => hSb _ w1 hw1 (by simp) (by simp)) rfl (fun tb => ?_)
      refine GA.one 0 rfl (by kernel_rfl) ?_
      refine GB.v (V.ld Tryd.isAgg24 rfl (.tail _ (.tail _ (.head _))) rfl) (fun w1 hw1 => hSb _ w1 hw1 (by simp) (by simp)) rfl ?_
      refine GA.one 6 rfl (by kernel_rfl) ?_
      refine GB.app (i := Tryd.t9) (sz := 1) (by_ := 16) Tryd.underlying24 rfl rfl rfl rfl rfl rfl rfl hown (H' := [⟨tb, true, .row [S ((p.take to).drop fr)] 9 (0, 0)⟩, ⟨b4, true, .row [I (fr : Nat)] 3 (0, 0)⟩, ⟨b2, true, .row [.slice ad xs.length cp] 24 (0, 0)⟩, ⟨b1, true, .row [S p] 9 (0, 0)⟩]) ?_ (src_row (vs := [S ((p.take to).drop fr)]) (r := []) (.head _)) rfl (by simp [Value.oneCell']) (by omega) (by omega) (by omega) (fun w1 hw1 => hSb _ w1 hw1 (by simp) (by simp)) rfl (fun sv' Hs' hown' => ?_)
      · exact List.perm_append_comm (l₁ := [(⟨tb, true, .row [S ((p.take to).drop fr)] 9 (0, 0)⟩ : Ent), ⟨b4, true, .row [I (fr : Nat)] 3 (0, 0)⟩, ⟨b2, true, .row [.slice ad xs.length cp] 24 (0, 0)⟩, ⟨b1, true, .row [S p] 9 (0, 0)⟩])
      obtain ⟨ad2, cp2, rfl⟩ := hown'.slice
      refine GA.one 7 rfl (by kernel_rfl) ?_
      refine GB.st Tryd.sizeOf24 rfl rfl rfl (.s (.s .z)) rfl rfl (fun w1 hw1 => hSb _ w1 hw1 (by simp [putE]) (by simp [putE])) ?_
      refine GA.done (by kernel_rfl) ?_
      refine GC.end0 rfl fun w' hw' => ⟨rfl, _, Hs', ?_, hw'.sub (List.sublist_cons_self _ _)⟩
      rw [htx]
      simpa using hown'
  refine GC.skip ?_
  refine GC.end0 rfl fun w' hw' => ⟨rfl, sv, Hs, ?_, hw'⟩
  have htx : txt ((p.take to).drop fr) = [] := by
    unfold txt
    rw [if_pos]
    apply List.eq_nil_of_length_eq_zero
    simp only [List.length_drop, List.length_take]
    omega
  rw [htx]
  simpa using hown

theorem G.tx {c : Cx} {n : Nat} {k : List Item} {fr : SF} {ops : Array Oper} {rest : List Oper} {ty : TypeId} {pos : String} {aft : Array Edge} {d : Nat} {tys : Array TypeId} {b4 b2 b1 f to : Nat} {p : List UInt8} {sv : Value} {xs : List (List UInt8)} {Hs Hn : SH} {x y : Operand}
    (hown : Own 9 1 sv xs.length (xs.map S) Hs) (hft : f ≤ to) (htp : to ≤ p.length) (hxl : xs.length ≤ 1000000) (hpl : p.length ≤ 1000000) (hx : ev fr x = some (.func (.func 55) #[] #[Pt b4 0, Pt b2 0, Pt b1 0])) (hy : ev fr y = some (I (to : Nat))) (hd : Nat.blt d n = true)
    (hk : ∀ sv' Hs', Own 9 1 sv' (xs ++ txt ((p.take to).drop f)).length ((xs ++ txt ((p.take to).drop f)).map S) Hs' → G Tryd.prog c n k ops rest ((d, .tuple #[]) :: fr) (⟨b4, true, .row [I (f : Nat)] 3 (0, 0)⟩ :: ⟨b2, true, .row [sv'] 24 (0, 0)⟩ :: ⟨b1, true, .row [S p] 9 (0, 0)⟩ :: (Hs' ++ Hn))) :
    G Tryd.prog c n k ops (⟨some d, .call ⟨.value x, #[y], tys⟩, ty, pos, aft, none⟩ :: rest) fr (⟨b4, true, .row [I (f : Nat)] 3 (0, 0)⟩ :: ⟨b2, true, .row [sv] 24 (0, 0)⟩ :: ⟨b1, true, .row [S p] 9 (0, 0)⟩ :: (Hs ++ Hn)) := by
  refine G.callVL (H1 := ⟨b4, true, .row [I (f : Nat)] 3 (0, 0)⟩ :: ⟨b2, true, .row [sv] 24 (0, 0)⟩ :: ⟨b1, true, .row [S p] 9 (0, 0)⟩ :: Hs) (Hk := Hn) (g := 55) (xs := [y]) (vs := [I (to : Nat)]) (cs := [Pt b4 0, Pt b2 0, Pt b1 0])
    (fun v H1' => v = .tuple #[] ∧ ∃ sv' Hs', Own 9 1 sv' (xs ++ txt ((p.take to).drop f)).length ((xs ++ txt ((p.take to).drop f)).map S) Hs' ∧ H1' = ⟨b4, true, .row [I (f : Nat)] 3 (0, 0)⟩ :: ⟨b2, true, .row [sv'] 24 (0, 0)⟩ :: ⟨b1, true, .row [S p] 9 (0, 0)⟩ :: Hs') (.refl _) ?_ Tryd.call55 hx (by simp [evs, hy]) hd ?_ ?_
  · intro e he
    simp only [List.mem_cons] at he
    rcases he with rfl | rfl | rfl | he
    · rfl
    · rfl
    · rfl
    · exact hown.w e he
  · intro w hw hloc
    refine (f55_any w _ b4 b2 b1 f to p sv xs Hs hown hloc hft htp hxl hpl).mono fun e w' ⟨h1, sv', Hs', h2, h3⟩ => ⟨_, _, h1, ?_, h3, rfl, sv', Hs', h2, rfl⟩
    intro e he
    simp only [List.mem_cons] at he
    rcases he with rfl | rfl | rfl | he
    · rfl
    · rfl
    · rfl
    · exact h2.w e he
  · rintro v H1' ⟨rfl, sv', Hs', h1, rfl⟩
    exact hk sv' Hs' h1

theorem f39_any (w : World) (p : List UInt8) (hpl : p.length ≤ 100000) : Calls Tryd.prog 39 #[S p] w fun e w' => ∃ v1 v2 H1 H2, e = .returned (.tuple #[v1, v2]) ∧ Own 9 1 v1 (parts p).length ((parts p).map S) H1 ∧ Own 9 1 v2 (prs p none).2.length ((prs p none).2.map S) H2 ∧ HF w (fun _ => False) (H1 ++ H2) w' := by
  refine enter (fun _ => False) [] Tryd.func39 rfl Tryd.ntmps39 rfl rfl (HF.start w _) fun c hc => ?_
  subst hc
  refine GC.seq ?_
  refine GC.reg ?_  -- region 0, echo.go:22
  refine G.bx (l := [S p]) rfl (by simp [cells_str]) rfl (fun b1 hb1 => ?_)
  refine G.al Tryd.zeroValue24 rfl rfl (fun b2 hb2 => ?_)
  refine G.v (V.asg rfl) rfl ?_
  refine G.nil ?_
  refine GC.seq ?_
  refine GC.reg ?_  -- region 1, echo.go:23
  refine G.al Tryd.zeroValue3 rfl rfl (fun b4 hb4 => ?_)
  refine G.st Tryd.sizeOf3 rfl rfl rfl .z rfl rfl ?_
  refine G.nil ?_
  refine GC.seq ?_
  refine GC.reg ?_  -- region 2, echo.go:24
  refine G.v (V.mkF (vs := [Pt b4 0, Pt b2 0, Pt b1 0]) rfl) rfl ?_
  refine G.v (V.asg rfl) rfl ?_
  refine G.nil ?_
  refine GC.seq ?_
  refine GC.seq ?_
  refine GC.reg ?_  -- region 3, echo.go:29
  refine G.v (V.asg rfl) rfl ?_
  refine G.nil ?_
  refine GC.block ?_
  refine GC.loopJ (fun N fr' H' => ∃ i f ps ns sv sn Hs Hn, i + N = p.length ∧ (ps ++ grp ((p.take i).drop f) (prs (p.drop i) none).1 = parts p ∧ ns ++ (prs (p.drop i) none).2 = (prs p none).2 ∧ f ≤ i ∧ ps.length ≤ 2 * i ∧ ns.length ≤ i) ∧ Own 9 1 sv ps.length (ps.map S) Hs ∧ Own 9 1 sn ns.length (ns.map S) Hn ∧ Sub [(1, Pt b1 0), (2, Pt b2 0), (3, sn), (4, Pt b4 0), (5, .func (.func 55) #[] #[Pt b4 0, Pt b2 0, Pt b1 0]), (6, I ((i : Nat) : Int))] fr' ∧ H' = ⟨b4, true, .row [I ((f : Nat) : Int)] 3 (0, 0)⟩ :: ⟨b2, true, .row [sv] 24 (0, 0)⟩ :: ⟨b1, true, .row [S p] 9 (0, 0)⟩ :: (Hs ++ Hn)) p.length
    ⟨0, 0, [], [], _, _, [], [], by omega, ⟨by simp [parts], by simp, Nat.le_refl _, by simp, by simp⟩, .nil, .nil, .cons rfl (.cons rfl (.cons rfl (.cons rfl (.cons rfl (.cons rfl .nil))))), rfl⟩ ?_
  rintro N fr' H' ⟨i, f, ps, ns, sv, sn, Hs, Hn, hj, ⟨hi1, hi2, hfi, hpsl, hnsl⟩, hown1, hown2, hs, rfl⟩ ih
  refine GC.weak hs ?_
  clear hs
  refine GC.seq ?_
  refine GC.seq ?_
  refine GC.reg ?_  -- region 4, echo.go:29
  refine G.v (V.mv rfl) rfl ?_
  refine G.v (V.ld Tryd.isAgg9 rfl (.tail _ (.tail _ (.head _))) rfl) rfl ?_
  refine G.v (V.lenS Tryd.underlying9 rfl) rfl ?_
  refine G.v (V.lt rfl rfl) rfl ?_
  refine G.nil ?_
  refine GC.condD rfl (fun h12 => ?_) (fun h12 => ?_)
  · refine GC.skip ?_
    refine GC.seq ?_
    refine GC.block ?_
    refine GC.seq ?_
    have hlt : i < p.length := by omega
    obtain ⟨x, hx⟩ : ∃ x, p[i]? = some x := ⟨_, List.getElem?_eq_getElem hlt⟩
    have hdx := drop_cons hx
    refine GC.reg ?_  -- region 6, echo.go:30
    refine G.v (V.ld Tryd.isAgg9 rfl (.tail _ (.tail _ (.head _))) rfl) rfl ?_
    refine G.v (V.mv rfl) rfl ?_
    refine G.v (V.idx Tryd.underlying9 rfl rfl hx) rfl ?_
    refine G.nil ?_
    refine GC.block ?_
    refine GC.seq ?_
    refine GC.reg ?_  -- region 7, echo.go:31
    refine G.v (V.eqI rfl rfl) rfl ?_
    refine G.v (V.asg rfl) rfl ?_
    refine G.nil ?_
    refine GC.condD rfl (fun h18 => ?_) (fun h18 => ?_)
    · refine GC.seq ?_
      refine GC.reg ?_  -- region 8, echo.go:32
      refine G.v (V.mv rfl) rfl ?_
      refine G.v (V.mv rfl) rfl ?_
      have hx58 : x = 58 := UInt8.toNat_inj.1 (show x.toNat = 58 by omega)
      subst hx58
      rw [hdx, prs_P'] at hi1 hi2
      have hgl : (txt ((p.take i).drop f)).length ≤ 1 := by unfold txt; split <;> simp
      refine G.tx hown1 hfi (by omega) (by omega) (by omega) rfl rfl rfl (fun sv1 Hs1 hown3 => ?_)
      refine G.nil ?_
      refine GC.seq ?_
      refine GC.reg ?_  -- region 9, echo.go:33
      refine G.v (V.mv rfl) rfl ?_
      refine G.v (V.addI rfl rfl rfl (by omega) (by omega)) rfl ?_
      refine G.v (V.asg rfl) rfl ?_
      refine G.nil ?_
      refine GC.seq ?_
      refine GC.join (fun fr' H' => ∃ e, i + 1 ≤ e ∧ e ≤ p.length ∧ (p.drop e = [] ∨ (p.drop e).head? = some 47) ∧ prs (p.drop (i + 1)) (some []) = prs (p.drop e) (some ((p.take e).drop (i + 1))) ∧ Sub [(1, Pt b1 0), (2, Pt b2 0), (3, sn), (4, Pt b4 0), (5, .func (.func 55) #[] #[Pt b4 0, Pt b2 0, Pt b1 0]), (6, I ((i : Nat) : Int)), (7, I ((e : Nat) : Int))] fr' ∧ H' = ⟨b4, true, .row [I ((f : Nat) : Int)] 3 (0, 0)⟩ :: ⟨b2, true, .row [sv1] 24 (0, 0)⟩ :: ⟨b1, true, .row [S p] 9 (0, 0)⟩ :: (Hs1 ++ Hn)) (fun J3 => ?_) ?_
      · refine GC.block ?_
        refine GC.loopJ (fun M fr' H' => ∃ e, e + M = p.length ∧ i + 1 ≤ e ∧ prs (p.drop (i + 1)) (some []) = prs (p.drop e) (some ((p.take e).drop (i + 1))) ∧ Sub [(1, Pt b1 0), (2, Pt b2 0), (3, sn), (4, Pt b4 0), (5, .func (.func 55) #[] #[Pt b4 0, Pt b2 0, Pt b1 0]), (6, I ((i : Nat) : Int)), (7, I ((e : Nat) : Int))] fr' ∧ H' = ⟨b4, true, .row [I ((f : Nat) : Int)] 3 (0, 0)⟩ :: ⟨b2, true, .row [sv1] 24 (0, 0)⟩ :: ⟨b1, true, .row [S p] 9 (0, 0)⟩ :: (Hs1 ++ Hn)) (p.length - (i + 1))
          ⟨i + 1, by omega, Nat.le_refl _, ?_, .cons rfl (.cons rfl (.cons rfl (.cons rfl (.cons rfl (.cons rfl (.cons rfl .nil)))))), rfl⟩ ?_
        · rw [show (p.take (i + 1)).drop (i + 1) = [] from List.drop_of_length_le (by rw [List.length_take]; omega)]
        rintro M fr' H' ⟨e, he, hie, hprs, hs, rfl⟩ ih2
        refine GC.weak hs ?_
        clear hs
        refine GC.seq ?_
        refine GC.seq ?_
        refine GC.reg ?_  -- region 10, echo.go:34
        refine G.v (V.mv rfl) rfl ?_
        refine G.v (V.ld Tryd.isAgg9 rfl (.tail _ (.tail _ (.head _))) rfl) rfl ?_
        refine G.v (V.lenS Tryd.underlying9 rfl) rfl ?_
        refine G.v (V.lt rfl rfl) rfl ?_
        refine G.v (V.mv rfl) rfl ?_
        refine G.bc 29 rfl (fun h29 => ?_) (fun h29 => ?_)
        · have hlte : e < p.length := by simp at h29; omega
          obtain ⟨y, hy⟩ : ∃ y, p[e]? = some y := ⟨_, List.getElem?_eq_getElem hlte⟩
          have hdy := drop_cons hy
          refine G.vg rfl rfl (V.ld Tryd.isAgg9 rfl (.tail _ (.tail _ (.head _))) rfl) rfl ?_
          refine G.vg rfl rfl (V.mv rfl) rfl ?_
          refine G.vg rfl rfl (V.idx Tryd.underlying9 rfl rfl hy) rfl ?_
          refine G.vg rfl rfl (V.neI rfl rfl) rfl ?_
          refine G.v (V.pickT rfl rfl) rfl ?_
          refine G.nil ?_
          refine GC.cond rfl (fun h34 => ?_) (fun h34 => ?_)
          · refine GC.skip ?_
            refine GC.block ?_
            refine GC.reg ?_  -- region 11, echo.go:35
            refine G.v (V.mv rfl) rfl ?_
            refine G.v (V.addI rfl rfl rfl (by omega) (by omega)) rfl ?_
            refine G.v (V.asg rfl) rfl ?_
            refine G.nil ?_
            refine GC.inBlock ?_
            have hy47 : y ≠ 47 := fun h => by subst h; simp at h34
            refine ih2 (M - 1) _ _ (by omega) ⟨e + 1, by omega, by omega, ?_, .cons rfl (.cons rfl (.cons rfl (.cons rfl (.cons rfl (.cons rfl (.cons rfl .nil)))))), rfl⟩
            rw [hprs, hdy, prs_some_step hy47, take_drop_succ hy hie]
          refine GC.exit rfl ?_
          have hy47 : y = 47 := UInt8.toNat_inj.1 (show y.toNat = 47 by simp at h34; omega)
          exact J3 _ _ ⟨e, hie, by omega, .inr (by rw [hdy, hy47]; rfl), hprs, .cons rfl (.cons rfl (.cons rfl (.cons rfl (.cons rfl (.cons rfl (.cons rfl .nil)))))), rfl⟩
        · refine G.sg rfl rfl rfl rfl rfl rfl ?_
          refine G.sg rfl rfl rfl rfl rfl rfl ?_
          refine G.sg rfl rfl rfl rfl rfl rfl ?_
          refine G.sg rfl rfl rfl rfl rfl rfl ?_
          refine G.v (V.pickF rfl rfl) rfl ?_
          refine G.nil ?_
          refine GC.condF rfl ?_
          refine GC.exit rfl ?_
          have hle : p.length ≤ e := by simp at h29; omega
          exact J3 _ _ ⟨e, hie, by omega, .inl (List.drop_eq_nil_of_le hle), hprs, .cons rfl (.cons rfl (.cons rfl (.cons rfl (.cons rfl (.cons rfl (.cons rfl .nil)))))), rfl⟩
      rintro fr' H' ⟨e, hie, hep, hend, hprs, hs3, rfl⟩
      refine GC.weak hs3 ?_
      clear hs3
      have hpe := hprs.trans (prs_some_end hend)
      rw [hpe] at hi1 hi2
      obtain ⟨ad1, cp1, rfl⟩ := hown3.slice
      obtain ⟨adn, cpn, rfl⟩ := hown2.slice
      refine GC.seq ?_
      refine GC.join (fun fr' H' => ∃ sv2 sn2 Hs2 Hn2, Own 9 1 sv2 (ps ++ txt ((p.take i).drop f) ++ [[58]]).length ((ps ++ txt ((p.take i).drop f) ++ [[58]]).map S) Hs2 ∧ Own 9 1 sn2 (ns ++ [((p.take e).drop (i + 1))]).length ((ns ++ [((p.take e).drop (i + 1))]).map S) Hn2 ∧ Sub [(1, Pt b1 0), (2, Pt b2 0), (3, sn2), (4, Pt b4 0), (5, .func (.func 55) #[] #[Pt b4 0, Pt b2 0, Pt b1 0]), (6, I ((i : Nat) : Int)), (7, I ((e : Nat) : Int))] fr' ∧ H' = ⟨b4, true, .row [I ((f : Nat) : Int)] 3 (0, 0)⟩ :: ⟨b2, true, .row [sv2] 24 (0, 0)⟩ :: ⟨b1, true, .row [S p] 9 (0, 0)⟩ :: (Hs2 ++ Hn2)) (fun J12 => ?_) ?_
      · have hSb : ∀ (H : SH) w1, HF w (fun _ => False) H w1 → (⟨b1, true, .row [S p] 9 (0, 0)⟩ : Ent) ∈ H → w1.cell? ⟨b1, 0, none⟩ = some (S p) := fun H w1 hw h1 => cell_row hw h1 rfl
        have hSt : ∀ (H : SH) (X : SH), (∀ w1, HF w (fun _ => False) H w1 → HF w (fun _ => False) X w1) → (⟨b1, true, .row [S p] 9 (0, 0)⟩ : Ent) ∈ X → ∀ w1, HF w (fun _ => False) H w1 → w1.cell? ⟨b1, 0, none⟩ = some (S p) := fun H X h hm w1 hw => hSb _ w1 (h w1 hw) hm
        have hbd1 : (ps ++ txt ((p.take i).drop f)).length ≤ 200002 := by rw [List.length_append]; omega
        refine GC.regA (fun w1 => w1.cell? ⟨b1, 0, none⟩ = some (S p)) mixed ?_
        refine GA.p 3 rfl (by kernel_rfl) (fun w1 hw1 => hSb _ w1 hw1 (by simp)) (fun _ => V.mv rfl) rfl ?_
        refine GA.ld 4 rfl (by kernel_rfl) (fun w1 hw1 => hSb _ w1 hw1 (by simp)) Tryd.isAgg9 rfl (fun w1 h => h) rfl ?_
        refine GA.p 5 rfl (by kernel_rfl) (fun w1 hw1 => hSb _ w1 hw1 (by simp)) (fun _ => V.mv rfl) rfl ?_
        refine GA.p 6 rfl (by kernel_rfl) (fun w1 hw1 => hSb _ w1 hw1 (by simp)) (fun _ => V.addI (r := ((i + 1 : Nat) : Int)) rfl rfl rfl (by omega) (by omega)) rfl ?_
        refine GA.p 7 rfl (by kernel_rfl) (fun w1 hw1 => hSb _ w1 hw1 (by simp)) (fun _ => V.mv rfl) rfl ?_
        refine GA.p 8 rfl (by kernel_rfl) (fun w1 hw1 => hSb _ w1 hw1 (by simp)) (fun _ => V.slLH Tryd.underlying9 rfl rfl rfl hie hep) rfl ?_
        refine GA.via (fun fr' H' => ∃ tb2 sv2 Hs2, Own 9 1 sv2 (ps ++ txt ((p.take i).drop f) ++ [[58]]).length ((ps ++ txt ((p.take i).drop f) ++ [[58]]).map S) Hs2 ∧ Sub [(1, Pt b1 0), (2, Pt b2 0), (3, (.slice adn ns.length cpn)), (4, Pt b4 0), (5, .func (.func 55) #[] #[Pt b4 0, Pt b2 0, Pt b1 0]), (6, I ((i : Nat) : Int)), (7, I ((e : Nat) : Int)), (40, (.slice adn ns.length cpn)), (45, S ((p.take e).drop (i + 1))), (39, sv2), (46, .slice (some ⟨tb2, 0, none⟩) 1 1)] fr' ∧ (∀ w1, HF w (fun _ => False) H' w1 → HF w (fun _ => False) (⟨tb2, true, .row [S ((p.take e).drop (i + 1))] 9 (0, 0)⟩ :: ⟨b4, true, .row [I ((f : Nat) : Int)] 3 (0, 0)⟩ :: ⟨b2, true, .row [(.slice ad1 (ps ++ txt ((p.take i).drop f)).length cp1)] 24 (0, 0)⟩ :: ⟨b1, true, .row [S p] 9 (0, 0)⟩ :: (Hn ++ Hs2)) w1)) #[true, true, true, true, true, true, true, true, true, true, false, false, false] 3 ?_ (fun fin3 => ?_)
        · rintro fr' H' ⟨tb2, sv2, Hs2, hown5, hs9, hH⟩
          refine GA.weak hs9 ?_
          clear hs9
          refine GA.turn hH ?_
          obtain ⟨ad2, cp2, rfl⟩ := hown5.slice
          refine GA.one 10 rfl (by kernel_rfl) ?_
          refine GB.app (i := Tryd.t9) (sz := 1) (by_ := 16) Tryd.underlying24 rfl rfl rfl rfl rfl rfl rfl hown2 (H' := [⟨tb2, true, .row [S ((p.take e).drop (i + 1))] 9 (0, 0)⟩, ⟨b4, true, .row [I ((f : Nat) : Int)] 3 (0, 0)⟩, ⟨b2, true, .row [(.slice ad1 (ps ++ txt ((p.take i).drop f)).length cp1)] 24 (0, 0)⟩, ⟨b1, true, .row [S p] 9 (0, 0)⟩] ++ Hs2) ?_ (src_row (vs := [S ((p.take e).drop (i + 1))]) (r := []) (.head _)) rfl (by simp [Value.oneCell']) (by omega) (by omega) (by omega) (fun w1 hw1 => hSb _ w1 hw1 (by simp)) rfl (fun sn2 Hn2 hown6 => ?_)
          · have p0 := perm_idx [[⟨tb2, true, .row [S ((p.take e).drop (i + 1))] 9 (0, 0)⟩, ⟨b4, true, .row [I ((f : Nat) : Int)] 3 (0, 0)⟩, ⟨b2, true, .row [(.slice ad1 (ps ++ txt ((p.take i).drop f)).length cp1)] 24 (0, 0)⟩, ⟨b1, true, .row [S p] 9 (0, 0)⟩], Hn, Hs2] [0, 1, 2] [1, 0, 2] (by decide)
            exact List.Perm.trans (.of_eq (by simp)) (p0.trans (.of_eq (by simp)))
          obtain ⟨ad3, cp3, rfl⟩ := hown6.slice
          refine GA.one 11 rfl (by kernel_rfl) ?_
          refine GB.st Tryd.sizeOf24 rfl rfl rfl (.s (.s .z)) rfl rfl (fun w1 hw1 => hSb _ w1 hw1 (by simp [putE])) ?_
          refine GA.one 12 rfl (by kernel_rfl) ?_
          refine GB.v (V.asg rfl) (fun w1 hw1 => hSb _ w1 hw1 (by simp [putE])) rfl ?_
          refine GA.done (by kernel_rfl) ?_
          have hown6' : Own 9 1 (.slice ad3 (ns.length + 1) cp3) (ns ++ [((p.take e).drop (i + 1))]).length ((ns ++ [((p.take e).drop (i + 1))]).map S) Hn2 := by
            rw [List.length_append, List.map_append]; exact hown6
          refine GC.turn (H' := ⟨b4, true, .row [I ((f : Nat) : Int)] 3 (0, 0)⟩ :: ⟨b2, true, .row [.slice ad2 (ps ++ txt ((p.take i).drop f) ++ [[58]]).length cp2] 24 (0, 0)⟩ :: ⟨b1, true, .row [S p] 9 (0, 0)⟩ :: (Hs2 ++ Hn2)) (fun w1 hw1 => ?_) (J12 _ _ ⟨_, _, Hs2, Hn2, hown5, hown6', .cons rfl (.cons rfl (.cons rfl (.cons rfl (.cons rfl (.cons rfl (.cons rfl .nil)))))), rfl⟩)
          have := hw1.sub (List.sublist_cons_self _ _)
          simpa [putE, setL] using this
        refine GA.via (fun fr' H' => ∃ tb tb2, Sub [(1, Pt b1 0), (2, Pt b2 0), (3, (.slice adn ns.length cpn)), (4, Pt b4 0), (5, .func (.func 55) #[] #[Pt b4 0, Pt b2 0, Pt b1 0]), (6, I ((i : Nat) : Int)), (7, I ((e : Nat) : Int)), (40, (.slice adn ns.length cpn)), (45, S ((p.take e).drop (i + 1))), (37, (.slice ad1 (ps ++ txt ((p.take i).drop f)).length cp1)), (38, .slice (some ⟨tb, 0, none⟩) 1 1), (46, .slice (some ⟨tb2, 0, none⟩) 1 1)] fr' ∧ (∀ w1, HF w (fun _ => False) H' w1 → HF w (fun _ => False) (⟨tb, true, .row [S [58]] 9 (0, 0)⟩ :: ⟨tb2, true, .row [S ((p.take e).drop (i + 1))] 9 (0, 0)⟩ :: ⟨b4, true, .row [I ((f : Nat) : Int)] 3 (0, 0)⟩ :: ⟨b2, true, .row [(.slice ad1 (ps ++ txt ((p.take i).drop f)).length cp1)] 24 (0, 0)⟩ :: ⟨b1, true, .row [S p] 9 (0, 0)⟩ :: (Hs1 ++ Hn)) w1)) #[true, true, false, true, true, true, true, true, true, true, false, false, false] 4 ?_ (fun fin2 => ?_)
        · rintro fr' H' ⟨tb, tb2, hs9, hH⟩
          refine GA.weak hs9 ?_
          clear hs9
          refine GA.turn hH ?_
          refine GA.one 2 rfl (by kernel_rfl) ?_
          refine GB.app (i := Tryd.t9) (sz := 1) (by_ := 16) Tryd.underlying24 rfl rfl rfl rfl rfl rfl rfl hown3 (H' := [⟨tb, true, .row [S [58]] 9 (0, 0)⟩, ⟨tb2, true, .row [S ((p.take e).drop (i + 1))] 9 (0, 0)⟩, ⟨b4, true, .row [I ((f : Nat) : Int)] 3 (0, 0)⟩, ⟨b2, true, .row [(.slice ad1 (ps ++ txt ((p.take i).drop f)).length cp1)] 24 (0, 0)⟩, ⟨b1, true, .row [S p] 9 (0, 0)⟩] ++ Hn) ?_ (src_row (vs := [S [58]]) (r := []) (.head _)) rfl (by simp [Value.oneCell']) (by omega) (by omega) (by omega) (fun w1 hw1 => hSb _ w1 hw1 (by simp)) rfl (fun sv2 Hs2 hown5 => ?_)
          · have p0 := perm_idx [[⟨tb, true, .row [S [58]] 9 (0, 0)⟩, ⟨tb2, true, .row [S ((p.take e).drop (i + 1))] 9 (0, 0)⟩, ⟨b4, true, .row [I ((f : Nat) : Int)] 3 (0, 0)⟩, ⟨b2, true, .row [(.slice ad1 (ps ++ txt ((p.take i).drop f)).length cp1)] 24 (0, 0)⟩, ⟨b1, true, .row [S p] 9 (0, 0)⟩], Hs1, Hn] [0, 1, 2] [1, 0, 2] (by decide)
            exact List.Perm.trans (.of_eq (by simp)) (p0.trans (.of_eq (by simp)))
          have hown5' : Own 9 1 sv2 (ps ++ txt ((p.take i).drop f) ++ [[58]]).length ((ps ++ txt ((p.take i).drop f) ++ [[58]]).map S) Hs2 := by
            rw [List.length_append, List.map_append]; exact hown5
          exact fin3 _ _ _ (by kernel_rfl) ⟨tb2, sv2, Hs2, hown5', .cons rfl (.cons rfl (.cons rfl (.cons rfl (.cons rfl (.cons rfl (.cons rfl (.cons rfl (.cons rfl (.cons rfl (.cons rfl .nil)))))))))), fun w1 h => by have := h.sub (List.sublist_cons_self _ _); simpa using this⟩
        refine GA.via (fun fr' H' => ∃ tb, Sub [(1, Pt b1 0), (2, Pt b2 0), (3, (.slice adn ns.length cpn)), (4, Pt b4 0), (5, .func (.func 55) #[] #[Pt b4 0, Pt b2 0, Pt b1 0]), (6, I ((i : Nat) : Int)), (7, I ((e : Nat) : Int)), (40, (.slice adn ns.length cpn)), (45, S ((p.take e).drop (i + 1))), (37, (.slice ad1 (ps ++ txt ((p.take i).drop f)).length cp1)), (38, .slice (some ⟨tb, 0, none⟩) 1 1)] fr' ∧ (∀ w1, HF w (fun _ => False) H' w1 → HF w (fun _ => False) (⟨tb, true, .row [S [58]] 9 (0, 0)⟩ :: ⟨b4, true, .row [I ((f : Nat) : Int)] 3 (0, 0)⟩ :: ⟨b2, true, .row [(.slice ad1 (ps ++ txt ((p.take i).drop f)).length cp1)] 24 (0, 0)⟩ :: ⟨b1, true, .row [S p] 9 (0, 0)⟩ :: (Hs1 ++ Hn)) w1)) #[true, true, false, true, true, true, true, true, true, false, false, false, false] 5 ?_ (fun fin2p => ?_)
        · rintro fr' H' ⟨tb, hs9, hH⟩
          refine GA.weak hs9 ?_
          clear hs9
          refine GA.turn hH ?_
          refine GA.two 2 9 rfl rfl (by kernel_rfl) ?_ ?_
          · refine GB.app (i := Tryd.t9) (sz := 1) (by_ := 16) Tryd.underlying24 rfl rfl rfl rfl rfl rfl rfl hown3 (H' := [⟨tb, true, .row [S [58]] 9 (0, 0)⟩, ⟨b4, true, .row [I ((f : Nat) : Int)] 3 (0, 0)⟩, ⟨b2, true, .row [(.slice ad1 (ps ++ txt ((p.take i).drop f)).length cp1)] 24 (0, 0)⟩, ⟨b1, true, .row [S p] 9 (0, 0)⟩] ++ Hn) ?_ (src_row (vs := [S [58]]) (r := []) (.head _)) rfl (by simp [Value.oneCell']) (by omega) (by omega) (by omega) (fun w1 hw1 => hSb _ w1 hw1 (by simp)) rfl (fun sv2 Hs2 hown5 => ?_)
            · have p0 := perm_idx [[⟨tb, true, .row [S [58]] 9 (0, 0)⟩, ⟨b4, true, .row [I ((f : Nat) : Int)] 3 (0, 0)⟩, ⟨b2, true, .row [(.slice ad1 (ps ++ txt ((p.take i).drop f)).length cp1)] 24 (0, 0)⟩, ⟨b1, true, .row [S p] 9 (0, 0)⟩], Hs1, Hn] [0, 1, 2] [1, 0, 2] (by decide)
              exact List.Perm.trans (.of_eq (by simp)) (p0.trans (.of_eq (by simp)))
            have hown5' : Own 9 1 sv2 (ps ++ txt ((p.take i).drop f) ++ [[58]]).length ((ps ++ txt ((p.take i).drop f) ++ [[58]]).map S) Hs2 := by
              rw [List.length_append, List.map_append]; exact hown5
            refine GA.one 9 rfl (by kernel_rfl) ?_
            refine GB.bs (BS.one Tryd.underlying24 Tryd.sizeOf9 Tryd.zeroValue9 (v := S ((p.take e).drop (i + 1))) rfl) rfl (fun w1 hw1 => hSb _ w1 hw1 (by simp)) rfl (fun tb2 => ?_)
            exact fin3 _ _ _ (by kernel_rfl) ⟨tb2, sv2, Hs2, hown5', .cons rfl (.cons rfl (.cons rfl (.cons rfl (.cons rfl (.cons rfl (.cons rfl (.cons rfl (.cons rfl (.cons rfl (.cons rfl .nil)))))))))), fun w1 h => by have := h.sub (((List.sublist_cons_self _ _)).cons_cons _); simpa using this⟩
          · refine GB.bs (BS.one Tryd.underlying24 Tryd.sizeOf9 Tryd.zeroValue9 (v := S ((p.take e).drop (i + 1))) rfl) rfl (fun w1 hw1 => hSb _ w1 hw1 (by simp)) rfl (fun tb2 => ?_)
            exact fin2 _ _ _ (by kernel_rfl) ⟨tb, tb2, .cons rfl (.cons rfl (.cons rfl (.cons rfl (.cons rfl (.cons rfl (.cons rfl (.cons rfl (.cons rfl (.cons rfl (.cons rfl (.cons rfl .nil))))))))))), fun w1 h => h.perm (.swap _ _ _)⟩
        refine GA.three 0 1 9 rfl rfl rfl (by kernel_rfl) ?_ ?_ ?_
        · refine GB.v (V.ld Tryd.isAgg24 rfl (.tail _ (.head _)) rfl) (fun w1 hw1 => hSb _ w1 hw1 (by simp)) rfl ?_
          refine GA.two 1 9 rfl rfl (by kernel_rfl) ?_ ?_
          · refine GB.bs (BS.one Tryd.underlying24 Tryd.sizeOf9 Tryd.zeroValue9 (v := S [58]) rfl) rfl (fun w1 hw1 => hSb _ w1 hw1 (by simp)) rfl (fun tb => ?_)
            exact fin2p _ _ _ (by kernel_rfl) ⟨tb, .cons rfl (.cons rfl (.cons rfl (.cons rfl (.cons rfl (.cons rfl (.cons rfl (.cons rfl (.cons rfl (.cons rfl (.cons rfl .nil)))))))))), fun w1 h => h⟩
          · refine GB.bs (BS.one Tryd.underlying24 Tryd.sizeOf9 Tryd.zeroValue9 (v := S ((p.take e).drop (i + 1))) rfl) rfl (fun w1 hw1 => hSb _ w1 hw1 (by simp)) rfl (fun tb2 => ?_)
            refine GA.one 1 rfl (by kernel_rfl) ?_
            refine GB.bs (BS.one Tryd.underlying24 Tryd.sizeOf9 Tryd.zeroValue9 (v := S [58]) rfl) rfl (fun w1 hw1 => hSb _ w1 hw1 (by simp)) rfl (fun tb => ?_)
            exact fin2 _ _ _ (by kernel_rfl) ⟨tb, tb2, .cons rfl (.cons rfl (.cons rfl (.cons rfl (.cons rfl (.cons rfl (.cons rfl (.cons rfl (.cons rfl (.cons rfl (.cons rfl (.cons rfl .nil))))))))))), fun w1 h => h⟩
        · refine GB.bs (BS.one Tryd.underlying24 Tryd.sizeOf9 Tryd.zeroValue9 (v := S [58]) rfl) rfl (fun w1 hw1 => hSb _ w1 hw1 (by simp)) rfl (fun tb => ?_)
          refine GA.two 0 9 rfl rfl (by kernel_rfl) ?_ ?_
          · refine GB.v (V.ld Tryd.isAgg24 rfl (.tail _ (.tail _ (.head _))) rfl) (fun w1 hw1 => hSb _ w1 hw1 (by simp)) rfl ?_
            exact fin2p _ _ _ (by kernel_rfl) ⟨tb, .cons rfl (.cons rfl (.cons rfl (.cons rfl (.cons rfl (.cons rfl (.cons rfl (.cons rfl (.cons rfl (.cons rfl (.cons rfl .nil)))))))))), fun w1 h => h⟩
          · refine GB.bs (BS.one Tryd.underlying24 Tryd.sizeOf9 Tryd.zeroValue9 (v := S ((p.take e).drop (i + 1))) rfl) rfl (fun w1 hw1 => hSb _ w1 hw1 (by simp)) rfl (fun tb2 => ?_)
            refine GA.one 0 rfl (by kernel_rfl) ?_
            refine GB.v (V.ld Tryd.isAgg24 rfl (.tail _ (.tail _ (.tail _ (.head _)))) rfl) (fun w1 hw1 => hSb _ w1 hw1 (by simp)) rfl ?_
            exact fin2 _ _ _ (by kernel_rfl) ⟨tb, tb2, .cons rfl (.cons rfl (.cons rfl (.cons rfl (.cons rfl (.cons rfl (.cons rfl (.cons rfl (.cons rfl (.cons rfl (.cons rfl (.cons rfl .nil))))))))))), fun w1 h => h.perm (.swap _ _ _)⟩
        · refine GB.bs (BS.one Tryd.underlying24 Tryd.sizeOf9 Tryd.zeroValue9 (v := S ((p.take e).drop (i + 1))) rfl) rfl (fun w1 hw1 => hSb _ w1 hw1 (by simp)) rfl (fun tb2 => ?_)
          refine GA.two 0 1 rfl rfl (by kernel_rfl) ?_ ?_
          · refine GB.v (V.ld Tryd.isAgg24 rfl (.tail _ (.tail _ (.head _))) rfl) (fun w1 hw1 => hSb _ w1 hw1 (by simp)) rfl ?_
            refine GA.one 1 rfl (by kernel_rfl) ?_
            refine GB.bs (BS.one Tryd.underlying24 Tryd.sizeOf9 Tryd.zeroValue9 (v := S [58]) rfl) rfl (fun w1 hw1 => hSb _ w1 hw1 (by simp)) rfl (fun tb => ?_)
            exact fin2 _ _ _ (by kernel_rfl) ⟨tb, tb2, .cons rfl (.cons rfl (.cons rfl (.cons rfl (.cons rfl (.cons rfl (.cons rfl (.cons rfl (.cons rfl (.cons rfl (.cons rfl (.cons rfl .nil))))))))))), fun w1 h => h⟩
          · refine GB.bs (BS.one Tryd.underlying24 Tryd.sizeOf9 Tryd.zeroValue9 (v := S [58]) rfl) rfl (fun w1 hw1 => hSb _ w1 hw1 (by simp)) rfl (fun tb => ?_)
            refine GA.one 0 rfl (by kernel_rfl) ?_
            refine GB.v (V.ld Tryd.isAgg24 rfl (.tail _ (.tail _ (.tail _ (.head _)))) rfl) (fun w1 hw1 => hSb _ w1 hw1 (by simp)) rfl ?_
            exact fin2 _ _ _ (by kernel_rfl) ⟨tb, tb2, .cons rfl (.cons rfl (.cons rfl (.cons rfl (.cons rfl (.cons rfl (.cons rfl (.cons rfl (.cons rfl (.cons rfl (.cons rfl (.cons rfl .nil))))))))))), fun w1 h => h⟩
      rintro fr' H' ⟨sv2, sn2, Hs2, Hn2, hown5, hown6, hs12, rfl⟩
      refine GC.weak hs12 ?_
      clear hs12
      refine GC.seq ?_
      refine GC.reg ?_  -- region 13, echo.go:38
      refine G.v (V.mv rfl) rfl ?_
      refine G.st Tryd.sizeOf3 rfl rfl rfl .z rfl rfl ?_
      refine G.nil ?_
      refine GC.reg ?_  -- region 14, echo.go:39
      refine G.v (V.mv rfl) rfl ?_
      refine G.v (V.subI (r := ((e - 1 : Nat) : Int)) rfl rfl (by omega) (by omega) (by omega)) rfl ?_
      refine G.v (V.asg rfl) rfl ?_
      refine G.nil ?_
      refine GC.inBlock ?_
      refine GC.inBlock ?_
      refine GC.reg ?_  -- region 5, echo.go:29
      refine G.v (V.mv rfl) rfl ?_
      refine G.v (V.addI rfl rfl rfl (by omega) (by omega)) rfl ?_
      refine G.v (V.asg rfl) rfl ?_
      refine G.nil ?_
      have he1 : e - 1 + 1 = e := by omega
      have hz : ∀ q : List UInt8, (q.take e).drop e = [] := fun q => List.drop_of_length_le (by rw [List.length_take]; omega)
      refine ih (p.length - e) _ _ (by omega) ⟨e - 1 + 1, e, (ps ++ txt ((p.take i).drop f) ++ [[58]]), (ns ++ [((p.take e).drop (i + 1))]), _, _, Hs2, Hn2, by omega, ⟨?_, ?_, by omega, ?_, ?_⟩, hown5, hown6, .cons rfl (.cons rfl (.cons rfl (.cons rfl (.cons rfl (.cons rfl .nil))))), rfl⟩
      · rw [he1, hz, ← hi1]; simp [grp]
      · rw [he1, ← hi2]; simp
      · simp only [List.length_append, List.length_singleton] at *; omega
      · simp only [List.length_append, List.length_singleton] at *; omega
    refine GC.seq ?_
    refine GC.reg ?_  -- region 15, echo.go:40
    refine G.v (V.eqI rfl rfl) rfl ?_
    refine G.v (V.asg rfl) rfl ?_
    refine G.nil ?_
    refine GC.condD rfl (fun h51 => ?_) (fun h51 => ?_)
    · refine GC.seq ?_
      refine GC.reg ?_  -- region 16, echo.go:41
      refine G.v (V.mv rfl) rfl ?_
      refine G.v (V.mv rfl) rfl ?_
      have hx42 : x = 42 := UInt8.toNat_inj.1 (show x.toNat = 42 by omega)
      subst hx42
      rw [hdx, prs_A'] at hi1 hi2
      have hgl : (txt ((p.take i).drop f)).length ≤ 1 := by unfold txt; split <;> simp
      refine G.tx hown1 hfi (by omega) (by omega) (by omega) rfl rfl rfl (fun sv1 Hs1 hown3 => ?_)
      refine G.nil ?_
      refine GC.seq ?_
      refine GC.reg ?_  -- region 17, echo.go:42
      have hbd1 : (ps ++ txt ((p.take i).drop f)).length ≤ 200002 := by rw [List.length_append]; omega
      obtain ⟨ad1, cp1, rfl⟩ := hown3.slice
      obtain ⟨adn, cpn, rfl⟩ := hown2.slice
      refine G.v (V.ld Tryd.isAgg24 rfl (.tail _ (.head _)) rfl) rfl ?_
      refine G.bs (BS.one Tryd.underlying24 Tryd.sizeOf9 Tryd.zeroValue9 (v := S [42]) rfl) rfl rfl (fun tb htb => ?_)
      refine G.app (i := Tryd.t9) (sz := 1) (by_ := 16) Tryd.underlying24 rfl rfl rfl rfl rfl rfl rfl hown3 (H' := [⟨tb, true, .row [S [42]] 9 (0, 0)⟩, ⟨b4, true, .row [I ((f : Nat) : Int)] 3 (0, 0)⟩, ⟨b2, true, .row [(.slice ad1 (ps ++ txt ((p.take i).drop f)).length cp1)] 24 (0, 0)⟩, ⟨b1, true, .row [S p] 9 (0, 0)⟩] ++ Hn) ?_ (src_row (vs := [S [42]]) (r := []) (.head _)) rfl (by simp [Value.oneCell']) (by omega) (by omega) (by omega) rfl (fun sv2 Hs2 hown5 => ?_)
      · have p0 := perm_idx [[⟨tb, true, .row [S [42]] 9 (0, 0)⟩, ⟨b4, true, .row [I ((f : Nat) : Int)] 3 (0, 0)⟩, ⟨b2, true, .row [(.slice ad1 (ps ++ txt ((p.take i).drop f)).length cp1)] 24 (0, 0)⟩, ⟨b1, true, .row [S p] 9 (0, 0)⟩], Hs1, Hn] [0, 1, 2] [1, 0, 2] (by decide)
        exact List.Perm.trans (.of_eq (by simp)) (p0.trans (.of_eq (by simp)))
      have hown5' : Own 9 1 sv2 (ps ++ txt ((p.take i).drop f) ++ [[42]]).length ((ps ++ txt ((p.take i).drop f) ++ [[42]]).map S) Hs2 := by
        rw [List.length_append, List.map_append]; exact hown5
      obtain ⟨ad2, cp2, rfl⟩ := hown5'.slice
      refine G.v (V.mv rfl) rfl ?_
      refine G.bs (BS.one Tryd.underlying24 Tryd.sizeOf9 Tryd.zeroValue9 (v := S [42]) rfl) rfl rfl (fun tb2 htb2 => ?_)
      refine G.app (i := Tryd.t9) (sz := 1) (by_ := 16) Tryd.underlying24 rfl rfl rfl rfl rfl rfl rfl hown2 (H' := [⟨tb2, true, .row [S [42]] 9 (0, 0)⟩, ⟨tb, true, .row [S [42]] 9 (0, 0)⟩, ⟨b4, true, .row [I ((f : Nat) : Int)] 3 (0, 0)⟩, ⟨b2, true, .row [(.slice ad1 (ps ++ txt ((p.take i).drop f)).length cp1)] 24 (0, 0)⟩, ⟨b1, true, .row [S p] 9 (0, 0)⟩] ++ Hs2) ?_ (src_row (vs := [S [42]]) (r := []) (.head _)) rfl (by simp [Value.oneCell']) (by omega) (by omega) (by omega) rfl (fun sn2 Hn2 hown6 => ?_)
      · have p0 := perm_idx [[⟨tb2, true, .row [S [42]] 9 (0, 0)⟩, ⟨tb, true, .row [S [42]] 9 (0, 0)⟩, ⟨b4, true, .row [I ((f : Nat) : Int)] 3 (0, 0)⟩, ⟨b2, true, .row [(.slice ad1 (ps ++ txt ((p.take i).drop f)).length cp1)] 24 (0, 0)⟩, ⟨b1, true, .row [S p] 9 (0, 0)⟩], Hn, Hs2] [0, 1, 2] [1, 0, 2] (by decide)
        exact List.Perm.trans (.of_eq (by simp)) (p0.trans (.of_eq (by simp)))
      have hown6' : Own 9 1 sn2 (ns ++ [[42]]).length ((ns ++ [[42]]).map S) Hn2 := by
        rw [List.length_append, List.map_append]; exact hown6
      refine G.st Tryd.sizeOf24 rfl rfl rfl (.s (.s (.s .z))) rfl rfl ?_
      refine G.v (V.asg rfl) rfl ?_
      refine G.nil ?_
      refine GC.reg ?_  -- region 18, echo.go:43
      refine G.turn (H' := ⟨b4, true, .row [I ((f : Nat) : Int)] 3 (0, 0)⟩ :: ⟨b2, true, .row [.slice ad2 (ps ++ txt ((p.take i).drop f) ++ [[42]]).length cp2] 24 (0, 0)⟩ :: ⟨b1, true, .row [S p] 9 (0, 0)⟩ :: (Hs2 ++ Hn2)) (fun w1 hw1 => ?_) ?_
      · have := (hw1.sub (List.sublist_cons_self _ _)).sub (List.sublist_cons_self _ _)
        simpa [putE, setL] using this
      refine G.v (V.mv rfl) rfl ?_
      refine G.v (V.addI (r := ((i + 1 : Nat) : Int)) rfl rfl rfl (by omega) (by omega)) rfl ?_
      refine G.st Tryd.sizeOf3 rfl rfl rfl .z rfl rfl ?_
      refine G.nil ?_
      refine GC.inBlock ?_
      refine GC.inBlock ?_
      refine GC.reg ?_  -- region 5, echo.go:29
      refine G.v (V.mv rfl) rfl ?_
      refine G.v (V.addI rfl rfl rfl (by omega) (by omega)) rfl ?_
      refine G.v (V.asg rfl) rfl ?_
      refine G.nil ?_
      have hz : ∀ q : List UInt8, (q.take (i + 1)).drop (i + 1) = [] := fun q => List.drop_of_length_le (by rw [List.length_take]; omega)
      refine ih (N - 1) _ _ (by omega) ⟨i + 1, i + 1, (ps ++ txt ((p.take i).drop f) ++ [[42]]), (ns ++ [[42]]), _, _, Hs2, Hn2, by omega, ⟨?_, ?_, by omega, ?_, ?_⟩, hown5', hown6', .cons rfl (.cons rfl (.cons rfl (.cons rfl (.cons rfl (.cons rfl .nil))))), rfl⟩
      · rw [hz, ← hi1]; simp [grp]
      · rw [← hi2]; simp
      · simp only [List.length_append, List.length_singleton] at *; omega
      · simp only [List.length_append, List.length_singleton] at *; omega
    refine GC.skip ?_
    refine GC.inBlock ?_
    refine GC.inBlock ?_
    refine GC.reg ?_  -- region 5, echo.go:29
    refine G.v (V.mv rfl) rfl ?_
    refine G.v (V.addI rfl rfl rfl (by omega) (by omega)) rfl ?_
    refine G.v (V.asg rfl) rfl ?_
    refine G.nil ?_
    have hx1 : x ≠ 58 := fun h => h18 (by rw [h]; rfl)
    have hx2 : x ≠ 42 := fun h => h51 (by rw [h]; rfl)
    rw [hdx, prs_b' _ hx1 hx2] at hi1 hi2
    refine ih (N - 1) _ _ (by omega) ⟨i + 1, f, ps, ns, sv, sn, Hs, Hn, by omega, ⟨?_, hi2, by omega, by omega, by omega⟩, hown1, hown2, .cons rfl (.cons rfl (.cons rfl (.cons rfl (.cons rfl (.cons rfl .nil))))), rfl⟩
    rw [take_drop_succ hx hfi, ← hi1]; rfl
  refine GC.exit rfl ?_
  refine GC.seq ?_
  refine GC.reg ?_  -- region 19, echo.go:46
  refine G.v (V.mv rfl) rfl ?_
  refine G.v (V.ld Tryd.isAgg9 rfl (.tail _ (.tail _ (.head _))) rfl) rfl ?_
  refine G.v (V.lenS Tryd.underlying9 rfl) rfl ?_
  have hil : i = p.length := by omega
  refine G.tx (to := p.length) hown1 (by omega) (Nat.le_refl _) (by omega) (by omega) rfl rfl rfl (fun sv1 Hs1 hown3 => ?_)
  obtain ⟨ad1, cp1, rfl⟩ := hown3.slice
  refine G.nil ?_
  refine GC.seq ?_
  refine GC.reg ?_  -- region 20, echo.go:47
  refine G.v (V.ld Tryd.isAgg24 rfl (.tail _ (.head _)) rfl) rfl ?_
  refine G.v (V.mv rfl) rfl ?_
  refine G.st Tryd.sizeOf24 rfl rfl rfl (.s .z) rfl rfl ?_
  refine G.v (V.asg rfl) rfl ?_
  refine G.nil ?_
  subst hil
  rw [List.drop_length] at hi1 hi2
  have e1 : ps ++ txt ((p.take p.length).drop f) = parts p := by rw [← hi1]; rfl
  have e2 : ns = (prs p none).2 := by rw [← hi2]; simp [prs]
  rw [e1] at hown3
  rw [e2] at hown2
  refine GC.retR (fun a w1 ha hw1 => ?_) fun w' hw' => ⟨.slice ad1 (ps ++ txt ((p.take p.length).drop f)).length cp1, sn, Hs1, Hn, rfl, ?_, hown2, ?_⟩
  · have g2 := ha.at_ 2 (Pt b2 0) rfl
    have g3 := ha.at_ 3 sn rfl
    have hc2 := cell_row hw1 (b := b2) (off := 0) (.tail _ (.head _)) rfl
    have hres : Tryd.f39.results = #[.cell 2 24, .tmp 3] := rfl
    simp [results, g2, g3, loadVar, asAddr, Tryd.isAgg24, run_load, hc2]
  · rw [e1]; exact hown3
  · exact hw'.sub ((((List.sublist_cons_self _ _).trans (List.sublist_cons_self _ _)).trans (List.sublist_cons_self _ _)))
end Go.Proofs

/- EchoNames, EchoReverse, EchoRight, slices.Equal. Printed by wip/mk_h3.py. -/
namespace Go.Proofs
open Go Bw
set_option maxRecDepth 20000

theorem ePath_len (p : List UInt8) : (ePath p).length ≤ p.length + 1 := by unfold ePath; split <;> simp
theorem f15_any (w : World) (p : List UInt8) (hp : p.length ≤ 90000) : Calls Tryd.prog 15 #[S p] w fun e w' => ∃ v H1, e = .returned v ∧ Own 9 1 v (prs (ePath p) none).2.length ((prs (ePath p) none).2.map S) H1 ∧ HF w (fun _ => False) H1 w' := by
  refine enter (fun _ => False) [] Tryd.func15 rfl Tryd.ntmps15 rfl rfl (HF.start w _) fun c hc => ?_
  subst hc
  refine GC.seq ?_
  refine GC.reg ?_  -- region 0, echo.go:211
  refine G.v (V.asg rfl) rfl ?_
  refine G.nil ?_
  refine GC.seq ?_
  refine GC.reg ?_  -- region 1, echo.go:212
  refine G.v (V.mv rfl) rfl ?_
  refine G.callP Tryd.call21 rfl rfl (fun w1 hw1 => f21_any w1 p (by omega)) ?_
  refine G.callW (fun v H2 => ∃ v1 v2, v = .tuple #[v1, v2] ∧ Own 9 1 v2 (prs (ePath p) none).2.length ((prs (ePath p) none).2.map S) H2) Tryd.call39 rfl rfl (fun w1 hw1 => ?_) ?_
  · have hl := ePath_len p
    refine (f39_any w1 (ePath p) (by omega)).mono fun e w' ⟨v1, v2, H1, H2, h1, h2, h3, h4⟩ => ⟨_, H2, h1, ?_, v1, v2, rfl, h3⟩
    have := hw1.after0 h4 (fun e he => by
      rcases List.mem_append.1 he with he | he
      · exact h2.w e he
      · exact h3.w e he)
    exact this.sub (by simp)
  rintro v H2 ⟨v1, v2, rfl, hown⟩
  refine G.v (V.mv rfl) rfl ?_
  refine G.v (V.ex rfl rfl) rfl ?_
  refine G.v (V.ex rfl rfl) rfl ?_
  refine G.v (V.asg rfl) rfl ?_
  refine G.v (V.asg rfl) rfl ?_
  refine G.nil ?_
  refine GC.seq ?_
  refine GC.reg ?_  -- region 2, echo.go:213
  refine G.v (V.mv rfl) rfl ?_
  refine G.v (V.asg rfl) rfl ?_
  refine G.nil ?_
  exact GC.ret1 rfl rfl fun w' hw' => ⟨v2, H2, rfl, hown, hw'⟩

theorem f22_any (w : World) (a1 a2 : Option Addr) (c1 c2 : Nat) (xs ys : List (List UInt8)) (hx : TxAt w a1 xs) (hy : TxAt w a2 ys) (hl1 : xs.length ≤ 1000000000000) (hl2 : ys.length ≤ 1000000000000) :
    Calls Tryd.prog 22 #[.slice a1 xs.length c1, .slice a2 ys.length c2] w fun e w' => e = .returned (.bool (decide (xs = ys))) ∧ HF w (fun _ => False) [] w' := by
  by_cases hl : xs.length = ys.length
  · cases hxs : xs with
    | nil =>
      have hys : ys = [] := List.length_eq_zero_iff.1 (by rw [← hl, hxs]; rfl)
      subst hys
      refine (Tryd.slices_Equal_string_empty a1 a2 c1 0 c2 w (by omega)).mono fun e w' ⟨h1, h2⟩ => ⟨h1, ?_⟩
      rw [h2]; exact HF.start w _
    | cons x xr =>
      cases hys : ys with
      | nil => rw [hxs, hys] at hl; cases hl
      | cons y yr =>
        rw [← hxs, ← hys]
        obtain ⟨b1, o1, rfl, _⟩ := hx 0 x (by rw [hxs]; rfl)
        obtain ⟨b2, o2, rfl, _⟩ := hy 0 y (by rw [hys]; rfl)
        refine (Tryd.slices_Equal_string b1 o1 xs.length c1 b2 o2 ys.length c2 (xs.map fun l => ⟨l.toArray⟩) (ys.map fun l => ⟨l.toArray⟩) w (by simp) (by simp) (by omega) (by omega) (fun j hj => ?_) (fun j hj => ?_)).mono fun e w' ⟨h1, k, h2⟩ => ⟨?_, ?_⟩
        · rw [List.length_map] at hj
          have := hx.cell (List.getElem?_eq_getElem hj)
          rw [this, List.getD_eq_getElem?_getD, List.getElem?_map, List.getElem?_eq_getElem hj]; rfl
        · rw [List.length_map] at hj
          have := hy.cell (List.getElem?_eq_getElem hj)
          rw [this, List.getD_eq_getElem?_getD, List.getElem?_map, List.getElem?_eq_getElem hj]; rfl
        · rw [h1]
          have e1 : (xs.map fun l => (⟨l.toArray⟩ : ByteArray)).take xs.length = xs.map fun l => ⟨l.toArray⟩ := List.take_of_length_le (by simp)
          have e2 : (ys.map fun l => (⟨l.toArray⟩ : ByteArray)).take ys.length = ys.map fun l => ⟨l.toArray⟩ := List.take_of_length_le (by simp)
          rw [e1, e2]
          have inj : ∀ (xs ys : List (List UInt8)), (xs.map fun l => (⟨l.toArray⟩ : ByteArray)) = (ys.map fun l => ⟨l.toArray⟩) ↔ xs = ys := by
            intro xs ys
            constructor
            · intro h
              have := congrArg (List.map fun b : ByteArray => b.data.toList) h
              simpa [Function.comp_def] using this
            · rintro rfl; rfl
          rw [decide_eq_decide.2 (inj xs ys)]
        · rw [h2]; exact (HF.start w _).drewN k
  · refine (Tryd.slices_Equal_string_lens a1 a2 xs.length c1 ys.length c2 w hl).mono fun e w' ⟨h1, h2⟩ => ⟨?_, ?_⟩
    · rw [h1, decide_eq_false (fun h => hl (by rw [h]))]
    · rw [h2]; exact HF.start w _


theorem f20_any (w : World) (p : List UInt8) (ad : Option Addr) (cp : Nat) (ws : List (List UInt8)) (hx : TxAt w ad ws) (hp : p.length ≤ 100000) (hw : ∀ x ∈ ws, x.length ≤ 100000) (hl : ws.length ≤ 100000) (hcp : ws.length ≤ cp) :
    Calls Tryd.prog 20 #[S p, .slice ad ws.length cp] w fun e w' => e = .returned (S (rv false p ws)) ∧ HF w (fun _ => False) [] w' := by
  refine enter (fun _ => False) [] Tryd.func20 rfl Tryd.ntmps20 rfl rfl (HF.start w _) fun c hc => ?_
  subst hc
  refine GC.seq ?_
  refine GC.reg ?_  -- region 0, echo.go:134
  refine G.v (V.asg rfl) rfl ?_
  refine G.nil ?_
  refine GC.seq ?_
  refine GC.reg ?_  -- region 1, echo.go:135
  refine G.v (V.asg rfl) rfl ?_
  refine G.nil ?_
  refine GC.seq ?_
  refine GC.seq ?_
  refine GC.reg ?_  -- region 2, echo.go:136
  refine G.v (V.asg rfl) rfl ?_
  refine G.nil ?_
  refine GC.block ?_
  refine GC.loopJ (fun N fr' H' => ∃ i o ad1 cp1 ws1, i + N = p.length + 1 ∧ o ++ rv false (p.drop i) ws1 = rv false p ws ∧ o.length + 100000 * ws1.length ≤ 100000 * ws.length + i ∧ (∀ x ∈ ws1, x.length ≤ 100000) ∧ TxAt w ad1 ws1 ∧ ws1.length ≤ cp1 ∧ ws1.length ≤ ws.length ∧ Sub [(0, S p), (1, .slice ad1 ws1.length cp1), (5, S o), (6, I ((i : Nat) : Int))] fr' ∧ H' = []) (p.length + 1)
    ⟨0, [], ad, cp, ws, by omega, by simp, by simp, hw, hx, hcp, Nat.le_refl _, .cons rfl (.cons rfl (.cons rfl (.cons rfl .nil))), rfl⟩ ?_
  rintro N fr' H' ⟨i, o, ad1, cp1, ws1, hj, hrv, hol, hw1', hx1, hcp1, hws1, hs, rfl⟩ ih
  refine GC.weak hs ?_
  clear hs
  refine GC.seq ?_
  refine GC.seq ?_
  refine GC.reg ?_  -- region 3, echo.go:136
  refine G.v (V.mv rfl) rfl ?_
  refine G.v (V.mv rfl) rfl ?_
  refine G.v (V.lenS Tryd.underlying9 rfl) rfl ?_
  refine G.v (V.lt rfl rfl) rfl ?_
  refine G.nil ?_
  refine GC.condD rfl (fun h10 => ?_) (fun h10 => ?_)
  · refine GC.skip ?_
    refine GC.seq ?_
    refine GC.block ?_
    refine GC.seq ?_
    refine GC.seq ?_
    refine GC.join (fun fr' H' => ∃ (b : Bool) (x : UInt8), p[i]? = some x ∧ (b = true ↔ ws1 ≠ [] ∧ (x = 58 ∨ x = 42)) ∧ Sub [(0, S p), (1, .slice ad1 ws1.length cp1), (5, S o), (6, I ((i : Nat) : Int)), (27, .bool b)] fr' ∧ H' = []) (fun J5 => ?_) ?_
    · have hlt : i < p.length := by omega
      obtain ⟨x, hpx⟩ : ∃ x, p[i]? = some x := ⟨_, List.getElem?_eq_getElem hlt⟩
      have hdx := drop_cons hpx
      refine GC.reg ?_  -- region 5, echo.go:137
      refine G.v (V.mv rfl) rfl ?_
      refine G.v (V.lenL Tryd.underlying24 rfl) rfl ?_
      refine G.v (V.gt rfl rfl) rfl ?_
      refine G.v (V.mv rfl) rfl ?_
      refine G.bc 16 rfl (fun h16 => ?_) (fun h16 => ?_)
      · refine G.vg rfl rfl (V.mv rfl) rfl ?_
        refine G.vg rfl rfl (V.mv rfl) rfl ?_
        refine G.vg rfl rfl (V.idx Tryd.underlying9 rfl rfl hpx) rfl ?_
        refine G.vg rfl rfl (V.eqI rfl rfl) rfl ?_
        refine G.vg rfl rfl (V.mv rfl) rfl ?_
        refine G.bc 21 rfl (fun h21 => ?_) (fun h21 => ?_)
        · refine G.sg rfl rfl rfl rfl rfl rfl ?_
          refine G.sg rfl rfl rfl rfl rfl rfl ?_
          refine G.sg rfl rfl rfl rfl rfl rfl ?_
          refine G.sg rfl rfl rfl rfl rfl rfl ?_
          refine G.vg rfl rfl (V.pickT rfl rfl) rfl ?_
          refine G.v (V.pickT rfl rfl) rfl ?_
          refine G.nil ?_
          have hwne : ws1 ≠ [] := fun h => by rw [h] at h16; simp at h16
          have hx58 : x = 58 := UInt8.toNat_inj.1 (show x.toNat = 58 by simp at h21; omega)
          exact J5 _ _ ⟨_, x, hpx, ⟨fun _ => ⟨hwne, .inl hx58⟩, fun _ => rfl⟩, .cons rfl (.cons rfl (.cons rfl (.cons rfl (.cons rfl .nil)))), rfl⟩
        · refine G.vg rfl rfl (V.mv rfl) rfl ?_
          refine G.vg rfl rfl (V.mv rfl) rfl ?_
          refine G.vg rfl rfl (V.idx Tryd.underlying9 rfl rfl hpx) rfl ?_
          refine G.vg rfl rfl (V.eqI rfl rfl) rfl ?_
          refine G.vg rfl rfl (V.pickF rfl rfl) rfl ?_
          refine G.v (V.pickT rfl rfl) rfl ?_
          refine G.nil ?_
          have hwne : ws1 ≠ [] := fun h => by rw [h] at h16; simp at h16
          have hx58 : x ≠ 58 := fun h => by rw [h] at h21; simp at h21
          exact J5 _ _ ⟨decide ((x.toNat : Int) = 42), x, hpx, ⟨fun h => ⟨hwne, .inr (UInt8.toNat_inj.1 (show x.toNat = 42 by have := of_decide_eq_true h; omega))⟩, fun h => decide_eq_true (by rw [h.2.resolve_left hx58]; rfl)⟩, .cons rfl (.cons rfl (.cons rfl (.cons rfl (.cons rfl .nil)))), rfl⟩
      · refine G.sg rfl rfl rfl rfl rfl rfl ?_
        refine G.sg rfl rfl rfl rfl rfl rfl ?_
        refine G.sg rfl rfl rfl rfl rfl rfl ?_
        refine G.sg rfl rfl rfl rfl rfl rfl ?_
        refine G.sg rfl rfl rfl rfl rfl rfl ?_
        refine G.sgU rfl rfl rfl rfl rfl ?_
        refine G.sgU rfl rfl rfl rfl rfl ?_
        refine G.sgU rfl rfl rfl rfl rfl ?_
        refine G.sgU rfl rfl rfl rfl rfl ?_
        refine G.sg rfl rfl rfl rfl rfl rfl ?_
        refine G.v (V.pickF rfl rfl) rfl ?_
        refine G.nil ?_
        have hwne : ws1 = [] := by
          cases hw0 : ws1 with
          | nil => rfl
          | cons a l => rw [hw0] at h16; simp at h16
        exact J5 _ _ ⟨_, x, hpx, ⟨fun h => (by cases h), fun h => absurd hwne h.1⟩, .cons rfl (.cons rfl (.cons rfl (.cons rfl (.cons rfl .nil)))), rfl⟩
    rintro fr' H' ⟨b, x, hpx, hb, hs5, rfl⟩
    have hlt : i < p.length := by omega
    have hdx := drop_cons hpx
    refine GC.weak hs5 ?_
    clear hs5
    refine GC.join (fun fr' H' => ∃ i2 o2 ad2 cp2 ws2, i2 ≤ p.length ∧ i ≤ i2 ∧ (∀ x r, p.drop i2 = x :: r → o2 ++ x :: rv false r ws2 = rv false p ws) ∧ (p.drop i2 = [] → o2 = rv false p ws) ∧ o2.length + 100000 * ws2.length ≤ 100000 * ws.length + i2 ∧ (∀ x ∈ ws2, x.length ≤ 100000) ∧ TxAt w ad2 ws2 ∧ ws2.length ≤ cp2 ∧ ws2.length ≤ ws.length ∧ Sub [(0, S p), (1, .slice ad2 ws2.length cp2), (5, S o2), (6, I ((i2 : Nat) : Int))] fr' ∧ H' = []) (fun J10 => ?_) ?_
    · refine GC.cond rfl (fun h27 => ?_) (fun h27 => ?_)
      · refine GC.seq ?_
        refine GC.reg ?_  -- region 6, echo.go:138
        obtain ⟨hwne, hxx⟩ := hb.1 h27
        obtain ⟨w1, ws2, rfl⟩ : ∃ w1 ws2, ws1 = w1 :: ws2 := by
          cases ws1 with
          | nil => exact absurd rfl hwne
          | cons w1 ws2 => exact ⟨w1, ws2, rfl⟩
        obtain ⟨ab, ao, rfl, hc1⟩ := hx1 0 w1 rfl
        have hw1l := hw1' w1 (.head _)
        rw [hdx] at hrv
        simp only [rv, if_pos hxx] at hrv
        refine G.v (V.mv rfl) rfl ?_
        refine G.v (V.mv rfl) rfl ?_
        refine G.v (V.ia (i := 0) Tryd.underlying24 Tryd.sizeOf9 rfl rfl (by simp)) rfl ?_
        refine G.v (V.ldC (v := S w1) Tryd.isAgg9 rfl (by simpa using hc1) id) rfl ?_
        refine G.v (V.cat rfl rfl (by simp only [List.length_cons] at *; omega)) rfl ?_
        refine G.v (V.asg rfl) rfl ?_
        refine G.nil ?_
        refine GC.seq ?_
        refine GC.reg ?_  -- region 7, echo.go:139
        refine G.v (V.mv rfl) rfl ?_
        refine G.v (V.slT (i := 1) Tryd.underlying24 Tryd.sizeOf9 rfl rfl (by simp) hcp1) rfl ?_
        refine G.v (V.asg rfl) rfl ?_
        refine G.nil ?_
        refine GC.block ?_
        refine GC.loopJ (fun M fr' H' => ∃ e, e + M = p.length ∧ i ≤ e ∧ (o ++ w1) ++ rv true (p.drop e) ws2 = rv false p ws ∧ Sub [(0, S p), (1, .slice (if cp1 = 1 then some ⟨ab, ao, none⟩ else (some (⟨ab, ao, none⟩ : Addr)).map (·.add 1)) ((w1 :: ws2).length - 1) (cp1 - 1)), (5, S (o ++ w1)), (6, I ((e : Nat) : Int))] fr' ∧ H' = []) (p.length - i)
          ⟨i, by omega, Nat.le_refl _, ?_, .cons rfl (.cons rfl (.cons rfl (.cons rfl .nil))), rfl⟩ ?_
        · have hx47 : x ≠ 47 := by rcases hxx with h | h <;> rw [h] <;> decide
          rw [hdx, ← hrv]; simp [rv, hx47]
        rintro M fr' H' ⟨e, he, hie, hrv', hs, rfl⟩ ih2
        refine GC.weak hs ?_
        clear hs
        refine GC.seq ?_
        refine GC.seq ?_
        refine GC.reg ?_  -- region 8, echo.go:140
        refine G.v (V.mv rfl) rfl ?_
        refine G.v (V.mv rfl) rfl ?_
        refine G.v (V.lenS Tryd.underlying9 rfl) rfl ?_
        refine G.v (V.lt rfl rfl) rfl ?_
        refine G.v (V.mv rfl) rfl ?_
        refine G.bc 39 rfl (fun h39 => ?_) (fun h39 => ?_)
        · have hlte : e < p.length := by simp at h39; omega
          obtain ⟨y, hy⟩ : ∃ y, p[e]? = some y := ⟨_, List.getElem?_eq_getElem hlte⟩
          have hdy := drop_cons hy
          refine G.vg rfl rfl (V.mv rfl) rfl ?_
          refine G.vg rfl rfl (V.mv rfl) rfl ?_
          refine G.vg rfl rfl (V.idx Tryd.underlying9 rfl rfl hy) rfl ?_
          refine G.vg rfl rfl (V.neI rfl rfl) rfl ?_
          refine G.v (V.pickT rfl rfl) rfl ?_
          refine G.nil ?_
          refine GC.cond rfl (fun h44 => ?_) (fun h44 => ?_)
          · refine GC.skip ?_
            refine GC.block ?_
            refine GC.reg ?_  -- region 9, echo.go:141
            refine G.v (V.mv rfl) rfl ?_
            refine G.v (V.addI rfl rfl rfl (by omega) (by omega)) rfl ?_
            refine G.v (V.asg rfl) rfl ?_
            refine G.nil ?_
            refine GC.inBlock ?_
            have hy47 : y ≠ 47 := fun h => by subst h; simp at h44
            refine ih2 (M - 1) _ _ (by omega) ⟨e + 1, by omega, by omega, ?_, .cons rfl (.cons rfl (.cons rfl (.cons rfl .nil))), rfl⟩
            rw [← hrv', hdy]; simp [rv, hy47]
          refine GC.exit rfl ?_
          have hy47 : y = 47 := UInt8.toNat_inj.1 (show y.toNat = 47 by simp at h44; omega)
          refine J10 _ _ ⟨e, o ++ w1, _, cp1 - 1, ws2, by omega, hie, fun z r h => ?_, fun h => (by rw [hdy] at h; cases h), ?_, fun z hz => hw1' z (.tail _ hz), (hx1.tail hcp1), ?_, ?_, .cons rfl (.cons rfl (.cons rfl (.cons rfl .nil))), rfl⟩
          · rw [hdy] at h
            simp only [List.cons.injEq] at h
            obtain ⟨rfl, rfl⟩ := h
            rw [← hrv', hdy]; simp [rv, hy47]
          · simp only [List.length_append, List.length_cons] at *; omega
          · simp only [List.length_cons] at hcp1; omega
          · simp only [List.length_cons] at hws1; omega
        · refine G.sg rfl rfl rfl rfl rfl rfl ?_
          refine G.sg rfl rfl rfl rfl rfl rfl ?_
          refine G.sg rfl rfl rfl rfl rfl rfl ?_
          refine G.sg rfl rfl rfl rfl rfl rfl ?_
          refine G.v (V.pickF rfl rfl) rfl ?_
          refine G.nil ?_
          refine GC.condF rfl ?_
          refine GC.exit rfl ?_
          have hle : p.drop e = [] := List.drop_eq_nil_of_le (by simp at h39; omega)
          refine J10 _ _ ⟨e, o ++ w1, _, cp1 - 1, ws2, by omega, hie, fun z r h => (by rw [hle] at h; cases h), fun _ => (by rw [← hrv', hle]; simp [rv]), ?_, fun z hz => hw1' z (.tail _ hz), (hx1.tail hcp1), ?_, ?_, .cons rfl (.cons rfl (.cons rfl (.cons rfl .nil))), rfl⟩
          · simp only [List.length_append, List.length_cons] at *; omega
          · simp only [List.length_cons] at hcp1; omega
          · simp only [List.length_cons] at hws1; omega
      refine GC.skip ?_
      refine J10 _ _ ⟨i, o, ad1, cp1, ws1, by omega, Nat.le_refl _, fun z r h => ?_, fun h => (by rw [hdx] at h; cases h), hol, hw1', hx1, hcp1, hws1, .cons rfl (.cons rfl (.cons rfl (.cons rfl .nil))), rfl⟩
      rw [hdx] at h
      simp only [List.cons.injEq] at h
      obtain ⟨rfl, rfl⟩ := h
      rw [← hrv, hdx]
      cases hw0 : ws1 with
      | nil => simp [rv]
      | cons a l => rw [hw0] at hb; simp only [rv]; rw [if_neg (fun h => by have := hb.2 ⟨by simp, h⟩; rw [this] at h27; cases h27)]
    rintro fr' H' ⟨i2, o2, ad2, cp2, ws2, hi2, hii, hrv2, hrve, hol2, hw2', hx2, hcp2, hws2, hs10, rfl⟩
    refine GC.weak hs10 ?_
    clear hs10
    refine GC.seq ?_
    refine GC.reg ?_  -- region 10, echo.go:144
    refine G.v (V.mv rfl) rfl ?_
    refine G.v (V.mv rfl) rfl ?_
    refine G.v (V.lenS Tryd.underlying9 rfl) rfl ?_
    refine G.v (V.lt rfl rfl) rfl ?_
    refine G.nil ?_
    refine GC.condD rfl (fun h50 => ?_) (fun h50 => ?_)
    · refine GC.reg ?_  -- region 11, echo.go:145
      have hlt2 : i2 < p.length := by omega
      obtain ⟨z, hz⟩ : ∃ z, p[i2]? = some z := ⟨_, List.getElem?_eq_getElem hlt2⟩
      have hdz := drop_cons hz
      refine G.v (V.mv rfl) rfl ?_
      refine G.v (V.mv rfl) rfl ?_
      refine G.v (V.mv rfl) rfl ?_
      refine G.v (V.mv rfl) rfl ?_
      refine G.v (V.addI (r := ((i2 + 1 : Nat) : Int)) rfl rfl rfl (by omega) (by omega)) rfl ?_
      refine G.v (V.slLHe (l' := [z]) Tryd.underlying9 rfl rfl rfl (by omega) (by omega) (by rw [take_drop_succ hz (Nat.le_refl _), List.drop_of_length_le (by rw [List.length_take]; omega)]; rfl)) rfl ?_
      refine G.v (V.cat rfl rfl (by simp only [List.length_cons, List.length_nil]; omega)) rfl ?_
      refine G.v (V.asg rfl) rfl ?_
      refine G.nil ?_
      refine GC.inBlock ?_
      refine GC.reg ?_  -- region 4, echo.go:136
      refine G.v (V.mv rfl) rfl ?_
      refine G.v (V.addI rfl rfl rfl (by omega) (by omega)) rfl ?_
      refine G.v (V.asg rfl) rfl ?_
      refine G.nil ?_
      refine ih (p.length + 1 - (i2 + 1)) _ _ (by omega) ⟨i2 + 1, o2 ++ [z], ad2, cp2, ws2, by omega, ?_, ?_, hw2', hx2, hcp2, hws2, .cons rfl (.cons rfl (.cons rfl (.cons rfl .nil))), rfl⟩
      · rw [← hrv2 z _ hdz]; simp
      · simp only [List.length_append, List.length_singleton]; omega
    refine GC.skip ?_
    refine GC.inBlock ?_
    refine GC.reg ?_  -- region 4, echo.go:136
    refine G.v (V.mv rfl) rfl ?_
    refine G.v (V.addI rfl rfl rfl (by omega) (by omega)) rfl ?_
    refine G.v (V.asg rfl) rfl ?_
    refine G.nil ?_
    have hle : p.drop i2 = [] := List.drop_eq_nil_of_le (by omega)
    refine ih (p.length + 1 - (i2 + 1)) _ _ (by omega) ⟨i2 + 1, o2, ad2, cp2, ws2, by omega, ?_, by omega, hw2', hx2, hcp2, hws2, .cons rfl (.cons rfl (.cons rfl (.cons rfl .nil))), rfl⟩
    rw [List.drop_eq_nil_of_le (by omega), hrve hle]; simp [rv]
  refine GC.exit rfl ?_
  refine GC.seq ?_
  refine GC.reg ?_  -- region 12, echo.go:148
  refine G.v (V.mv rfl) rfl ?_
  refine G.v (V.asg rfl) rfl ?_
  refine G.nil ?_
  have hle : p.drop i = [] := List.drop_eq_nil_of_le (by omega)
  rw [hle] at hrv
  have e : o = rv false p ws := by rw [← hrv]; simp [rv]
  exact GC.ret1 rfl rfl fun w' hw' => ⟨by rw [e], hw'⟩
end Go.Proofs

/- EchoRight. Printed by wip/mk_h4.py. -/
namespace Go.Proofs
open Go Bw
set_option maxRecDepth 20000

structure RightR (r : RB) : Prop where
  hd : r.p.head? = some 47
  m0 : r.m ≠ []
  ml : r.m.length ≤ 40
  nl : r.nm.length ≤ 40
  pl : r.p.length ≤ 200
  okR : Bw.okR r.p
def Right (Rs : List RB) : Prop := Rs.length ≤ 60 ∧ ∀ r ∈ Rs, RightR r
theorem RightR.ok {r : RB} (h : RightR r) : r.ok := ⟨h.hd, h.okR, h.pl, by have := h.ml; omega⟩
theorem okR_iff : ∀ (p : List UInt8), Bw.okR p ↔ ∀ i c, p[i]? = some c → c ≠ 92 ∧ (c = 42 → i + 1 = p.length)
  | [] => by simp [Bw.okR]
  | a :: r => by
    simp only [Bw.okR]
    rw [okR_iff r]
    constructor
    · rintro ⟨h1, h2, h3⟩ i c hc
      cases i with
      | zero =>
        simp only [List.getElem?_cons_zero, Option.some.injEq] at hc
        subst hc
        exact ⟨h1, fun h => by rw [h2 h]; rfl⟩
      | succ i =>
        simp only [List.getElem?_cons_succ] at hc
        obtain ⟨g1, g2⟩ := h3 i c hc
        exact ⟨g1, fun h => by have := g2 h; simp only [List.length_cons]; omega⟩
    · intro h
      refine ⟨(h 0 a rfl).1, fun h4 => ?_, fun i c hc => ?_⟩
      · have := (h 0 a rfl).2 h4
        simp only [List.length_cons] at this
        exact List.length_eq_zero_iff.1 (by omega)
      · obtain ⟨g1, g2⟩ := h (i + 1) c (by simpa using hc)
        exact ⟨g1, fun h => by have := g2 h; simp only [List.length_cons] at this; omega⟩

theorem f14_any (w : World) (ad : Option Addr) (cp : Nat) (Rs : List RB) (hat : RtsAt w ad Rs) : Calls Tryd.prog 14 #[.slice ad Rs.length cp] w fun e w' => ∃ b : Bool, (b = true ↔ Right Rs) ∧ e = .returned (.bool b) ∧ HF w (fun _ => False) [] w' := by
  refine enter (fun _ => False) [] Tryd.func14 rfl Tryd.ntmps14 rfl rfl (HF.start w _) fun c hc => ?_
  subst hc
  refine GC.seq ?_
  refine GC.reg ?_  -- region 0, echo.go:152
  refine G.v (V.asg rfl) rfl ?_
  refine G.nil ?_
  refine GC.seq ?_
  refine GC.seq ?_
  refine GC.reg ?_  -- region 1, echo.go:153
  refine G.v (V.mv rfl) rfl ?_
  refine G.v (V.lenL Tryd.underlying28 rfl) rfl ?_
  refine G.v (V.gt rfl rfl) rfl ?_
  refine G.nil ?_
  refine GC.condD rfl (fun h8 => ?_) (fun h8 => ?_)
  · refine GC.seq ?_
    refine GC.reg ?_  -- region 2, echo.go:154
    refine G.v (V.asg rfl) rfl ?_
    refine G.nil ?_
    refine GC.ret1 rfl rfl fun w' hw' => ⟨false, ⟨fun h => (by cases h), fun h => ?_⟩, rfl, hw'.sub (List.nil_sublist _)⟩
    exfalso
    have := h.1
    omega
  refine GC.skip ?_
  refine GC.seq ?_
  refine GC.seq ?_
  refine GC.reg ?_  -- region 3, echo.go:156
  refine G.v (V.mv rfl) rfl ?_
  refine G.v (V.lenL Tryd.underlying28 rfl) rfl ?_
  refine G.v (V.mv rfl) rfl ?_
  refine G.nil ?_
  refine GC.block ?_
  refine GC.loopJ (fun N fr' H' => ∃ j, j + N = Rs.length ∧ (∀ r ∈ Rs.take j, RightR r) ∧ Sub [(9, .slice ad Rs.length cp), (10, I (Rs.length : Nat)), (11, I ((j : Nat) : Int))] fr' ∧ H' = []) Rs.length
    ⟨0, by omega, by simp, .cons rfl (.cons rfl (.cons rfl .nil)), rfl⟩ ?_
  rintro N fr' H' ⟨j, hj, hall, hs, rfl⟩ ih
  refine GC.weak hs ?_
  clear hs
  refine GC.seq ?_
  refine GC.reg ?_  -- region 4, echo.go:156
  refine G.v (V.lt rfl rfl) rfl ?_
  refine G.nil ?_
  refine GC.seq ?_
  refine GC.condD rfl (fun h12 => ?_) (fun h12 => ?_)
  · refine GC.skip ?_
    refine GC.seq ?_
    refine GC.block ?_
    refine GC.seq ?_
    have hlt : j < Rs.length := by omega
    obtain ⟨r, hr⟩ : ∃ r, Rs[j]? = some r := ⟨_, List.getElem?_eq_getElem hlt⟩
    obtain ⟨ab, o, rfl, hcell⟩ := hat j r hr
    have hrm : r ∈ Rs := List.mem_of_getElem? hr
    refine GC.reg ?_  -- region 5, echo.go:156
    refine G.v (V.ia (i := j) Tryd.underlying28 Tryd.sizeOf23 rfl rfl hlt) rfl ?_
    refine G.v (V.ldAC (cs := r.cells) Tryd.isAgg23 Tryd.sizeOf23 rfl hcell rfl id) rfl ?_
    refine G.al Tryd.zeroValue23 rfl rfl (fun xb hxb => ?_)
    refine G.stA (cs := r.cells) Tryd.sizeOf23 rfl rfl (fun v hv => ?_) .z rfl ?_
    · simp only [RB.cells, List.mem_cons, List.not_mem_nil, or_false] at hv
      rcases hv with rfl | rfl | rfl <;> rfl
    refine G.nil ?_
    refine GC.seq ?_
    refine GC.seq ?_
    refine GC.reg ?_  -- region 6, echo.go:157
    refine G.v (V.fa F23_1 rfl) rfl ?_
    refine G.v (V.ld Tryd.isAgg9 rfl (.head _) rfl) rfl ?_
    refine G.v (V.eqS rfl rfl) rfl ?_
    refine G.v (V.mv rfl) rfl ?_
    refine G.bc 18 rfl (fun h18 => ?_) (fun h18 => ?_)
    · refine G.sg rfl rfl rfl rfl rfl rfl ?_
      refine G.sg rfl rfl rfl rfl rfl rfl ?_
      refine G.sg rfl rfl rfl rfl rfl rfl ?_
      refine G.sg rfl rfl rfl rfl rfl rfl ?_
      refine G.v (V.pickT rfl rfl) rfl ?_
      refine G.v (V.mv rfl) rfl ?_
      refine G.sg rfl rfl rfl rfl rfl rfl ?_
      refine G.sg rfl rfl rfl rfl rfl rfl ?_
      refine G.sg rfl rfl rfl rfl rfl rfl ?_
      refine G.v (V.pickT rfl rfl) rfl ?_
      refine G.v (V.mv rfl) rfl ?_
      refine G.sg rfl rfl rfl rfl rfl rfl ?_
      refine G.sg rfl rfl rfl rfl rfl rfl ?_
      refine G.sg rfl rfl rfl rfl rfl rfl ?_
      refine G.sg rfl rfl rfl rfl rfl rfl ?_
      refine G.v (V.pickT rfl rfl) rfl ?_
      refine G.v (V.mv rfl) rfl ?_
      refine G.sg rfl rfl rfl rfl rfl rfl ?_
      refine G.sg rfl rfl rfl rfl rfl rfl ?_
      refine G.sg rfl rfl rfl rfl rfl rfl ?_
      refine G.sg rfl rfl rfl rfl rfl rfl ?_
      refine G.v (V.pickT rfl rfl) rfl ?_
      refine G.v (V.mv rfl) rfl ?_
      refine G.sg rfl rfl rfl rfl rfl rfl ?_
      refine G.sg rfl rfl rfl rfl rfl rfl ?_
      refine G.sg rfl rfl rfl rfl rfl rfl ?_
      refine G.sg rfl rfl rfl rfl rfl rfl ?_
      refine G.v (V.pickT rfl rfl) rfl ?_
      refine G.nil ?_
      refine GC.condT rfl ?_
      refine GC.seq ?_
      refine GC.reg ?_  -- region 7, echo.go:158
      refine G.v (V.asg rfl) rfl ?_
      refine G.nil ?_
      refine GC.ret1 rfl rfl fun w' hw' => ⟨false, ⟨fun h => (by cases h), fun h => ?_⟩, rfl, hw'.sub (List.nil_sublist _)⟩
      exfalso
      have hR := h.2 r hrm
      have e : r.p = [] := of_decide_eq_true h18
      have := hR.hd
      rw [e] at this
      cases this
    · refine G.vg rfl rfl (V.fa F23_1 rfl) rfl ?_
      refine G.vg rfl rfl (V.ld Tryd.isAgg9 rfl (.head _) rfl) rfl ?_
      obtain ⟨x, l, hxl⟩ : ∃ x l, r.p = x :: l := by
        cases hp : r.p with
        | nil => rw [hp] at h18; simp at h18
        | cons x l => exact ⟨x, l, rfl⟩
      refine G.vg rfl rfl (V.idx (i := 0) (b := x) Tryd.underlying9 rfl rfl (by rw [hxl]; rfl)) rfl ?_
      refine G.vg rfl rfl (V.neI rfl rfl) rfl ?_
      refine G.v (V.pickF rfl rfl) rfl ?_
      refine G.v (V.mv rfl) rfl ?_
      refine G.bc 24 rfl (fun h24 => ?_) (fun h24 => ?_)
      · refine G.sg rfl rfl rfl rfl rfl rfl ?_
        refine G.sg rfl rfl rfl rfl rfl rfl ?_
        refine G.sg rfl rfl rfl rfl rfl rfl ?_
        refine G.v (V.pickT rfl rfl) rfl ?_
        refine G.v (V.mv rfl) rfl ?_
        refine G.sg rfl rfl rfl rfl rfl rfl ?_
        refine G.sg rfl rfl rfl rfl rfl rfl ?_
        refine G.sg rfl rfl rfl rfl rfl rfl ?_
        refine G.sg rfl rfl rfl rfl rfl rfl ?_
        refine G.v (V.pickT rfl rfl) rfl ?_
        refine G.v (V.mv rfl) rfl ?_
        refine G.sg rfl rfl rfl rfl rfl rfl ?_
        refine G.sg rfl rfl rfl rfl rfl rfl ?_
        refine G.sg rfl rfl rfl rfl rfl rfl ?_
        refine G.sg rfl rfl rfl rfl rfl rfl ?_
        refine G.v (V.pickT rfl rfl) rfl ?_
        refine G.v (V.mv rfl) rfl ?_
        refine G.sg rfl rfl rfl rfl rfl rfl ?_
        refine G.sg rfl rfl rfl rfl rfl rfl ?_
        refine G.sg rfl rfl rfl rfl rfl rfl ?_
        refine G.sg rfl rfl rfl rfl rfl rfl ?_
        refine G.v (V.pickT rfl rfl) rfl ?_
        refine G.nil ?_
        refine GC.condT rfl ?_
        refine GC.seq ?_
        refine GC.reg ?_  -- region 7, echo.go:158
        refine G.v (V.asg rfl) rfl ?_
        refine G.nil ?_
        refine GC.ret1 rfl rfl fun w' hw' => ⟨false, ⟨fun h => (by cases h), fun h => ?_⟩, rfl, hw'.sub (List.nil_sublist _)⟩
        exfalso
        have hR := h.2 r hrm
        have := hR.hd
        rw [hxl] at this
        simp only [List.head?_cons, Option.some.injEq] at this
        rw [this] at h24
        simp at h24
      · refine G.vg rfl rfl (V.fa F23_0 rfl) rfl ?_
        refine G.vg rfl rfl (V.ld Tryd.isAgg9 rfl (.head _) rfl) rfl ?_
        refine G.vg rfl rfl (V.eqS rfl rfl) rfl ?_
        refine G.v (V.pickF rfl rfl) rfl ?_
        refine G.v (V.mv rfl) rfl ?_
        refine G.bc 29 rfl (fun h29 => ?_) (fun h29 => ?_)
        · refine G.sg rfl rfl rfl rfl rfl rfl ?_
          refine G.sg rfl rfl rfl rfl rfl rfl ?_
          refine G.sg rfl rfl rfl rfl rfl rfl ?_
          refine G.sg rfl rfl rfl rfl rfl rfl ?_
          refine G.v (V.pickT rfl rfl) rfl ?_
          refine G.v (V.mv rfl) rfl ?_
          refine G.sg rfl rfl rfl rfl rfl rfl ?_
          refine G.sg rfl rfl rfl rfl rfl rfl ?_
          refine G.sg rfl rfl rfl rfl rfl rfl ?_
          refine G.sg rfl rfl rfl rfl rfl rfl ?_
          refine G.v (V.pickT rfl rfl) rfl ?_
          refine G.v (V.mv rfl) rfl ?_
          refine G.sg rfl rfl rfl rfl rfl rfl ?_
          refine G.sg rfl rfl rfl rfl rfl rfl ?_
          refine G.sg rfl rfl rfl rfl rfl rfl ?_
          refine G.sg rfl rfl rfl rfl rfl rfl ?_
          refine G.v (V.pickT rfl rfl) rfl ?_
          refine G.nil ?_
          refine GC.condT rfl ?_
          refine GC.seq ?_
          refine GC.reg ?_  -- region 7, echo.go:158
          refine G.v (V.asg rfl) rfl ?_
          refine G.nil ?_
          refine GC.ret1 rfl rfl fun w' hw' => ⟨false, ⟨fun h => (by cases h), fun h => ?_⟩, rfl, hw'.sub (List.nil_sublist _)⟩
          exfalso
          have hR := h.2 r hrm
          exact hR.m0 (of_decide_eq_true h29)
        · refine G.vg rfl rfl (V.fa F23_0 rfl) rfl ?_
          refine G.vg rfl rfl (V.ld Tryd.isAgg9 rfl (.head _) rfl) rfl ?_
          refine G.vg rfl rfl (V.lenS Tryd.underlying9 rfl) rfl ?_
          refine G.vg rfl rfl (V.gt rfl rfl) rfl ?_
          refine G.v (V.pickF rfl rfl) rfl ?_
          refine G.v (V.mv rfl) rfl ?_
          refine G.bc 35 rfl (fun h35 => ?_) (fun h35 => ?_)
          · refine G.sg rfl rfl rfl rfl rfl rfl ?_
            refine G.sg rfl rfl rfl rfl rfl rfl ?_
            refine G.sg rfl rfl rfl rfl rfl rfl ?_
            refine G.sg rfl rfl rfl rfl rfl rfl ?_
            refine G.v (V.pickT rfl rfl) rfl ?_
            refine G.v (V.mv rfl) rfl ?_
            refine G.sg rfl rfl rfl rfl rfl rfl ?_
            refine G.sg rfl rfl rfl rfl rfl rfl ?_
            refine G.sg rfl rfl rfl rfl rfl rfl ?_
            refine G.sg rfl rfl rfl rfl rfl rfl ?_
            refine G.v (V.pickT rfl rfl) rfl ?_
            refine G.nil ?_
            refine GC.condT rfl ?_
            refine GC.seq ?_
            refine GC.reg ?_  -- region 7, echo.go:158
            refine G.v (V.asg rfl) rfl ?_
            refine G.nil ?_
            refine GC.ret1 rfl rfl fun w' hw' => ⟨false, ⟨fun h => (by cases h), fun h => ?_⟩, rfl, hw'.sub (List.nil_sublist _)⟩
            exfalso
            have hR := h.2 r hrm
            have := hR.ml
            have := of_decide_eq_true h35
            omega
          · refine G.vg rfl rfl (V.fa F23_2 rfl) rfl ?_
            refine G.vg rfl rfl (V.ld Tryd.isAgg9 rfl (.head _) rfl) rfl ?_
            refine G.vg rfl rfl (V.lenS Tryd.underlying9 rfl) rfl ?_
            refine G.vg rfl rfl (V.gt rfl rfl) rfl ?_
            refine G.v (V.pickF rfl rfl) rfl ?_
            refine G.v (V.mv rfl) rfl ?_
            refine G.bc 41 rfl (fun h41 => ?_) (fun h41 => ?_)
            · refine G.sg rfl rfl rfl rfl rfl rfl ?_
              refine G.sg rfl rfl rfl rfl rfl rfl ?_
              refine G.sg rfl rfl rfl rfl rfl rfl ?_
              refine G.sg rfl rfl rfl rfl rfl rfl ?_
              refine G.v (V.pickT rfl rfl) rfl ?_
              refine G.nil ?_
              refine GC.condT rfl ?_
              refine GC.seq ?_
              refine GC.reg ?_  -- region 7, echo.go:158
              refine G.v (V.asg rfl) rfl ?_
              refine G.nil ?_
              refine GC.ret1 rfl rfl fun w' hw' => ⟨false, ⟨fun h => (by cases h), fun h => ?_⟩, rfl, hw'.sub (List.nil_sublist _)⟩
              exfalso
              have hR := h.2 r hrm
              have := hR.nl
              have := of_decide_eq_true h41
              omega
            · refine G.vg rfl rfl (V.fa F23_1 rfl) rfl ?_
              refine G.vg rfl rfl (V.ld Tryd.isAgg9 rfl (.head _) rfl) rfl ?_
              refine G.vg rfl rfl (V.lenS Tryd.underlying9 rfl) rfl ?_
              refine G.vg rfl rfl (V.gt rfl rfl) rfl ?_
              refine G.v (V.pickF rfl rfl) rfl ?_
              refine G.nil ?_
              refine GC.condD rfl (fun h46 => ?_) (fun h46 => ?_)
              · refine GC.seq ?_
                refine GC.reg ?_  -- region 7, echo.go:158
                refine G.v (V.asg rfl) rfl ?_
                refine G.nil ?_
                refine GC.ret1 rfl rfl fun w' hw' => ⟨false, ⟨fun h => (by cases h), fun h => ?_⟩, rfl, hw'.sub (List.nil_sublist _)⟩
                exfalso
                have hR := h.2 r hrm
                have := hR.pl
                omega
              refine GC.skip ?_
              refine GC.seq ?_
              refine GC.reg ?_  -- region 8, echo.go:160
              refine G.v (V.fa F23_1 rfl) rfl ?_
              refine G.v (V.ld Tryd.isAgg9 rfl (.head _) rfl) rfl ?_
              refine G.v (V.lenS Tryd.underlying9 rfl) rfl ?_
              refine G.v (V.mv rfl) rfl ?_
              refine G.nil ?_
              refine GC.block ?_
              refine GC.loopJ (fun M fr' H' => ∃ i, i + M = r.p.length ∧ (∀ k c, k < i → r.p[k]? = some c → c ≠ 92 ∧ (c = 42 → k + 1 = r.p.length)) ∧ Sub [(9, .slice (some ⟨ab, o, none⟩) Rs.length cp), (10, I (Rs.length : Nat)), (11, I ((j : Nat) : Int)), (4, Pt xb 0), (49, I (r.p.length : Nat)), (50, I ((i : Nat) : Int))] fr' ∧ H' = [⟨xb, true, .row r.cells 23 (0, 0)⟩]) r.p.length
                ⟨0, by omega, fun k c h => by omega, .cons rfl (.cons rfl (.cons rfl (.cons rfl (.cons rfl (.cons rfl .nil))))), rfl⟩ ?_
              rintro M fr' H' ⟨i, hi, hin, hs, rfl⟩ ih2
              refine GC.weak hs ?_
              clear hs
              refine GC.seq ?_
              refine GC.reg ?_  -- region 9, echo.go:160
              refine G.v (V.lt rfl rfl) rfl ?_
              refine G.nil ?_
              refine GC.seq ?_
              refine GC.condD rfl (fun h51 => ?_) (fun h51 => ?_)
              · refine GC.skip ?_
                refine GC.seq ?_
                refine GC.block ?_
                refine GC.seq ?_
                have hlti : i < r.p.length := by omega
                obtain ⟨y, hy⟩ : ∃ y, r.p[i]? = some y := ⟨_, List.getElem?_eq_getElem hlti⟩
                refine GC.reg ?_  -- region 10, echo.go:160
                refine G.v (V.mv rfl) rfl ?_
                refine G.v (V.asg rfl) rfl ?_
                refine G.nil ?_
                refine GC.seq ?_
                refine GC.reg ?_  -- region 11, echo.go:161
                refine G.v (V.fa F23_1 rfl) rfl ?_
                refine G.v (V.ld Tryd.isAgg9 rfl (.head _) rfl) rfl ?_
                refine G.v (V.mv rfl) rfl ?_
                refine G.v (V.idx Tryd.underlying9 rfl rfl hy) rfl ?_
                refine G.v (V.eqI rfl rfl) rfl ?_
                refine G.v (V.mv rfl) rfl ?_
                refine G.bc 58 rfl (fun h58 => ?_) (fun h58 => ?_)
                · refine G.sg rfl rfl rfl rfl rfl rfl ?_
                  refine G.sg rfl rfl rfl rfl rfl rfl ?_
                  refine G.sg rfl rfl rfl rfl rfl rfl ?_
                  refine G.sg rfl rfl rfl rfl rfl rfl ?_
                  refine G.sg rfl rfl rfl rfl rfl rfl ?_
                  refine G.sg rfl rfl rfl rfl rfl rfl ?_
                  refine G.sgU rfl rfl rfl rfl rfl ?_
                  refine G.sgU rfl rfl rfl rfl rfl ?_
                  refine G.sgU rfl rfl rfl rfl rfl ?_
                  refine G.sgU rfl rfl rfl rfl rfl ?_
                  refine G.sgU rfl rfl rfl rfl rfl ?_
                  refine G.sgU rfl rfl rfl rfl rfl ?_
                  refine G.sg rfl rfl rfl rfl rfl rfl ?_
                  refine G.v (V.pickT rfl rfl) rfl ?_
                  refine G.nil ?_
                  refine GC.condT rfl ?_
                  refine GC.seq ?_
                  refine GC.reg ?_  -- region 12, echo.go:162
                  refine G.v (V.asg rfl) rfl ?_
                  refine G.nil ?_
                  refine GC.ret1 rfl rfl fun w' hw' => ⟨false, ⟨fun h => (by cases h), fun h => ?_⟩, rfl, hw'.sub (List.nil_sublist _)⟩
                  exfalso
                  have hR := h.2 r hrm
                  have := of_decide_eq_true h58
                  exact ((okR_iff r.p).1 hR.okR i y hy).1 (UInt8.toNat_inj.1 (show y.toNat = 92 by omega))
                · refine G.vg rfl rfl (V.fa F23_1 rfl) rfl ?_
                  refine G.vg rfl rfl (V.ld Tryd.isAgg9 rfl (.head _) rfl) rfl ?_
                  refine G.vg rfl rfl (V.mv rfl) rfl ?_
                  refine G.vg rfl rfl (V.idx Tryd.underlying9 rfl rfl hy) rfl ?_
                  refine G.vg rfl rfl (V.eqI rfl rfl) rfl ?_
                  refine G.vg rfl rfl (V.mv rfl) rfl ?_
                  refine G.bc 64 rfl (fun h64 => ?_) (fun h64 => ?_)
                  · refine G.vg rfl rfl (V.mv rfl) rfl ?_
                    refine G.vg rfl rfl (V.fa F23_1 rfl) rfl ?_
                    refine G.vg rfl rfl (V.ld Tryd.isAgg9 rfl (.head _) rfl) rfl ?_
                    refine G.vg rfl rfl (V.lenS Tryd.underlying9 rfl) rfl ?_
                    refine G.vg rfl rfl (V.subI rfl rfl rfl (by omega) (by omega)) rfl ?_
                    refine G.vg rfl rfl (V.lt rfl rfl) rfl ?_
                    refine G.vg rfl rfl (V.pickT rfl rfl) rfl ?_
                    refine G.v (V.pickF rfl rfl) rfl ?_
                    refine G.nil ?_
                    refine GC.condD rfl (fun h72 => ?_) (fun h72 => ?_)
                    · refine GC.seq ?_
                      refine GC.reg ?_  -- region 12, echo.go:162
                      refine G.v (V.asg rfl) rfl ?_
                      refine G.nil ?_
                      refine GC.ret1 rfl rfl fun w' hw' => ⟨false, ⟨fun h => (by cases h), fun h => ?_⟩, rfl, hw'.sub (List.nil_sublist _)⟩
                      exfalso
                      have hR := h.2 r hrm
                      have h64' := of_decide_eq_true h64
                      have := ((okR_iff r.p).1 hR.okR i y hy).2 (UInt8.toNat_inj.1 (show y.toNat = 42 by omega))
                      omega
                    refine GC.skip ?_
                    refine GC.inBlock ?_
                    refine GC.reg ?_  -- region 13, echo.go:160
                    refine G.v (V.addI rfl rfl rfl (by omega) (by omega)) rfl ?_
                    refine G.v (V.mv rfl) rfl ?_
                    refine G.nil ?_
                    refine ih2 (M - 1) _ _ (by omega) ⟨i + 1, by omega, fun k c hk hc => ?_, .cons rfl (.cons rfl (.cons rfl (.cons rfl (.cons rfl (.cons rfl .nil))))), rfl⟩
                    by_cases hki : k < i
                    · exact hin k c hki hc
                    · have : k = i := by omega
                      subst this
                      rw [hy] at hc
                      cases hc
                      refine ⟨fun h => by rw [h] at h58; simp at h58, fun h => ?_⟩
                      omega
                  · refine G.sg rfl rfl rfl rfl rfl rfl ?_
                    refine G.sg rfl rfl rfl rfl rfl rfl ?_
                    refine G.sg rfl rfl rfl rfl rfl rfl ?_
                    refine G.sg rfl rfl rfl rfl rfl rfl ?_
                    refine G.sg rfl rfl rfl rfl rfl rfl ?_
                    refine G.sg rfl rfl rfl rfl rfl rfl ?_
                    refine G.vg rfl rfl (V.pickF rfl rfl) rfl ?_
                    refine G.v (V.pickF rfl rfl) rfl ?_
                    refine G.nil ?_
                    refine GC.condF rfl ?_
                    refine GC.skip ?_
                    refine GC.inBlock ?_
                    refine GC.reg ?_  -- region 13, echo.go:160
                    refine G.v (V.addI rfl rfl rfl (by omega) (by omega)) rfl ?_
                    refine G.v (V.mv rfl) rfl ?_
                    refine G.nil ?_
                    refine ih2 (M - 1) _ _ (by omega) ⟨i + 1, by omega, fun k c hk hc => ?_, .cons rfl (.cons rfl (.cons rfl (.cons rfl (.cons rfl (.cons rfl .nil))))), rfl⟩
                    by_cases hki : k < i
                    · exact hin k c hki hc
                    · have : k = i := by omega
                      subst this
                      rw [hy] at hc
                      cases hc
                      refine ⟨fun h => by rw [h] at h58; simp at h58, fun h => ?_⟩
                      rw [h] at h64; simp at h64
              refine GC.exit rfl ?_
              refine GC.inBlock ?_
              refine GC.reg ?_  -- region 14, echo.go:156
              refine G.v (V.addI rfl rfl rfl (by omega) (by omega)) rfl ?_
              refine G.v (V.mv rfl) rfl ?_
              refine G.nil ?_
              have hok : RightR r := by
                refine ⟨?_, fun h => ?_, ?_, ?_, by omega, (okR_iff r.p).2 fun k c hc => hin k c ?_ hc⟩
                · rw [hxl]
                  have : x = 47 := UInt8.toNat_inj.1 (show x.toNat = 47 by simp at h24; omega)
                  rw [this]; rfl
                · rw [h] at h29; simp at h29
                · have := of_decide_eq_false h35; omega
                · have := of_decide_eq_false h41; omega
                · have := (List.getElem?_eq_some_iff.1 hc).1; omega
              refine GC.weakH (List.nil_sublist _) (ih (N - 1) _ _ (by omega) ⟨j + 1, by omega, fun q hq => ?_, .cons rfl (.cons rfl (.cons rfl .nil)), rfl⟩)
              rw [List.take_add_one, hr] at hq
              rcases List.mem_append.1 hq with hq | hq
              · exact hall q hq
              · simp only [Option.toList, List.mem_singleton] at hq
                rw [hq]; exact hok
  refine GC.exit rfl ?_
  refine GC.seq ?_
  refine GC.reg ?_  -- region 15, echo.go:166
  refine G.v (V.asg rfl) rfl ?_
  refine G.nil ?_
  refine GC.ret1 rfl rfl fun w' hw' => ⟨true, ⟨fun _ => ⟨by omega, fun r hr => hall r ?_⟩, fun _ => rfl⟩, rfl, hw'⟩
  rw [List.take_of_length_le (by omega)]; exact hr
end Go.Proofs

/- A single route is found by its path. No program in sight. -/
namespace Bw
open Go Go.Proofs

/-- behind a parameter there is a slash or nothing; behind a star nothing -/
def TkOk : List Tok → Prop
  | [] => True
  | .b _ :: u => TkOk u
  | .P :: u => (u = [] ∨ u.head? = some (.b 47)) ∧ TkOk u
  | .A :: u => u = []

theorem prs_some_hd : ∀ (l acc : List UInt8), (prs l (some acc)).1 = [] ∨ (prs l (some acc)).1.head? = some (.b 47)
  | [], acc => .inl rfl
  | c :: r, acc => by
    simp only [prs]
    split
    · exact .inr rfl
    · exact prs_some_hd r _

theorem prs_TkOk : ∀ (l : List UInt8) (o : Option (List UInt8)), okR l → TkOk (prs l o).1
  | [], none, _ => trivial
  | [], some acc, _ => trivial
  | c :: r, none, h => by
    simp only [prs]
    split
    · exact ⟨prs_some_hd r [], prs_TkOk r _ h.2.2⟩
    · split
      · rename_i h42
        rw [h.2.1 h42]; rfl
      · exact prs_TkOk r _ h.2.2
  | c :: r, some acc, h => by
    simp only [prs]
    split
    · exact prs_TkOk r _ h.2.2
    · exact prs_TkOk r _ h.2.2

theorem app_prefix_ne {p u : List Tok} {s t : Tok} (h : p ++ [t] <+: p ++ s :: u) : t = s := by
  have := (List.prefix_append_right_inj _).1 h
  exact (List.cons_prefix_cons.1 this).1
theorem upTo_app {w s : List UInt8} (h : 47 ∉ w) (hs : s = [] ∨ s.head? = some 47) : upTo (w ++ s) = w.length := by
  unfold upTo
  induction w with
  | nil =>
    cases s with
    | nil => rfl
    | cons c r =>
      rcases hs with hs | hs
      · cases hs
      · simp only [List.head?_cons, Option.some.injEq] at hs; subst hs; simp
  | cons a w ih =>
    have ha : a ≠ 47 := fun e => h (by rw [e]; exact .head _)
    rw [List.cons_append, List.takeWhile_cons_of_pos (by simpa using ha), List.length_cons, List.length_cons, ih (fun hm => h (.tail _ hm))]
theorem fill_hd {u : List Tok} (h : u = [] ∨ u.head? = some (.b 47)) (ws : List (List UInt8)) : fill u ws = [] ∨ (fill u ws).head? = some 47 := by
  cases u with
  | nil => exact .inl rfl
  | cons a l =>
    rcases h with h | h
    · cases h
    · simp only [List.head?_cons, Option.some.injEq] at h; subst h; exact .inr rfl

theorem visK_one {α : Type} {tk : α → List Tok} {m : α → List UInt8} {a : α} {meth : List UInt8} (hm : m a = meth) (hnf : meth ≠ nfName) : ∀ (u p : List Tok) (ws vs : List (List UInt8)) (b : Option (List Tok)) (f : Nat),
    tk a = p ++ u → u.length < f → ws.length = cnt u → (∀ w ∈ ws, w ≠ [] ∧ 47 ∉ w) → TkOk u → visK (KOf tk m [a]) meth f p (fill u ws) vs b = .stop (.hit a (vs ++ ws))
  | u, p, ws, vs, b, 0, _, hf, _, _, _ => by omega
  | [], p, ws, vs, b, f + 1, ht, _, hc, _, _ => by
    have h0 : ws = [] := List.length_eq_zero_iff.1 (by rw [hc]; rfl)
    subst h0
    rw [List.append_nil] at ht
    have hown : (KOf tk m [a]).own meth p (fill [] []) vs = some (.hit a vs) := by
      unfold Kn.own
      rw [if_pos (show fill [] [] = [] from rfl), if_pos ⟨a, .head _, ht, by rw [hm]; exact hnf⟩]
      simp [Kn.look1, hnf, KOf, lookO, ht, hm]
    rw [visK_parts, hown, List.append_nil]
  | .b c :: u, p, ws, vs, b, f + 1, ht, hf, hc, hw, hk => by
    have hown : (KOf tk m [a]).own meth p (fill (.b c :: u) ws) vs = none := by unfold Kn.own; rw [if_neg (by simp [fill])]
    have ih := visK_one (tk := tk) (f := f) hm hnf u (p ++ [.b c]) ws vs ((KOf tk m [a]).bst p (fill (.b c :: u) ws) b) (by rw [ht]; simp) (by simpa using hf) hc hw hk
    have htx : (KOf tk m [a]).text (fun p' s' => visK (KOf tk m [a]) meth f p' s' vs ((KOf tk m [a]).bst p (fill (.b c :: u) ws) b)) p (fill (.b c :: u) ws) ((KOf tk m [a]).bst p (fill (.b c :: u) ws) b) = .stop (.hit a (vs ++ ws)) := by
      simp only [Kn.text, fill]
      rw [if_pos ⟨a, .head _, by rw [ht]; exact ⟨u, by simp⟩⟩]
      exact ih
    rw [visK_parts, hown]
    simp only
    rw [htx]; rfl
  | .P :: u, p, ws, vs, b, f + 1, ht, hf, hc, hw, hk => by
    obtain ⟨w, ws', rfl⟩ : ∃ w ws', ws = w :: ws' := by
      cases ws with
      | nil => simp [cnt] at hc
      | cons w l => exact ⟨w, l, rfl⟩
    obtain ⟨hw0, hw47⟩ := hw w (.head _)
    have hs : fill (.P :: u) (w :: ws') = w ++ fill u ws' := rfl
    have hne : w ++ fill u ws' ≠ [] := by simp [hw0]
    have hown : (KOf tk m [a]).own meth p (w ++ fill u ws') vs = none := by unfold Kn.own; rw [if_neg hne]
    have hnot : ∀ t, t ≠ .P → ¬ (KOf tk m [a]).has (p ++ [t]) := by
      rintro t h1 ⟨x, hx, hp⟩
      rw [List.mem_singleton.1 hx, ht] at hp
      exact h1 (app_prefix_ne hp)
    have hbst : (KOf tk m [a]).bst p (w ++ fill u ws') b = b := by unfold Kn.bst; rw [if_neg (fun h => hne h.1)]
    have htx : ∀ g, (KOf tk m [a]).text g p (w ++ fill u ws') b = .back b := by
      intro g
      unfold Kn.text
      split
      · exact if_neg (hnot (.b _) (by simp))
      · rfl
    have hcut : (KOf tk m [a]).cut (p ++ [.P]) (w ++ fill u ws') = w.length := by
      unfold Kn.cut
      split
      · rename_i hl
        have hu : u = [] := by
          cases u with
          | nil => rfl
          | cons t l => exact absurd ⟨t, a, .head _, by rw [ht]; exact ⟨l, by simp⟩⟩ hl
        subst hu
        simp [fill]
      · exact upTo_app hw47 (fill_hd hk.1 ws')
    have hc' : ws'.length = cnt u := by
      rw [show Tok.P :: u = [Tok.P] ++ u from rfl, cnt_app] at hc
      simp only [List.length_cons] at hc
      have : cnt [Tok.P] = 1 := rfl
      omega
    have ih := visK_one (tk := tk) (f := f) hm hnf u (p ++ [.P]) ws' (vs ++ [w]) b (by rw [ht]; simp) (by simpa using hf) hc' (fun x hx => hw x (.tail _ hx)) hk.2
    have hpr : (KOf tk m [a]).par (fun p' s' v => visK (KOf tk m [a]) meth f p' s' (vs ++ [v]) b) p (w ++ fill u ws') b = .stop (.hit a (vs ++ w :: ws')) := by
      unfold Kn.par
      rw [if_pos ⟨hne, a, .head _, by rw [ht]; exact ⟨u, by simp⟩⟩, hcut, List.drop_left, List.take_left]
      simp only
      rw [ih]
      simp
    rw [hs, visK_parts, hown]
    simp only
    rw [hbst, htx]
    simp only [VOk.then]
    rw [hpr]
  | .A :: u, p, ws, vs, b, f + 1, ht, hf, hc, hw, hk => by
    have hu : u = [] := hk
    subst hu
    obtain ⟨w, rfl⟩ : ∃ w, ws = [w] := by
      cases ws with
      | nil => simp [cnt] at hc
      | cons w l =>
        have : l = [] := List.length_eq_zero_iff.1 (by simp [cnt] at hc; simp [hc])
        exact ⟨w, by rw [this]⟩
    obtain ⟨hw0, hw47⟩ := hw w (.head _)
    have hs : fill (.A :: []) [w] = w := by simp [fill]
    have hown : (KOf tk m [a]).own meth p w vs = none := by unfold Kn.own; rw [if_neg hw0]
    have hnot : ∀ t, t ≠ .A → ¬ (KOf tk m [a]).has (p ++ [t]) := by
      rintro t h1 ⟨x, hx, hp⟩
      rw [List.mem_singleton.1 hx, ht] at hp
      exact h1 (app_prefix_ne hp)
    have hbst : (KOf tk m [a]).bst p w b = b := by unfold Kn.bst; rw [if_neg (fun h => hw0 h.1)]
    have htx : ∀ g, (KOf tk m [a]).text g p w b = .back b := by
      intro g
      unfold Kn.text
      split
      · exact if_neg (hnot (.b _) (by simp))
      · rfl
    have hpr : ∀ g, (KOf tk m [a]).par g p w b = .back b := by
      intro g
      unfold Kn.par
      rw [if_neg (fun h => hnot .P (by simp) h.2)]
    have hany : (KOf tk m [a]).any meth p w vs b = .stop (.hit a (vs ++ [w])) := by
      unfold Kn.any
      rw [if_pos ⟨a, .head _, by rw [ht]; exact List.prefix_rfl⟩]
      simp [Kn.look1, hnf, KOf, lookO, ht, hm]
    rw [hs, visK_parts, hown]
    simp only
    rw [hbst, htx]
    simp only [VOk.then]
    rw [hpr]
    simp only
    rw [hany]

theorem fres_hit {Rs : List RB} {meth : List UInt8} {rb : RB} {n : Nat} {vs ns vs' : List (List UInt8)} {num : Int} {p al : List UInt8} (h : FRes Rs meth (.stop (.hit (rb, n) vs)) num p ns vs' al) :
    num = (n : Nat) ∧ p = rb.p ∧ ns = (prs rb.p none).2 ∧ vs' = vs ∧ al = [] ∧ Rs[n]? = some rb := by
  cases h with
  | hit h hl => exact ⟨rfl, rfl, rfl, rfl, rfl, h⟩
  | missNf ho _ _ _ => rcases ho with ho | ⟨ho, _⟩ <;> cases ho
  | miss ho _ _ => rcases ho with ho | ⟨ho, _⟩ <;> cases ho
theorem fres_none {Rs : List RB} {meth : List UInt8} {ns vs' : List (List UInt8)} {num : Int} {p al : List UInt8} (h : FRes Rs meth (.back none) num p ns vs' al) : num = -1 ∧ p = [] ∧ ns = [] ∧ vs' = [] ∧ al = [] := by
  generalize ho' : (VOk.back none : VOk (RB × Nat)) = o' at h
  cases h with
  | hit h hl => cases ho'
  | missNf ho _ _ _ => subst ho'; rcases ho with ho | ⟨ho, _⟩ <;> cases ho
  | miss ho _ _ => subst ho'; rcases ho with ho | ⟨ho, _⟩ <;> cases ho
  | none => exact ⟨rfl, rfl, rfl, rfl, rfl⟩
end Bw
namespace Bw
open Go Go.Proofs
theorem rv_len {Bd : Nat} : ∀ (b : Bool) (p : List UInt8) (ws : List (List UInt8)), (∀ w ∈ ws, w.length ≤ Bd) → (rv b p ws).length ≤ p.length + Bd * ws.length
  | _, [], _, _ => by simp [rv]
  | true, c :: r, ws, h => by
    simp only [rv]
    split
    · have := rv_len false r ws h; simp only [List.length_cons]; omega
    · have := rv_len true r ws h; simp only [List.length_cons]; omega
  | false, c :: r, [], h => by
    have := rv_len false r [] h
    simp only [rv, List.length_cons]; omega
  | false, c :: r, w :: ws, h => by
    simp only [rv]
    have hw := h w (.head _)
    split
    · have := rv_len true r ws (fun x hx => h x (.tail _ hx))
      simp only [List.length_append, List.length_cons, Nat.mul_add, Nat.mul_one]; omega
    · have := rv_len false r (w :: ws) h
      simp only [List.length_cons] at *; omega

/-- a route with values in the place of its parameters -/
theorem rv_fill2 : ∀ (p : List UInt8) (ws : List (List UInt8)), okR p → (ws.length = cnt (prs p none).1 → rv false p ws = fill (prs p none).1 ws) ∧ ∀ acc, ws.length = cnt (prs p (some acc)).1 → rv true p ws = fill (prs p (some acc)).1 ws
  | [], ws, _ => ⟨fun _ => by simp [rv, prs, fill], fun acc _ => by simp [rv, prs, fill]⟩
  | c :: r, ws, hk => by
    have ih := fun ws => rv_fill2 r ws hk.2.2
    refine ⟨fun h => ?_, fun acc h => ?_⟩
    · by_cases h58 : c = 58
      · subst h58
        rw [prs_P'] at h ⊢
        cases ws with
        | nil => simp [cnt] at h
        | cons w ws' =>
          have h' : ws'.length = cnt (prs r (some [])).1 := by simpa [cnt] using h
          show rv false (58 :: r) (w :: ws') = w ++ fill (prs r (some [])).1 ws'
          rw [← (ih ws').2 [] h']
          simp [rv]
      · by_cases h42 : c = 42
        · subst h42
          have hr := hk.2.1 rfl
          subst hr
          rw [prs_A'] at h ⊢
          cases ws with
          | nil => simp [cnt] at h
          | cons w ws' => simp [rv, prs, fill]
        · rw [prs_b' r h58 h42] at h ⊢
          have h' : ws.length = cnt (prs r none).1 := by simpa [cnt] using h
          show rv false (c :: r) ws = c :: fill (prs r none).1 ws
          rw [← (ih ws).1 h']
          cases ws with
          | nil => simp [rv]
          | cons w ws' => simp [rv, h58, h42]
    · by_cases h47 : c = 47
      · subst h47
        rw [prs_some_end (.inr rfl)] at h ⊢
        rw [prs_b' r (by decide) (by decide)] at h ⊢
        have h' : ws.length = cnt (prs r none).1 := by simpa [cnt] using h
        show rv true (47 :: r) ws = 47 :: fill (prs r none).1 ws
        rw [← (ih ws).1 h']
        simp [rv]
      · rw [prs_some_step h47] at h ⊢
        rw [← (ih ws).2 _ h]
        simp [rv, h47]
theorem rv_fill {p : List UInt8} {ws : List (List UInt8)} (hk : okR p) (h : ws.length = (prs p none).2.length) : rv false p ws = fill (prs p none).1 ws :=
  (rv_fill2 p ws hk).1 (by rw [h]; have := prs_cnt p none; simpa using this)
theorem ePath_of {p : List UInt8} (h : p.head? = some 47) : ePath p = p := if_pos h

/-- the law of a single route -/
theorem alone {r : RB} (hr : RightR r) (hm : r.m ≠ nfName) {ws : List (List UInt8)} (hl : ws.length = (prs r.p none).2.length) (hw : ∀ w ∈ ws, w ≠ [] ∧ 47 ∉ w) : visK (KS [r]) r.m 202 [] (rv false r.p ws) [] none = .stop (.hit (r, 0) ws) := by
  rw [rv_fill hr.okR hl]
  have hc : ws.length = cnt (tkk (r, 0)) := by
    have := prs_cnt r.p none
    rw [hl, this]; rfl
  have h := visK_one (tk := tkk) (m := mk') (a := (r, 0)) (meth := r.m) rfl hm (prs r.p none).1 [] ws [] none 202 rfl (by have := prs_len r.p none; have := hr.pl; omega) hc hw (prs_TkOk _ _ hr.okR)
  rw [List.nil_append] at h
  exact h
end Bw

/- echoAwake. Printed by wip/mk_h5.py. -/
namespace Go.Proofs
open Go Bw
set_option maxRecDepth 20000

def awR : RB := ⟨[71, 69, 84], [47, 97, 47, 58, 120], [114]⟩
theorem awT : tkk (awR, 0) = [.b 47, .b 97, .b 47, .P] := by decide
theorem awOk : awR.ok := ⟨rfl, by simp [okR, awR], by decide, by decide⟩
theorem aw1 : visK (KS [awR]) [71, 69, 84] 202 [] [47, 97, 47, 98] [] none = .stop (.hit (awR, 0) [[98]]) := by
  have h := visK_one (tk := tkk) (m := mk') (a := (awR, 0)) (meth := [71, 69, 84]) rfl (by decide) [.b 47, .b 97, .b 47, .P] [] [[98]] [] none 202 (by rw [awT]; rfl) (by decide) rfl (by decide) ⟨.inl rfl, trivial⟩
  exact h
theorem KOf_has {α : Type} {tk : α → List Tok} {m : α → List UInt8} {l : List α} {q : List Tok} : (KOf tk m l).has q ↔ ∃ a ∈ l, q <+: tk a := Iff.rfl
theorem aw_has (q : List Tok) : (KS [awR]).has q ↔ q <+: [.b 47, .b 97, .b 47, .P] := by
  rw [← awT]
  exact ⟨fun ⟨a, ha, hp⟩ => by rw [List.mem_singleton.1 (show a ∈ [(awR, 0)] from ha)] at hp; exact hp, fun h => ⟨(awR, 0), .head _, h⟩⟩
theorem aw2 : visK (KS [awR]) [71, 69, 84] 202 [] [47, 98] [] none = .back none := by
  have h1 : visK (KS [awR]) [71, 69, 84] 201 [.b 47] [98] [] none = .back none := by
    rw [show (201 : Nat) = 200 + 1 from rfl, visK_parts]
    have ho : (KS [awR]).own [71, 69, 84] [.b 47] [98] [] = none := by unfold Kn.own; rw [if_neg (by decide)]
    have hb : (KS [awR]).bst [.b 47] [98] none = none := by unfold Kn.bst; rw [if_neg (fun h => by cases h.1)]
    have ht : ∀ g, (KS [awR]).text g [.b 47] [98] none = .back none := fun g => by unfold Kn.text; simp only; rw [if_neg]; rw [aw_has]; decide
    have hp : ∀ g, (KS [awR]).par g [.b 47] [98] none = .back none := fun g => by unfold Kn.par; rw [if_neg]; rw [aw_has]; decide
    have ha : (KS [awR]).any [71, 69, 84] [.b 47] [98] [] none = .back none := by unfold Kn.any; rw [if_neg]; rw [aw_has]; decide
    rw [ho]; simp only; rw [hb, ht]; simp only [VOk.then]; rw [hp]; simp only; rw [ha]
  rw [show (202 : Nat) = 201 + 1 from rfl, visK_parts]
  have ho : (KS [awR]).own [71, 69, 84] [] [47, 98] [] = none := by unfold Kn.own; rw [if_neg (by decide)]
  have hb : (KS [awR]).bst [] [47, 98] none = none := by unfold Kn.bst; rw [if_neg (fun h => by cases h.1)]
  have ht : (KS [awR]).text (fun p' s' => visK (KS [awR]) [71, 69, 84] 201 p' s' [] none) [] [47, 98] none = .back none := by unfold Kn.text; simp only; rw [if_pos (by rw [aw_has]; decide)]; exact h1
  have hp : ∀ g, (KS [awR]).par g [] [47, 98] none = .back none := fun g => by unfold Kn.par; rw [if_neg]; rw [aw_has]; decide
  have ha : (KS [awR]).any [71, 69, 84] [] [47, 98] [] none = .back none := by unfold Kn.any; rw [if_neg]; rw [aw_has]; decide
  rw [ho]; simp only; rw [hb, ht]; simp only [VOk.then]; rw [hp]; simp only; rw [ha]
theorem build51 (a b c : List UInt8) (w : World) : (Instr.build 51 #[(0, S a), (1, S b), (2, S c)]).run Tryd.prog w = .ok (.agg #[S a, S b, S c]) w := by
  simp [Instr.build, Tryd.zeroValue51, Tryd.runUnderlying51, Tryd.sizeOf9, cells_agg, Instr.fill, cells_str]

theorem f16_any (w : World) : Calls Tryd.prog 16 #[] w fun e w' => e = .returned (.bool true) ∧ HF w (fun _ => False) [] w' := by
  refine enter (fun _ => False) [] Tryd.func16 rfl Tryd.ntmps16 rfl rfl (HF.start w _) fun c hc => ?_
  subst hc
  refine GC.seq ?_
  refine GC.reg ?_  -- region 0, echo.go:21
  refine G.v (V.asg rfl) rfl ?_
  refine G.nil ?_
  refine GC.seq ?_
  refine GC.reg ?_  -- region 1, echo.go:22
  refine G.v (V.bd (ps := [(0, .const (S [71, 69, 84])), (1, .const (S [47, 97, 47, 58, 120])), (2, .const (S [114]))]) (vs := [(0, S [71, 69, 84]), (1, S [47, 97, 47, 58, 120]), (2, S [114])]) rfl (fun w1 => build51 _ _ _ w1)) rfl ?_
  refine G.bs (BS.three (a := S [71, 69, 84]) (b := S [47, 97, 47, 58, 120]) (c := S [114]) Tryd.underlying35 Tryd.sizeOf51 Tryd.zeroValue51) rfl rfl (fun tb htb => ?_)
  refine G.v (V.asg rfl) rfl ?_
  refine G.nil ?_
  refine GC.seq ?_
  refine GC.reg ?_  -- region 2, echo.go:23
  refine G.v (V.mv rfl) rfl ?_
  refine G.callW (fun v H2 => ∃ vn vv Hn Hv, Own 9 1 vn 1 [S [120]] Hn ∧ Own 9 1 vv 1 [S [98]] Hv ∧ v = .agg #[I 0, S [47, 97, 47, 58, 120], vn, vv, S []] ∧ H2 = (Hn ++ Hv) ++ [⟨tb, true, .row [S [71, 69, 84], S [47, 97, 47, 58, 120], S [114]] 51 (0, 0)⟩]) Tryd.call18 rfl rfl (fun w1 hw1 => ?_) ?_
  · skip
    have hat : RtsAt w1 (some ⟨tb, 0, none⟩) [awR] := fun i r hr => by
      cases i with
      | succ i => simp at hr
      | zero =>
        simp only [List.getElem?_cons_zero, Option.some.injEq] at hr
        subst hr
        exact ⟨tb, 0, rfl, fun j v hj => cell_row hw1 (.head _) (by rw [nth_eq, Nat.zero_mul, Nat.zero_add]; exact hj)⟩
    refine (f18_any w1 (some ⟨tb, 0, none⟩) 1 [awR] [71, 69, 84] [47, 97, 47, 98] hat (fun r hr => by rw [List.mem_singleton.1 hr]; exact awOk) (by decide) (by decide)).mono fun e w' ⟨num, p, ns, vs, al, vn, vv, Hn, Hv, h1, _, h2, h3, h4, h5⟩ => ?_
    rw [aw1] at h1
    obtain ⟨rfl, rfl, rfl, rfl, rfl, _⟩ := fres_hit h1
    exact ⟨_, _, h2, hw1.after0 h5 (fun e he => by
      rcases List.mem_append.1 he with he | he
      · exact h3.w e he
      · exact h4.w e he), vn, vv, Hn, Hv, h3, h4, rfl, rfl⟩
  rintro v H2 ⟨vn, vv, Hn, Hv, hown1, hown2, rfl, rfl⟩
  refine G.v (V.mv rfl) rfl ?_
  refine G.callW (fun v H2 => ∃ vn2 vv2, v = .agg #[I (-1), S [], vn2, vv2, S []] ∧ (∃ n1 n2 H3 H4, Own 9 1 vn2 n1 [] H3 ∧ Own 9 1 vv2 n2 [] H4) ∧ H2 = (Hn ++ Hv)) Tryd.call18 rfl rfl (fun w1 hw1 => ?_) ?_
  · skip
    have hat : RtsAt w1 (some ⟨tb, 0, none⟩) [awR] := fun i r hr => by
      cases i with
      | succ i => simp at hr
      | zero =>
        simp only [List.getElem?_cons_zero, Option.some.injEq] at hr
        subst hr
        exact ⟨tb, 0, rfl, fun j v hj => cell_row hw1 (List.mem_append_right _ (.head _)) (by rw [nth_eq, Nat.zero_mul, Nat.zero_add]; exact hj)⟩
    refine (f18_any w1 (some ⟨tb, 0, none⟩) 1 [awR] [71, 69, 84] [47, 98] hat (fun r hr => by rw [List.mem_singleton.1 hr]; exact awOk) (by decide) (by decide)).mono fun e w' ⟨num, p, ns, vs, al, vn, vv, Hn, Hv, h1, _, h2, h3, h4, h5⟩ => ?_
    rw [aw2] at h1
    obtain ⟨rfl, rfl, rfl, rfl, rfl⟩ := fres_none h1
    refine ⟨_, _, h2, ?_, vn, vv, rfl, ⟨_, _, _, _, h3, h4⟩, rfl⟩
    have := hw1.after0 h5 (fun e he => by
      rcases List.mem_append.1 he with he | he
      · exact h3.w e he
      · exact h4.w e he)
    exact this.sub ((List.sublist_append_left _ _).trans (List.sublist_append_right _ _))
  rintro v H2 ⟨vn2, vv2, rfl, ⟨n1, n2, H3, H4, hown3, hown4⟩, rfl⟩
  obtain ⟨adn, cpn, rfl⟩ := hown1.slice
  obtain ⟨adw, cpw, rfl⟩ := hown2.slice
  obtain ⟨ad3, cp3, rfl⟩ := hown3.slice
  obtain ⟨ad4, cp4, rfl⟩ := hown4.slice
  refine G.al Tryd.zeroValue33 rfl rfl (fun b2 hb2 => ?_)
  refine G.al Tryd.zeroValue33 rfl rfl (fun b3 hb3 => ?_)
  refine G.stA (cs := [I 0, S [47, 97, 47, 58, 120], .slice adn 1 cpn, .slice adw 1 cpw, S []]) Tryd.sizeOf33 rfl rfl (fun v hv => ?_) (.s .z) rfl ?_
  · simp only [List.mem_cons, List.not_mem_nil, or_false] at hv
    rcases hv with rfl | rfl | rfl | rfl | rfl <;> rfl
  refine G.stA (cs := [I (-1), S [], .slice ad3 n1 cp3, .slice ad4 n2 cp4, S []]) Tryd.sizeOf33 rfl rfl (fun v hv => ?_) .z rfl ?_
  · simp only [List.mem_cons, List.not_mem_nil, or_false] at hv
    rcases hv with rfl | rfl | rfl | rfl | rfl <;> rfl
  refine G.nil ?_
  refine GC.seq ?_
  refine GC.reg ?_  -- region 3, echo.go:24
  refine G.turn (H' := ⟨b2, true, .row [I 0, S [47, 97, 47, 58, 120], .slice adn 1 cpn, .slice adw 1 cpw, S []] 33 (0, 0)⟩ :: ⟨b3, true, .row [I (-1), S [], .slice ad3 n1 cp3, .slice ad4 n2 cp4, S []] 33 (0, 0)⟩ :: (Hn ++ Hv)) (fun w1 hw1 => HF.perm hw1 (.swap _ _ _)) ?_
  refine G.v (V.fa F33_0 rfl) rfl ?_
  refine G.v (V.ld Tryd.isAgg3 rfl (.head _) rfl) rfl ?_
  refine G.v (V.eqI rfl rfl) rfl ?_
  refine G.v (V.mv rfl) rfl ?_
  refine G.bc 13 rfl (fun h13 => ?_) (fun h13 => ?_)
  · refine G.vg rfl rfl (V.fa F33_1 rfl) rfl ?_
    refine G.vg rfl rfl (V.ld Tryd.isAgg9 rfl (.head _) rfl) rfl ?_
    refine G.vg rfl rfl (V.eqS rfl rfl) rfl ?_
    refine G.v (V.pickT rfl rfl) rfl ?_
    refine G.v (V.mv rfl) rfl ?_
    refine G.bc 18 rfl (fun h18 => ?_) (fun h18 => ?_)
    · refine G.vg rfl rfl (V.fa F33_2 rfl) rfl ?_
      refine G.vg rfl rfl (V.ld Tryd.isAgg24 rfl (.head _) rfl) rfl ?_
      refine G.gd rfl rfl ?_
      refine G.bs (BS.one Tryd.underlying24 Tryd.sizeOf9 Tryd.zeroValue9 (v := S [120]) rfl) rfl rfl (fun tb1 htb1 => ?_)
      refine G.gd rfl rfl ?_
      refine G.callP Tryd.call22 rfl rfl (fun w1 hw1 => f22_any w1 _ _ _ _ [[120]] [[120]] ((show Own 9 1 (.slice adn [[120]].length cpn) [[120]].length ([[120]].map S) Hn from hown1).tx fun e he => hw1.has e ?_) (TxAt.of_row hw1 (.head _)) (by decide) (by decide)) ?_
      · simp [he]
      refine G.v (V.pickT rfl rfl) rfl ?_
      refine G.v (V.mv rfl) rfl ?_
      refine G.bc 24 rfl (fun h24 => ?_) (fun h24 => ?_)
      · refine G.vg rfl rfl (V.fa F33_3 rfl) rfl ?_
        refine G.vg rfl rfl (V.ld Tryd.isAgg24 rfl (.tail _ (.head _)) rfl) rfl ?_
        refine G.gd rfl rfl ?_
        refine G.bs (BS.one Tryd.underlying24 Tryd.sizeOf9 Tryd.zeroValue9 (v := S [98]) rfl) rfl rfl (fun tb2 htb2 => ?_)
        refine G.gd rfl rfl ?_
        refine G.callP Tryd.call22 rfl rfl (fun w1 hw1 => f22_any w1 _ _ _ _ [[98]] [[98]] ((show Own 9 1 (.slice adw [[98]].length cpw) [[98]].length ([[98]].map S) Hv from hown2).tx fun e he => hw1.has e ?_) (TxAt.of_row hw1 (.head _)) (by decide) (by decide)) ?_
        · simp [he]
        refine G.v (V.pickT rfl rfl) rfl ?_
        refine G.v (V.mv rfl) rfl ?_
        refine G.bc 30 rfl (fun h30 => ?_) (fun h30 => ?_)
        · refine G.vg rfl rfl (V.fa F33_0 rfl) rfl ?_
          refine G.vg rfl rfl (V.ld Tryd.isAgg3 rfl (.tail _ (.tail _ (.tail _ (.head _)))) rfl) rfl ?_
          refine G.vg rfl rfl (V.eqI rfl rfl) rfl ?_
          refine G.v (V.pickT rfl rfl) rfl ?_
          refine G.v (V.asg rfl) rfl ?_
          refine G.nil ?_
          exact GC.ret1 rfl rfl fun w' hw' => ⟨rfl, hw'.sub (List.nil_sublist _)⟩
        · exact absurd h30 (by decide)
      · exact absurd h24 (by decide)
    · exact absurd h18 (by decide)
  · exact absurd h13 (by decide)
end Go.Proofs

/- Small rules for the laws: comparisons whose answer is known; routes in memory. -/
namespace Go.Proofs
open Go Bw
theorem ge_false {P : Program} {c : Cx} {n : Nat} {op : Op} {ty : TypeId} {fr : SF} {H : SH} {i j : Int} (h : ¬ i ≥ j) (hv : Val P c n op ty fr H (.bool (decide (i ≥ j)))) : Val P c n op ty fr H (.bool false) := by rw [decide_eq_false h] at hv; exact hv
theorem neS_false {P : Program} {c : Cx} {n : Nat} {op : Op} {ty : TypeId} {fr : SF} {H : SH} {i j : List UInt8} (h : i = j) (hv : Val P c n op ty fr H (.bool (!decide (i = j)))) : Val P c n op ty fr H (.bool false) := by rw [decide_eq_true h] at hv; exact hv
theorem neI_false {P : Program} {c : Cx} {n : Nat} {op : Op} {ty : TypeId} {fr : SF} {H : SH} {i j : Int} (h : i = j) (hv : Val P c n op ty fr H (.bool (!decide (i = j)))) : Val P c n op ty fr H (.bool false) := by rw [decide_eq_true h] at hv; exact hv
theorem prs_names_le (p : List UInt8) : (prs p none).2.length ≤ p.length := by
  have h1 := prs_cnt p none
  have h2 : cnt (prs p none).1 ≤ (prs p none).1.length := by rw [cnt]; exact List.length_filter_le _ _
  have h3 := prs_len p none
  simp at h1; omega
theorem rts_row {w0 w : World} {D : Nat → Prop} {H : SH} {b : Nat} {wf : Bool} {t : TypeId} {fz : Nat × Nat} {r : RB} {sp : List Value} (hw : HF w0 D H w) (hm : ⟨b, wf, .row (r.cells ++ sp) t fz⟩ ∈ H) : RtsAt w (some ⟨b, 0, none⟩) [r] := fun i r' hr => by
  cases i with
  | succ i => simp at hr
  | zero =>
    simp only [List.getElem?_cons_zero, Option.some.injEq] at hr
    subst hr
    exact ⟨b, 0, rfl, fun j v hj => cell_row hw hm (by rw [nth_eq, Nat.zero_mul, Nat.zero_add, List.getElem?_append_left (List.getElem?_eq_some_iff.1 hj).1]; exact hj)⟩
theorem rts_own {w0 w : World} {D : Nat → Prop} {H Hs : SH} {Rs : List RB} {ad : Option Addr} {cp : Nat} {e : TypeId} (hw : HF w0 D H w) (hs : ∀ e ∈ Hs, e ∈ H) (h : Own e 3 (.slice ad Rs.length cp) Rs.length (Rs.flatMap RB.cells) Hs) : RtsAt w ad Rs := fun i r hr => by
  have hlt := (List.getElem?_eq_some_iff.1 hr).1
  obtain ⟨b, cap, spare, e, rfl⟩ := h.at hlt
  cases e
  refine ⟨b, 0, rfl, fun j v hj => ?_⟩
  have hj3 : j < 3 := (List.getElem?_eq_some_iff.1 hj).1
  have key : ∀ (Rs : List RB) (i : Nat), Rs[i]? = some r → (Rs.flatMap RB.cells)[i * 3 + j]? = some v := by
    intro Rs
    induction Rs with
    | nil => intro i h; simp at h
    | cons a l ih =>
      intro i h
      cases i with
      | zero =>
        simp only [List.getElem?_cons_zero, Option.some.injEq] at h
        subst h
        rw [List.flatMap_cons, Nat.zero_mul, Nat.zero_add, List.getElem?_append_left (by simp [RB.cells]; omega)]; exact hj
      | succ i =>
        rw [List.flatMap_cons, List.getElem?_append_right (by simp [RB.cells]; omega)]
        have := ih i (by simpa using h)
        rw [show (i + 1) * 3 + j - a.cells.length = i * 3 + j by simp [RB.cells]; omega]
        exact this
  have hk := key Rs i hr
  exact cell_row hw (hs _ (.head _)) (by rw [nth_eq, Nat.zero_add, List.getElem?_append_left (List.getElem?_eq_some_iff.1 hk).1]; exact hk)
end Go.Proofs
