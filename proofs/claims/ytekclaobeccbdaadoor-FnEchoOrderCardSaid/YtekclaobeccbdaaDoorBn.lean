/- A search over the routes and what the law says is the same. -/
import Derived.Test.YtekclaobeccbdaaDoorBm
import Derived.Test.YtekclaobeccbdaaDoorBl
/- EchoFits, EchoBetter. Printed by wip/mk_h7.py. -/
namespace Go.Proofs
open Go Bw
set_option maxRecDepth 20000

theorem _root_.Bw.GQ.callFP {P : Program} {c : Cx} {n : Nat} {k : List Item} {fr : SF} {H : SH} {ops : Array Oper} {rest : List Oper} {ty : TypeId} {pos : String} {aft : Array Edge} {g : FuncId} {x : Operand} {xs : List Operand} {vs : List Value} {tys : Array TypeId} {d : Nat} {v : Value} (hg : ∀ (args : Array Value) w, (callFunc g args).run P w = .ok (.enter g args) w)
    (hx : ev fr x = some (.func (.func g) #[] #[])) (he : evs fr xs = some vs) (hd : Nat.blt d n = true) (hc : ∀ w, HF c.w0 c.D H w → Calls P g vs.toArray w (fun e w' => e = .returned v ∧ HF w (fun _ => False) [] w'))
    (hk : GQ P c n k ops rest ((d, v) :: fr) H) :
    GQ P c n k ops (⟨some d, .call ⟨.value x, xs.toArray, tys⟩, ty, pos, aft, none⟩ :: rest) fr H := by
  intro hf a ha
  refine wpQuiet_step fun K hK => ?_
  have hwn : Region.wanted ⟨some d, .call ⟨.value x, xs.toArray, tys⟩, ty, pos, aft, none⟩ (yielded ops a.tmps) = true := rfl
  simp only [hwn, if_true]
  refine ⟨v, fun w hw => ?_, hK _ (hk hf _ (ha.put hd v))⟩
  have hr := run_callV (cs := []) (tys := tys) (dst := some d) (ty := ty) (pos := pos) (aft := aft) (gd := none) (w := w) ha hg hx he
  rw [List.append_nil] at hr
  simp only [Oper.quietAt, hr, Oper.quietUpon]
  exact ⟨trivial, (hc w hw).mono fun e w' h => ⟨h.1, hw.after0 h.2 (fun _ he => by cases he)⟩⟩

def fitG : List (List UInt8) → List UInt8 → List (List UInt8) → List (List UInt8) × Bool × Bool
  | [], s, vs => (vs, decide (s = []), false)
  | x :: xs, s, vs =>
    if x = [58] then
      if xs = [] ∧ upTo s < s.length then ([], false, true)
      else if upTo s = 0 then ([], false, true)
      else fitG xs (s.drop (upTo s)) (vs ++ [s.take (upTo s)])
    else if x = [42] then (vs ++ [s], !decide (s = []), decide (s = []))
    else if s.length < x.length ∨ s.take x.length ≠ x then ([], false, false)
    else fitG xs (s.drop x.length) vs
def rank : Int → Int := fun n => if n = -1 then 1 else if n = -2 then 2 else 0
def plc : Tok → Int
  | .b c => (c.toNat : Int)
  | .P => -1
  | .A => -2
def pls (x : List UInt8) : List Int := if x = [58] then [-1] else if x = [42] then [-2] else x.map fun c => (c.toNat : Int)
def betI : List Int → List Int → Bool
  | [], [] => false
  | [], _ :: _ => true
  | _ :: _, [] => false
  | a :: u, b :: v => if a = b then betI u v else decide (rank a < rank b)

theorem upTo_scan {s : List UInt8} {n : Nat} (h1 : ∀ k c, k < n → s[k]? = some c → c ≠ 47) (h2 : n = s.length ∨ s[n]? = some 47) : upTo s = n := by
  unfold upTo
  induction s generalizing n with
  | nil =>
    rcases h2 with h2 | h2
    · simpa using h2.symm
    · simp at h2
  | cons a r ih =>
    cases n with
    | zero =>
      rcases h2 with h2 | h2
      · cases h2
      · simp only [List.getElem?_cons_zero, Option.some.injEq] at h2
        subst h2; simp
    | succ n =>
      have ha : a ≠ 47 := h1 0 a (by omega) rfl
      rw [List.takeWhile_cons_of_pos (by simpa using ha), List.length_cons]
      rw [ih (n := n) (fun k c hk hc => h1 (k + 1) c (by omega) (by simpa using hc)) (by
        rcases h2 with h2 | h2
        · left; simpa using h2
        · right; simpa using h2)]

theorem f62_any (w : World) (i : Int) : Calls Tryd.prog 62 #[I i] w fun e w' => e = .returned (I (rank i)) ∧ HF w (fun _ => False) [] w' := by
  refine enter (fun _ => False) [] Tryd.func62 rfl Tryd.ntmps62 rfl rfl (HF.start w _) fun c hc => ?_
  subst hc
  refine GC.seq ?_
  refine GC.reg ?_  -- region 0, echo.go:84
  refine G.v (V.asg rfl) rfl ?_
  refine G.nil ?_
  refine GC.seq ?_
  refine GC.seq ?_
  refine GC.reg ?_  -- region 1, echo.go:85
  refine G.v (V.mv rfl) rfl ?_
  refine G.nil ?_
  refine GC.block ?_
  refine GC.seq ?_
  refine GC.reg ?_  -- region 2, echo.go:86
  refine G.v (V.eqI rfl rfl) rfl ?_
  refine G.v (V.asg rfl) rfl ?_
  refine G.nil ?_
  refine GC.condD rfl (fun h4 => ?_) (fun h4 => ?_)
  · refine GC.seq ?_
    refine GC.reg ?_  -- region 3, echo.go:87
    refine G.v (V.asg rfl) rfl ?_
    refine G.nil ?_
    refine GC.ret1 rfl rfl fun w' hw' => ⟨?_, hw'⟩
    have h : i = -1 := of_decide_eq_true (by simpa using h4)
    rw [h]; rfl
  refine GC.seq ?_
  refine GC.reg ?_  -- region 4, echo.go:88
  refine G.v (V.eqI rfl rfl) rfl ?_
  refine G.v (V.asg rfl) rfl ?_
  refine G.nil ?_
  refine GC.condD rfl (fun h6 => ?_) (fun h6 => ?_)
  · refine GC.seq ?_
    refine GC.reg ?_  -- region 5, echo.go:89
    refine G.v (V.asg rfl) rfl ?_
    refine G.nil ?_
    refine GC.ret1 rfl rfl fun w' hw' => ⟨?_, hw'⟩
    have h : i ≠ -1 := fun h => h4 h
    have h2 : i = -2 := of_decide_eq_true (by simpa using h6)
    rw [h2]; rfl
  refine GC.skip ?_
  refine GC.inBlock ?_
  refine GC.seq ?_
  refine GC.reg ?_  -- region 6, echo.go:91
  refine G.v (V.asg rfl) rfl ?_
  refine G.nil ?_
  refine GC.ret1 rfl rfl fun w' hw' => ⟨?_, hw'⟩
  have h : i ≠ -1 := fun h => h4 h
  have h2 : i ≠ -2 := fun h => h6 h
  simp [rank, h, h2]

theorem f42_any (w : World) (rt path : List UInt8) (hr : rt.length ≤ 90000) (hp : path.length ≤ 100000) : Calls Tryd.prog 42 #[S rt, S path] w fun e w' => ∃ v Hs, e = .returned (.tuple #[v, .bool (fitG (parts (ePath rt)) path []).2.1, .bool (fitG (parts (ePath rt)) path []).2.2]) ∧ Own 9 1 v (fitG (parts (ePath rt)) path []).1.length ((fitG (parts (ePath rt)) path []).1.map S) Hs ∧ HF w (fun _ => False) Hs w' := by
  refine enter (fun _ => False) [] Tryd.func42 rfl Tryd.ntmps42 rfl rfl (HF.start w _) fun c hc => ?_
  subst hc
  refine GC.seq ?_
  refine GC.reg ?_  -- region 0, echo.go:51
  refine G.v (V.asg rfl) rfl ?_
  refine G.v (V.asg rfl) rfl ?_
  refine G.v (V.asg rfl) rfl ?_
  refine G.nil ?_
  refine GC.seq ?_
  refine GC.reg ?_  -- region 1, echo.go:52
  refine G.v (V.mv rfl) rfl ?_
  refine G.callP Tryd.call21 rfl rfl (fun w1 hw1 => f21_any w1 rt (by omega)) ?_
  refine G.callW (fun v H2 => ∃ v1 v2, v = .tuple #[v1, v2] ∧ Own 9 1 v1 (parts (ePath rt)).length ((parts (ePath rt)).map S) H2) Tryd.call39 rfl rfl (fun w1 hw1 => ?_) ?_
  · have hl := ePath_len rt
    refine (f39_any w1 (ePath rt) (by omega)).mono fun e w' ⟨v1, v2, H1, H2, h1, h2, h3, h4⟩ => ⟨_, _, h1, ?_, v1, v2, rfl, h2⟩
    have := hw1.after0 h4 (fun e he => by
      rcases List.mem_append.1 he with he | he
      · exact h2.w e he
      · exact h3.w e he)
    rw [List.append_nil] at this
    exact this.sub (List.sublist_append_left _ _)
  rintro v H1 ⟨v1, v2, rfl, hown⟩
  obtain ⟨adp, cpp, rfl⟩ := hown.slice
  refine G.v (V.mv rfl) rfl ?_
  refine G.v (V.ex rfl rfl) rfl ?_
  refine G.v (V.ex rfl rfl) rfl ?_
  refine G.v (V.asg rfl) rfl ?_
  refine G.v (V.asg rfl) rfl ?_
  refine G.nil ?_
  refine GC.seq ?_
  refine GC.seq ?_
  refine GC.reg ?_  -- region 2, echo.go:53
  refine G.v (V.mv rfl) rfl ?_
  have hpc : (parts (ePath rt)).length ≤ 1000000 := by
    have key : ∀ (u : List Tok) (acc : List UInt8), (grp acc u).length ≤ 2 * u.length + 1 := by
      intro u
      induction u with
      | nil => intro acc; simp only [grp, txt]; split <;> simp
      | cons t u ih =>
        intro acc
        have htx : (txt acc).length ≤ 1 := by unfold txt; split <;> simp
        cases t with
        | b c => have := ih (acc ++ [c]); simp only [grp, List.length_cons]; omega
        | P => have := ih []; simp only [grp, List.length_append, List.length_cons]; omega
        | A => have := ih []; simp only [grp, List.length_append, List.length_cons]; omega
    have h1 := key (prs (ePath rt) none).1 []
    have h2 := prs_len (ePath rt) none
    have h3 := ePath_len rt
    show (grp [] (prs (ePath rt) none).1).length ≤ _
    omega
  refine G.v (V.lenL Tryd.underlying24 rfl) rfl ?_
  refine G.v (V.mv rfl) rfl ?_
  refine G.nil ?_
  refine GC.block ?_
  refine GC.loopJ (fun N fr' H' => ∃ j s vs sv Hs, j + N = (parts (ePath rt)).length ∧ fitG ((parts (ePath rt)).drop j) s vs = fitG (parts (ePath rt)) path [] ∧ s.length ≤ path.length ∧ vs.length ≤ j ∧ Own 9 1 sv vs.length (vs.map S) Hs ∧ Sub [(18, .slice adp (parts (ePath rt)).length cpp), (19, I ((parts (ePath rt)).length : Nat)), (20, I ((j : Nat) : Int)), (1, S s), (4, sv), (7, .slice adp (parts (ePath rt)).length cpp)] fr' ∧ H' = H1 ++ Hs) (parts (ePath rt)).length
    ⟨0, path, [], _, [], by omega, by rw [List.drop_zero], Nat.le_refl _, Nat.le_refl _, .nil, .cons rfl (.cons rfl (.cons rfl (.cons rfl (.cons rfl (.cons rfl .nil))))), by rw [List.append_nil]⟩ ?_
  rintro N fr' H' ⟨j, s, vs, sv, Hs, hj, hfit, hsl, hvl, howns, hs, rfl⟩ ih
  refine GC.weak hs ?_
  clear hs
  obtain ⟨ads, cps, rfl⟩ := howns.slice
  refine GC.seq ?_
  refine GC.reg ?_  -- region 3, echo.go:53
  refine G.v (V.lt rfl rfl) rfl ?_
  refine G.nil ?_
  refine GC.seq ?_
  refine GC.condD rfl (fun h21 => ?_) (fun h21 => ?_)
  · refine GC.skip ?_
    refine GC.seq ?_
    refine GC.block ?_
    refine GC.seq ?_
    have hlt : j < (parts (ePath rt)).length := by omega
    obtain ⟨x, hx⟩ : ∃ x, (parts (ePath rt))[j]? = some x := ⟨_, List.getElem?_eq_getElem hlt⟩
    have hdx := drop_cons hx
    rw [hdx] at hfit
    have hxl : x.length ≤ 100000 := by
      have h1 : x.length ≤ (parts (ePath rt)).flatten.length := by
        have := flat_take_le (parts (ePath rt)) (j + 1)
        rw [List.take_add_one, hx, List.flatten_append, List.length_append] at this
        simp only [Option.toList, List.flatten_cons, List.flatten_nil, List.append_nil] at this
        omega
      rw [parts_flat] at h1
      have h2 := prs_len (ePath rt) none
      have h3 := ePath_len rt
      simp only [tb, List.length_map] at h1
      omega
    have hldx : ∃ bp, adp = some ⟨bp, 0, none⟩ ∧ ∃ sp, (⟨bp, true, .row ((parts (ePath rt)).map S ++ sp) 9 (0, 0)⟩ : Ent) ∈ H1 := by
      obtain ⟨bp, cpp2, sp, hve, hH1⟩ := hown.at (i := j) hlt
      simp only [Value.slice.injEq, true_and] at hve
      exact ⟨bp, hve.1, sp, by rw [hH1]; exact .head _⟩
    obtain ⟨bp, rfl, sp, hbm⟩ := hldx
    refine GC.reg ?_  -- region 4, echo.go:53
    refine G.v (V.mv rfl) rfl ?_
    refine G.v (V.ia (i := j) Tryd.underlying24 Tryd.sizeOf9 rfl rfl hlt) rfl ?_
    refine G.v (V.ld (b := bp) (off := 0 + j * 1) (wf := true) (l := (parts (ePath rt)).map S ++ sp) (T := 9) (fz := (0, 0)) (v := S x) Tryd.isAgg9 rfl (List.mem_append_left _ hbm) (by rw [nth_eq, Nat.zero_add, Nat.mul_one, List.getElem?_append_left (by simp; omega), List.getElem?_map, hx]; rfl)) rfl ?_
    refine G.v (V.asg rfl) rfl ?_
    refine G.v (V.asg rfl) rfl ?_
    refine G.nil ?_
    refine GC.seq ?_
    refine GC.reg ?_  -- region 5, echo.go:54
    refine G.v (V.mv rfl) rfl ?_
    refine G.nil ?_
    refine GC.block ?_
    refine GC.seq ?_
    refine GC.reg ?_  -- region 9, echo.go:55
    refine G.v (V.eqS rfl rfl) rfl ?_
    refine G.v (V.asg rfl) rfl ?_
    refine G.nil ?_
    refine GC.condD rfl (fun h43 => ?_) (fun h43 => ?_)
    · refine GC.seq ?_
      refine GC.reg ?_  -- region 10, echo.go:56
      refine G.v (V.asg rfl) rfl ?_
      refine G.nil ?_
      refine GC.seq ?_
      refine GC.join (fun fr' H' => upTo s ≤ s.length ∧ Sub [(18, .slice (some ⟨bp, 0, none⟩) (parts (ePath rt)).length cpp), (19, I ((parts (ePath rt)).length : Nat)), (20, I ((j : Nat) : Int)), (1, S s), (4, .slice ads vs.length cps), (7, .slice (some ⟨bp, 0, none⟩) (parts (ePath rt)).length cpp), (9, I ((j : Nat) : Int)), (11, I ((upTo s : Nat) : Int))] fr' ∧ H' = H1 ++ Hs) (fun J3 => ?_) ?_
      · refine GC.block ?_
        refine GC.loopJ (fun M fr' H' => ∃ n, n + M = s.length ∧ (∀ k c, k < n → s[k]? = some c → c ≠ 47) ∧ Sub [(18, .slice (some ⟨bp, 0, none⟩) (parts (ePath rt)).length cpp), (19, I ((parts (ePath rt)).length : Nat)), (20, I ((j : Nat) : Int)), (1, S s), (4, .slice ads vs.length cps), (7, .slice (some ⟨bp, 0, none⟩) (parts (ePath rt)).length cpp), (9, I ((j : Nat) : Int)), (11, I ((n : Nat) : Int))] fr' ∧ H' = H1 ++ Hs) s.length
          ⟨0, by omega, fun k c h => by omega, .cons rfl (.cons rfl (.cons rfl (.cons rfl (.cons rfl (.cons rfl (.cons rfl (.cons rfl .nil))))))), rfl⟩ ?_
        rintro M fr' H' ⟨n, hn, hno, hs, rfl⟩ ih2
        refine GC.weak hs ?_
        clear hs
        refine GC.seq ?_
        refine GC.seq ?_
        refine GC.reg ?_  -- region 11, echo.go:57
        refine G.v (V.mv rfl) rfl ?_
        refine G.v (V.mv rfl) rfl ?_
        refine G.v (V.lenS Tryd.underlying9 rfl) rfl ?_
        refine G.v (V.lt rfl rfl) rfl ?_
        refine G.v (V.mv rfl) rfl ?_
        refine G.bc 49 rfl (fun h49 => ?_) (fun h49 => ?_)
        · have hltn : n < s.length := by simp at h49; omega
          obtain ⟨y, hy⟩ : ∃ y, s[n]? = some y := ⟨_, List.getElem?_eq_getElem hltn⟩
          refine G.vg rfl rfl (V.mv rfl) rfl ?_
          refine G.vg rfl rfl (V.mv rfl) rfl ?_
          refine G.vg rfl rfl (V.idx Tryd.underlying9 rfl rfl hy) rfl ?_
          refine G.vg rfl rfl (V.neI rfl rfl) rfl ?_
          refine G.v (V.pickT rfl rfl) rfl ?_
          refine G.nil ?_
          refine GC.cond rfl (fun h54 => ?_) (fun h54 => ?_)
          · refine GC.skip ?_
            refine GC.block ?_
            refine GC.reg ?_  -- region 12, echo.go:58
            refine G.v (V.mv rfl) rfl ?_
            refine G.v (V.addI rfl rfl rfl (by omega) (by omega)) rfl ?_
            refine G.v (V.asg rfl) rfl ?_
            refine G.nil ?_
            refine GC.inBlock ?_
            have hy47 : y ≠ 47 := fun h => by subst h; simp at h54
            refine ih2 (M - 1) _ _ (by omega) ⟨n + 1, by omega, fun k c hk hc => ?_, .cons rfl (.cons rfl (.cons rfl (.cons rfl (.cons rfl (.cons rfl (.cons rfl (.cons rfl .nil))))))), rfl⟩
            by_cases hkn : k < n
            · exact hno k c hkn hc
            · have : k = n := by omega
              subst this
              rw [hy] at hc
              cases hc
              exact hy47
          refine GC.exit rfl ?_
          have hy47 : y = 47 := UInt8.toNat_inj.1 (show y.toNat = 47 by simp at h54; omega)
          have hu := upTo_scan hno (.inr (hy47 ▸ hy))
          exact J3 _ _ ⟨upTo_le s, by rw [hu]; exact .cons rfl (.cons rfl (.cons rfl (.cons rfl (.cons rfl (.cons rfl (.cons rfl (.cons rfl .nil))))))), rfl⟩
        · refine G.sg rfl rfl rfl rfl rfl rfl ?_
          refine G.sg rfl rfl rfl rfl rfl rfl ?_
          refine G.sg rfl rfl rfl rfl rfl rfl ?_
          refine G.sg rfl rfl rfl rfl rfl rfl ?_
          refine G.v (V.pickF rfl rfl) rfl ?_
          refine G.nil ?_
          refine GC.condF rfl ?_
          refine GC.exit rfl ?_
          have hle : n = s.length := by simp at h49; omega
          have hu := upTo_scan hno (.inl hle)
          exact J3 _ _ ⟨upTo_le s, by rw [hu]; exact .cons rfl (.cons rfl (.cons rfl (.cons rfl (.cons rfl (.cons rfl (.cons rfl (.cons rfl .nil))))))), rfl⟩
      rintro fr' H' ⟨hul, hs3, rfl⟩
      refine GC.weak hs3 ?_
      clear hs3
      refine GC.seq ?_
      refine GC.seq ?_
      refine GC.join (fun fr' H' => ∃ b : Bool, (b = true ↔ (parts (ePath rt)).drop (j + 1) = [] ∧ upTo s < s.length) ∧ Sub [(18, .slice (some ⟨bp, 0, none⟩) (parts (ePath rt)).length cpp), (19, I ((parts (ePath rt)).length : Nat)), (20, I ((j : Nat) : Int)), (1, S s), (4, .slice ads vs.length cps), (7, .slice (some ⟨bp, 0, none⟩) (parts (ePath rt)).length cpp), (9, I ((j : Nat) : Int)), (11, I ((upTo s : Nat) : Int)), (67, .bool b)] fr' ∧ H' = H1 ++ Hs) (fun J13 => ?_) ?_
      · refine GC.reg ?_  -- region 13, echo.go:60
        refine G.v (V.mv rfl) rfl ?_
        refine G.v (V.mv rfl) rfl ?_
        refine G.v (V.lenL Tryd.underlying24 rfl) rfl ?_
        refine G.v (V.subI rfl rfl rfl (by omega) (by omega)) rfl ?_
        refine G.v (V.eqI rfl rfl) rfl ?_
        refine G.v (V.mv rfl) rfl ?_
        refine G.bc 62 rfl (fun h62 => ?_) (fun h62 => ?_)
        · refine G.vg rfl rfl (V.mv rfl) rfl ?_
          refine G.vg rfl rfl (V.mv rfl) rfl ?_
          refine G.vg rfl rfl (V.lenS Tryd.underlying9 rfl) rfl ?_
          refine G.vg rfl rfl (V.lt rfl rfl) rfl ?_
          refine G.v (V.pickT rfl rfl) rfl ?_
          refine G.nil ?_
          have hlast : (parts (ePath rt)).drop (j + 1) = [] := List.drop_eq_nil_of_le (by simp at h62; omega)
          exact J13 _ _ ⟨decide (((upTo s : Nat) : Int) < (s.length : Nat)), ⟨fun h => ⟨hlast, by have := of_decide_eq_true h; omega⟩, fun h => decide_eq_true (by omega)⟩, .cons rfl (.cons rfl (.cons rfl (.cons rfl (.cons rfl (.cons rfl (.cons rfl (.cons rfl (.cons rfl .nil)))))))), rfl⟩
        · refine G.sg rfl rfl rfl rfl rfl rfl ?_
          refine G.sg rfl rfl rfl rfl rfl rfl ?_
          refine G.sg rfl rfl rfl rfl rfl rfl ?_
          refine G.sg rfl rfl rfl rfl rfl rfl ?_
          refine G.v (V.pickF rfl rfl) rfl ?_
          refine G.nil ?_
          have hlast : (parts (ePath rt)).drop (j + 1) ≠ [] := fun h => by
            have := congrArg List.length h
            simp only [List.length_drop, List.length_nil] at this
            have h62' := of_decide_eq_false h62
            omega
          exact J13 _ _ ⟨_, ⟨fun h => (by cases h), fun h => absurd h.1 hlast⟩, .cons rfl (.cons rfl (.cons rfl (.cons rfl (.cons rfl (.cons rfl (.cons rfl (.cons rfl (.cons rfl .nil)))))))), rfl⟩
      rintro fr' H' ⟨b67, hb67, hs13, rfl⟩
      refine GC.weak hs13 ?_
      clear hs13
      refine GC.cond rfl (fun h67 => ?_) (fun h67 => ?_)
      · refine GC.seq ?_
        refine GC.reg ?_  -- region 14, echo.go:61
        refine G.v (V.asg rfl) rfl ?_
        refine G.v (V.asg rfl) rfl ?_
        refine G.v (V.asg rfl) rfl ?_
        refine G.nil ?_
        have hx58 : x = [58] := by simpa using h43
        subst hx58
        have hc := hb67.1 h67
        have hres : fitG (parts (ePath rt)) path [] = ([], false, true) := by rw [← hfit]; simp only [fitG, if_true]; rw [if_pos hc]
        refine GC.retR (v := .tuple #[.slice none 0 0, .bool false, .bool true]) (fun a w1 ha hw1 => ?_) fun w' hw' => ⟨.slice none 0 0, [], ?_, ?_, ?_⟩
        · have g4 := ha.at_ 4 (.slice none 0 0) rfl
          have g5 := ha.at_ 5 (.bool false) rfl
          have g6 := ha.at_ 6 (.bool true) rfl
          simp [results, g4, g5, g6]
        · rw [hres]
        · rw [hres]; exact .nil
        · exact hw'.sub (List.nil_sublist _)
      refine GC.skip ?_
      refine GC.seq ?_
      refine GC.seq ?_
      refine GC.reg ?_  -- region 15, echo.go:63
      refine G.v (V.mv rfl) rfl ?_
      refine G.v (V.eqI rfl rfl) rfl ?_
      refine G.nil ?_
      refine GC.condD rfl (fun h69 => ?_) (fun h69 => ?_)
      · refine GC.seq ?_
        refine GC.reg ?_  -- region 16, echo.go:64
        refine G.v (V.asg rfl) rfl ?_
        refine G.v (V.asg rfl) rfl ?_
        refine G.v (V.asg rfl) rfl ?_
        refine G.nil ?_
        have hx58 : x = [58] := by simpa using h43
        subst hx58
        have hc : ¬ ((parts (ePath rt)).drop (j + 1) = [] ∧ upTo s < s.length) := fun h => by rw [hb67.2 h] at h67; cases h67
        have h0 : upTo s = 0 := by omega
        have hres : fitG (parts (ePath rt)) path [] = ([], false, true) := by rw [← hfit]; simp only [fitG, if_true]; rw [if_neg hc, if_pos h0]
        refine GC.retR (v := .tuple #[.slice none 0 0, .bool false, .bool true]) (fun a w1 ha hw1 => ?_) fun w' hw' => ⟨.slice none 0 0, [], ?_, ?_, ?_⟩
        · have g4 := ha.at_ 4 (.slice none 0 0) rfl
          have g5 := ha.at_ 5 (.bool false) rfl
          have g6 := ha.at_ 6 (.bool true) rfl
          simp [results, g4, g5, g6]
        · rw [hres]
        · rw [hres]; exact .nil
        · exact hw'.sub (List.nil_sublist _)
      refine GC.skip ?_
      refine GC.join (fun fr' H' => ∃ sv' Hs', Own 9 1 sv' (vs ++ [s.take (upTo s)]).length ((vs ++ [s.take (upTo s)]).map S) Hs' ∧ Sub [(18, .slice (some ⟨bp, 0, none⟩) (parts (ePath rt)).length cpp), (19, I ((parts (ePath rt)).length : Nat)), (20, I ((j : Nat) : Int)), (1, S (s.drop (upTo s))), (4, sv'), (7, .slice (some ⟨bp, 0, none⟩) (parts (ePath rt)).length cpp)] fr' ∧ (∀ w1, HF w (fun _ => False) H' w1 → HF w (fun _ => False) (H1 ++ Hs') w1)) (fun J17 => ?_) ?_
      · refine GC.regA (fun _ => True) mixed ?_
        refine GA.p 0 rfl (by kernel_rfl) (fun _ _ => trivial) (fun _ => V.mv rfl) rfl ?_
        refine GA.p 1 rfl (by kernel_rfl) (fun _ _ => trivial) (fun _ => V.mv rfl) rfl ?_
        refine GA.p 2 rfl (by kernel_rfl) (fun _ _ => trivial) (fun _ => V.mv rfl) rfl ?_
        refine GA.p 3 rfl (by kernel_rfl) (fun _ _ => trivial) (fun _ => V.slH Tryd.underlying9 rfl rfl hul) rfl ?_
        refine GA.p 6 rfl (by kernel_rfl) (fun _ _ => trivial) (fun _ => V.mv rfl) rfl ?_
        refine GA.p 7 rfl (by kernel_rfl) (fun _ _ => trivial) (fun _ => V.mv rfl) rfl ?_
        refine GA.p 8 rfl (by kernel_rfl) (fun _ _ => trivial) (fun _ => V.slL Tryd.underlying9 rfl rfl hul) rfl ?_
        refine GA.one 4 rfl (by kernel_rfl) ?_
        refine GB.bs (BS.one Tryd.underlying24 Tryd.sizeOf9 Tryd.zeroValue9 (v := S (s.take (upTo s))) rfl) rfl (fun _ _ => trivial) rfl (fun tb => ?_)
        refine GA.one 5 rfl (by kernel_rfl) ?_
        refine GB.app (i := Tryd.t9) (sz := 1) (by_ := 16) Tryd.underlying24 rfl rfl rfl rfl rfl rfl rfl howns (H' := [⟨tb, true, .row [S (s.take (upTo s))] 9 (0, 0)⟩] ++ H1) ?_ (src_row (vs := [S (s.take (upTo s))]) (r := []) (.head _)) rfl (by simp [Value.oneCell']) (by omega) (by omega) (by omega) (fun _ _ => trivial) rfl (fun sv' Hs' hown' => ?_)
        · have p0 := perm_idx [[(⟨tb, true, .row [S (s.take (upTo s))] 9 (0, 0)⟩ : Ent)], H1, Hs] [0, 1, 2] [2, 0, 1] (by decide)
          exact List.Perm.trans (.of_eq (by simp)) (p0.trans (.of_eq (by simp)))
        refine GA.one 9 rfl (by kernel_rfl) ?_
        refine GB.v (V.asg rfl) (fun _ _ => trivial) rfl ?_
        refine GA.one 10 rfl (by kernel_rfl) ?_
        refine GB.v (V.asg rfl) (fun _ _ => trivial) rfl ?_
        refine GA.done (by kernel_rfl) ?_
        exact J17 _ _ ⟨sv', Hs', by rw [List.length_append, List.map_append]; exact hown', .cons rfl (.cons rfl (.cons rfl (.cons rfl (.cons rfl (.cons rfl .nil))))), fun w1 h => h.sub (List.sublist_cons_self _ _)⟩
      rintro fr' H' ⟨sv', Hs', hown', hs17, hH17⟩
      refine GC.weak hs17 ?_
      clear hs17
      refine GC.turn hH17 ?_
      refine GC.inBlock ?_
      refine GC.inBlock ?_
      refine GC.reg ?_  -- region 20, echo.go:53
      refine G.v (V.addI rfl rfl rfl (by omega) (by omega)) rfl ?_
      refine G.v (V.mv rfl) rfl ?_
      refine G.nil ?_
      have hx58 : x = [58] := by simpa using h43
      subst hx58
      have hc : ¬ ((parts (ePath rt)).drop (j + 1) = [] ∧ upTo s < s.length) := fun h => by rw [hb67.2 h] at h67; cases h67
      have h0 : ¬ upTo s = 0 := fun h => h69 (by rw [h]; rfl)
      refine ih (N - 1) _ _ (by omega) ⟨j + 1, s.drop (upTo s), vs ++ [s.take (upTo s)], sv', Hs', by omega, ?_, by rw [List.length_drop]; omega, by rw [List.length_append, List.length_singleton]; omega, hown', .cons rfl (.cons rfl (.cons rfl (.cons rfl (.cons rfl (.cons rfl .nil))))), rfl⟩
      rw [← hfit]; simp only [fitG, if_true]; rw [if_neg hc, if_neg h0]
    refine GC.seq ?_
    refine GC.reg ?_  -- region 18, echo.go:67
    refine G.v (V.eqS rfl rfl) rfl ?_
    refine G.v (V.asg rfl) rfl ?_
    refine G.nil ?_
    refine GC.condD rfl (fun h79 => ?_) (fun h79 => ?_)
    · refine GC.seq ?_
      refine GC.reg ?_  -- region 19, echo.go:68
      refine G.v (V.mv rfl) rfl ?_
      refine G.v (V.mv rfl) rfl ?_
      refine G.bs (BS.one Tryd.underlying24 Tryd.sizeOf9 Tryd.zeroValue9 (v := S s) rfl) rfl rfl (fun tb htb => ?_)
      refine G.app (i := Tryd.t9) (sz := 1) (by_ := 16) Tryd.underlying24 rfl rfl rfl rfl rfl rfl rfl howns (H' := [⟨tb, true, .row [S s] 9 (0, 0)⟩] ++ H1) ?_ (src_row (vs := [S s]) (r := []) (.head _)) rfl (by simp [Value.oneCell']) (by omega) (by omega) (by omega) rfl (fun sv' Hs' hown' => ?_)
      · have p0 := perm_idx [[(⟨tb, true, .row [S s] 9 (0, 0)⟩ : Ent)], H1, Hs] [0, 1, 2] [2, 0, 1] (by decide)
        exact List.Perm.trans (.of_eq (by simp)) (p0.trans (.of_eq (by simp)))
      refine G.v (V.mv rfl) rfl ?_
      refine G.v (V.neS rfl rfl) rfl ?_
      refine G.v (V.mv rfl) rfl ?_
      refine G.v (V.eqS rfl rfl) rfl ?_
      refine G.v (V.asg rfl) rfl ?_
      refine G.v (V.asg rfl) rfl ?_
      refine G.v (V.asg rfl) rfl ?_
      refine G.nil ?_
      have hx58 : x ≠ [58] := by simpa using h43
      have hx42 : x = [42] := by simpa using h79
      subst hx42
      have hres : fitG (parts (ePath rt)) path [] = (vs ++ [s], !decide (s = []), decide (s = [])) := by rw [← hfit]; simp only [fitG]; rw [if_neg hx58]; simp
      refine GC.retR (v := .tuple #[sv', .bool (!decide (s = [])), .bool (decide (s = []))]) (fun a w1 ha hw1 => ?_) fun w' hw' => ⟨sv', Hs', ?_, ?_, ?_⟩
      · have g4 := ha.at_ 4 (sv') rfl
        have g5 := ha.at_ 5 (.bool (!decide (s = []))) rfl
        have g6 := ha.at_ 6 (.bool (decide (s = []))) rfl
        simp [results, g4, g5, g6]
      · rw [hres]
      · rw [hres]; exact (by rw [List.length_append, List.map_append]; exact hown')
      · exact hw'.sub (List.sublist_append_right _ _)
    refine GC.seq ?_
    refine GC.seq ?_
    refine GC.join (fun fr' H' => ∃ b : Bool, (b = true ↔ s.length < x.length ∨ s.take x.length ≠ x) ∧ Sub [(18, .slice (some ⟨bp, 0, none⟩) (parts (ePath rt)).length cpp), (19, I ((parts (ePath rt)).length : Nat)), (20, I ((j : Nat) : Int)), (1, S s), (4, .slice ads vs.length cps), (7, .slice (some ⟨bp, 0, none⟩) (parts (ePath rt)).length cpp), (10, S x), (38, .bool b)] fr' ∧ H' = H1 ++ Hs) (fun J6 => ?_) ?_
    · refine GC.reg ?_  -- region 6, echo.go:70
      refine G.v (V.mv rfl) rfl ?_
      refine G.v (V.lenS Tryd.underlying9 rfl) rfl ?_
      refine G.v (V.mv rfl) rfl ?_
      refine G.v (V.lenS Tryd.underlying9 rfl) rfl ?_
      refine G.v (V.lt rfl rfl) rfl ?_
      refine G.v (V.mv rfl) rfl ?_
      refine G.bc 31 rfl (fun h31 => ?_) (fun h31 => ?_)
      · refine G.sg rfl rfl rfl rfl rfl rfl ?_
        refine G.sg rfl rfl rfl rfl rfl rfl ?_
        refine G.sg rfl rfl rfl rfl rfl rfl ?_
        refine G.sg rfl rfl rfl rfl rfl rfl ?_
        refine G.sg rfl rfl rfl rfl rfl rfl ?_
        refine G.sg rfl rfl rfl rfl rfl rfl ?_
        refine G.v (V.pickT rfl rfl) rfl ?_
        refine G.nil ?_
        exact J6 _ _ ⟨_, ⟨fun _ => .inl (by have := of_decide_eq_true h31; omega), fun _ => rfl⟩, .cons rfl (.cons rfl (.cons rfl (.cons rfl (.cons rfl (.cons rfl (.cons rfl (.cons rfl .nil))))))), rfl⟩
      · refine G.vg rfl rfl (V.mv rfl) rfl ?_
        refine G.vg rfl rfl (V.mv rfl) rfl ?_
        refine G.vg rfl rfl (V.lenS Tryd.underlying9 rfl) rfl ?_
        have hle38 : x.length ≤ s.length := by have := of_decide_eq_false h31; omega
        refine G.vg rfl rfl (V.slH Tryd.underlying9 rfl rfl hle38) rfl ?_
        refine G.vg rfl rfl (V.mv rfl) rfl ?_
        refine G.vg rfl rfl (V.neS rfl rfl) rfl ?_
        refine G.v (V.pickF rfl rfl) rfl ?_
        refine G.nil ?_
        exact J6 _ _ ⟨!decide (s.take x.length = x), ⟨fun h => .inr (by simpa using h), fun h => by have := h.resolve_left (by omega); simpa using this⟩, .cons rfl (.cons rfl (.cons rfl (.cons rfl (.cons rfl (.cons rfl (.cons rfl (.cons rfl .nil))))))), rfl⟩
    rintro fr' H' ⟨b38, hb38, hs6, rfl⟩
    refine GC.weak hs6 ?_
    clear hs6
    refine GC.cond rfl (fun h38 => ?_) (fun h38 => ?_)
    · refine GC.seq ?_
      refine GC.reg ?_  -- region 7, echo.go:71
      refine G.v (V.asg rfl) rfl ?_
      refine G.v (V.asg rfl) rfl ?_
      refine G.v (V.asg rfl) rfl ?_
      refine G.nil ?_
      have hx58 : x ≠ [58] := by simpa using h43
      have hx42 : x ≠ [42] := by simpa using h79
      have hres : fitG (parts (ePath rt)) path [] = ([], false, false) := by rw [← hfit]; simp only [fitG]; rw [if_neg hx58, if_neg hx42, if_pos (hb38.1 h38)]
      refine GC.retR (v := .tuple #[.slice none 0 0, .bool false, .bool false]) (fun a w1 ha hw1 => ?_) fun w' hw' => ⟨.slice none 0 0, [], ?_, ?_, ?_⟩
      · have g4 := ha.at_ 4 (.slice none 0 0) rfl
        have g5 := ha.at_ 5 (.bool false) rfl
        have g6 := ha.at_ 6 (.bool false) rfl
        simp [results, g4, g5, g6]
      · rw [hres]
      · rw [hres]; exact .nil
      · exact hw'.sub (List.nil_sublist _)
    refine GC.skip ?_
    refine GC.reg ?_  -- region 8, echo.go:73
    have hc38 : ¬ (s.length < x.length ∨ s.take x.length ≠ x) := fun h => by rw [hb38.2 h] at h38; cases h38
    have hle8 : x.length ≤ s.length := by
      by_cases h : s.length < x.length
      · exact absurd (.inl h) hc38
      · omega
    refine G.v (V.mv rfl) rfl ?_
    refine G.v (V.mv rfl) rfl ?_
    refine G.v (V.lenS Tryd.underlying9 rfl) rfl ?_
    refine G.v (V.slL Tryd.underlying9 rfl rfl hle8) rfl ?_
    refine G.v (V.asg rfl) rfl ?_
    refine G.nil ?_
    refine GC.inBlock ?_
    refine GC.inBlock ?_
    refine GC.reg ?_  -- region 20, echo.go:53
    refine G.v (V.addI rfl rfl rfl (by omega) (by omega)) rfl ?_
    refine G.v (V.mv rfl) rfl ?_
    refine G.nil ?_
    have hx58 : x ≠ [58] := by simpa using h43
    have hx42 : x ≠ [42] := by simpa using h79
    refine ih (N - 1) _ _ (by omega) ⟨j + 1, s.drop x.length, vs, _, Hs, by omega, ?_, by rw [List.length_drop]; omega, by omega, howns, .cons rfl (.cons rfl (.cons rfl (.cons rfl (.cons rfl (.cons rfl .nil))))), rfl⟩
    rw [← hfit]; simp only [fitG]; rw [if_neg hx58, if_neg hx42, if_neg hc38]
  refine GC.exit rfl ?_
  refine GC.seq ?_
  refine GC.reg ?_  -- region 21, echo.go:76
  refine G.v (V.mv rfl) rfl ?_
  refine G.v (V.mv rfl) rfl ?_
  refine G.v (V.eqS rfl rfl) rfl ?_
  refine G.v (V.asg rfl) rfl ?_
  refine G.v (V.asg rfl) rfl ?_
  refine G.v (V.asg rfl) rfl ?_
  refine G.nil ?_
  have hjl : (parts (ePath rt)).drop j = [] := List.drop_eq_nil_of_le (by omega)
  rw [hjl] at hfit
  have hres : fitG (parts (ePath rt)) path [] = (vs, decide (s = []), false) := by rw [← hfit]; rfl
  refine GC.retR (v := .tuple #[.slice ads vs.length cps, .bool (decide (s = [])), .bool false]) (fun a w1 ha hw1 => ?_) fun w' hw' => ⟨.slice ads vs.length cps, Hs, ?_, ?_, ?_⟩
  · have g4 := ha.at_ 4 (.slice ads vs.length cps) rfl
    have g5 := ha.at_ 5 (.bool (decide (s = []))) rfl
    have g6 := ha.at_ 6 (.bool false) rfl
    simp [results, g4, g5, g6]
  · rw [hres]
  · rw [hres]; exact howns
  · exact hw'.sub (List.sublist_append_right _ _)
end Go.Proofs

/- The search finds the route that is preferred of those that a path fits. No program in sight. -/
namespace Bw
open Go Go.Proofs

def fitT : List Tok → List UInt8 → List (List UInt8) → List (List UInt8) × Bool × Bool
  | [], s, vs => (vs, decide (s = []), false)
  | .b c :: u, s, vs => match s with
    | c' :: s' => if c' = c then fitT u s' vs else ([], false, false)
    | [] => ([], false, false)
  | .P :: u, s, vs => if u = [] ∧ upTo s < s.length then ([], false, true) else if upTo s = 0 then ([], false, true) else fitT u (s.drop (upTo s)) (vs ++ [s.take (upTo s)])
  | .A :: _, s, vs => (vs ++ [s], !decide (s = []), decide (s = []))

theorem grp_nil : ∀ (u : List Tok) (acc : List UInt8), grp acc u = [] → acc = [] ∧ u = []
  | [], acc, h => by
    simp only [grp, txt] at h
    split at h
    · rename_i h1; exact ⟨h1, rfl⟩
    · cases h
  | .b c :: u, acc, h => by
    rw [grp] at h
    have := (grp_nil u _ h).1
    simp at this
  | .P :: u, acc, h => by rw [grp] at h; simp at h
  | .A :: u, acc, h => by rw [grp] at h; simp at h

theorem fit_txt {acc : List UInt8} {rest : List (List UInt8)} {s : List UInt8} {vs : List (List UInt8)} (hok : ∀ c ∈ acc, c ≠ 58 ∧ c ≠ 42) : fitG (txt acc ++ rest) s vs = if acc <+: s then fitG rest (s.drop acc.length) vs else ([], false, false) := by
  unfold txt
  by_cases h0 : acc = []
  · rw [if_pos h0, h0]; simp
  · rw [if_neg h0]
    have h58 : acc ≠ [58] := fun h => (hok 58 (by rw [h]; exact .head _)).1 rfl
    have h42 : acc ≠ [42] := fun h => (hok 42 (by rw [h]; exact .head _)).2 rfl
    simp only [List.singleton_append, fitG]
    rw [if_neg h58, if_neg h42]
    by_cases hp : acc <+: s
    · have hc : ¬ (s.length < acc.length ∨ s.take acc.length ≠ acc) := by
        rintro (h | h)
        · have := hp.length_le; omega
        · exact h (List.prefix_iff_eq_take.1 hp).symm
      rw [if_pos hp, if_neg hc]
    · have hc : s.length < acc.length ∨ s.take acc.length ≠ acc := by
        by_cases hl : s.length < acc.length
        · exact .inl hl
        · exact .inr fun h => hp (by rw [← h]; exact List.take_prefix _ _)
      rw [if_neg hp, if_pos hc]

theorem fitG_grp : ∀ (u : List Tok) (acc s : List UInt8) (vs : List (List UInt8)), (∀ c ∈ acc, c ≠ 58 ∧ c ≠ 42) → (∀ t ∈ u, t.ok) → fitG (grp acc u) s vs = if acc <+: s then fitT u (s.drop acc.length) vs else ([], false, false)
  | [], acc, s, vs, hok, _ => by
    have := fit_txt (rest := []) (s := s) (vs := vs) hok
    rw [List.append_nil] at this
    rw [grp, this]; rfl
  | .b c :: u, acc, s, vs, hok, hu => by
    have hc : c ≠ 58 ∧ c ≠ 42 := hu (.b c) (.head _)
    rw [grp, fitG_grp u (acc ++ [c]) s vs (fun x hx => by
      rcases List.mem_append.1 hx with hx | hx
      · exact hok x hx
      · rw [List.mem_singleton.1 hx]; exact hc) (fun t ht => hu t (.tail _ ht))]
    by_cases hp : acc <+: s
    · obtain ⟨r, rfl⟩ := hp
      rw [if_pos (List.prefix_append _ _), List.drop_left]
      cases r with
      | nil =>
        rw [if_neg (fun h => by have := h.length_le; simp at this; omega)]
        rfl
      | cons c' r' =>
        by_cases hcc : c' = c
        · subst hcc
          rw [if_pos ⟨r', by simp⟩]
          simp only [fitT, if_true]
          rw [show (acc ++ c' :: r').drop (acc ++ [c']).length = r' by rw [show acc ++ c' :: r' = (acc ++ [c']) ++ r' by simp, List.drop_left]]
        · rw [if_neg (fun h => by
            have := (List.prefix_append_right_inj _).1 h
            exact hcc (List.cons_prefix_cons.1 this).1.symm)]
          simp [fitT, hcc]
    · rw [if_neg hp, if_neg (fun h => hp ((List.prefix_append _ _).trans h))]
  | .P :: u, acc, s, vs, hok, hu => by
    rw [grp, fit_txt hok]
    congr 1
    have ih := fitG_grp u [] ((s.drop acc.length).drop (upTo (s.drop acc.length))) (vs ++ [(s.drop acc.length).take (upTo (s.drop acc.length))]) (fun c hc => by cases hc) (fun t ht => hu t (.tail _ ht))
    rw [if_pos List.nil_prefix, List.length_nil, List.drop_zero] at ih
    simp only [fitG, if_true, fitT, ih]
    have hg : grp [] u = [] ↔ u = [] := ⟨fun h => (grp_nil u [] h).2, fun h => by rw [h]; rfl⟩
    simp only [hg]
  | .A :: u, acc, s, vs, hok, hu => by
    rw [grp, fit_txt hok]
    congr 1

theorem fit_parts {p : List UInt8} (s : List UInt8) : fitG (parts p) s [] = fitT (prs p none).1 s [] := by
  have := fitG_grp (prs p none).1 [] s [] (fun c hc => by cases hc) (prs_ok p none)
  rw [if_pos List.nil_prefix, List.length_nil, List.drop_zero] at this
  exact this

def rkT : Tok → Nat
  | .b _ => 0
  | .P => 1
  | .A => 2
def bet : List Tok → List Tok → Bool
  | [], [] => false
  | [], _ :: _ => true
  | _ :: _, [] => false
  | a :: u, b :: v => if a = b then bet u v else decide (rkT a < rkT b)

theorem plc_inj {a b : Tok} (h : plc a = plc b) : a = b := by
  cases a <;> cases b <;> simp only [plc] at h <;> first | rfl | omega | skip
  rename_i c d
  rw [UInt8.toNat_inj.1 (by omega : c.toNat = d.toNat)]
theorem betI_map : ∀ (u v : List Tok), betI (u.map plc) (v.map plc) = bet u v
  | [], [] => rfl
  | [], _ :: _ => rfl
  | _ :: _, [] => rfl
  | a :: u, b :: v => by
    simp only [List.map_cons, betI, bet]
    by_cases h : a = b
    · rw [if_pos h, if_pos (by rw [h]), betI_map u v]
    · rw [if_neg h, if_neg (fun e => h (plc_inj e))]
      rw [decide_eq_decide]
      have key : ∀ t : Tok, rank (plc t) = (rkT t : Int) := by
        intro t
        cases t with
        | b c =>
          have h1 : ¬ ((c.toNat : Int) = -1) := by omega
          have h2 : ¬ ((c.toNat : Int) = -2) := by omega
          simp [rank, plc, rkT, h1, h2]
        | P => rfl
        | A => rfl
      rw [key, key]
      omega
theorem pls_txt {acc : List UInt8} (hok : ∀ c ∈ acc, c ≠ 58 ∧ c ≠ 42) : (txt acc).flatMap pls = acc.map fun c => (c.toNat : Int) := by
  unfold txt
  split
  · rename_i h; rw [h]; rfl
  · have h58 : acc ≠ [58] := fun h => (hok 58 (by rw [h]; exact .head _)).1 rfl
    have h42 : acc ≠ [42] := fun h => (hok 42 (by rw [h]; exact .head _)).2 rfl
    simp [pls, h58, h42]
theorem pls_grp : ∀ (u : List Tok) (acc : List UInt8), (∀ c ∈ acc, c ≠ 58 ∧ c ≠ 42) → (∀ t ∈ u, t.ok) → (grp acc u).flatMap pls = (acc.map fun c => (c.toNat : Int)) ++ u.map plc
  | [], acc, hok, _ => by rw [grp, pls_txt hok]; simp
  | .b c :: u, acc, hok, hu => by
    have hc : c ≠ 58 ∧ c ≠ 42 := hu (.b c) (.head _)
    rw [grp, pls_grp u (acc ++ [c]) (fun x hx => by
      rcases List.mem_append.1 hx with hx | hx
      · exact hok x hx
      · rw [List.mem_singleton.1 hx]; exact hc) (fun t ht => hu t (.tail _ ht))]
    simp [plc]
  | .P :: u, acc, hok, hu => by
    rw [grp, List.flatMap_append, pls_txt hok, List.flatMap_cons, pls_grp u [] (fun c hc => by cases hc) (fun t ht => hu t (.tail _ ht))]
    rfl
  | .A :: u, acc, hok, hu => by
    rw [grp, List.flatMap_append, pls_txt hok, List.flatMap_cons, pls_grp u [] (fun c hc => by cases hc) (fun t ht => hu t (.tail _ ht))]
    rfl
theorem pls_parts (p : List UInt8) : (parts p).flatMap pls = (prs p none).1.map plc := by
  have := pls_grp (prs p none).1 [] (fun c hc => by cases hc) (prs_ok p none)
  simpa [parts] using this
end Bw

/- The search, where all routes have one method and none fits loosely. No program in sight. -/
namespace Bw
open Go Go.Proofs

section
variable {α : Type} {tk : α → List Tok} {m : α → List UInt8} {l : List α} {meth : List UInt8}

/-- what the search comes to -/
def Best (tk : α → List Tok) (l : List α) (p : List Tok) (s : List UInt8) (vs : List (List UInt8)) (o : VOk α) : Prop :=
  (∃ k u, k ∈ l ∧ tk k = p ++ u ∧ (fitT u s vs).2.1 = true ∧ o = .stop (.hit k (fitT u s vs).1) ∧ ∀ k' u', k' ∈ l → tk k' = p ++ u' → (fitT u' s vs).2.1 = true → k' = k ∨ (bet u u' = true ∧ bet u' u = false)) ∨
  (o = .back none ∧ ∀ k u, k ∈ l → tk k = p ++ u → (fitT u s vs).2.1 = false)

theorem prefix_cons_of {p : List Tok} {t : Tok} {q : List Tok} (h : p ++ [t] <+: q) : ∃ u, q = p ++ t :: u := by
  obtain ⟨u, hu⟩ := h
  exact ⟨u, by rw [← hu]; simp⟩

theorem search (hm : ∀ a ∈ l, m a = meth) (hnf : meth ≠ nfName) (hap : ∀ a ∈ l, ∀ b ∈ l, tk a = tk b → a = b) (_hok : ∀ a ∈ l, TkOk (tk a)) (hlen : ∀ a ∈ l, (tk a).length ≤ 200) :
    ∀ (f : Nat) (p : List Tok) (s : List UInt8) (vs : List (List UInt8)), 202 ≤ f + p.length → p.length ≤ 201 → (∀ k ∈ l, ∀ u, tk k = p ++ u → TkOk u) → (∀ k ∈ l, ∀ u, tk k = p ++ u → (fitT u s vs).2.2 = false) → Best tk l p s vs (visK (KOf tk m l) meth f p s vs none) := by
  intro f
  induction f with
  | zero => intro p s vs h1 h2; omega
  | succ f ih =>
    intro p s vs hf hpl hto hnl
    have hlook : ∀ q a, a ∈ l → tk a = q → (KOf tk m l).look meth q = some a := by
      intro q a ha hq
      show lookO tk m l meth q = some a
      cases h : lookO tk m l meth q with
      | none => exact absurd ⟨hq, hm a ha⟩ (lookO_none.1 h a ha)
      | some b =>
        obtain ⟨h1, h2, _⟩ := lookO_some h
        rw [hap b h1 a ha (h2.trans hq.symm)]
    have hlnf : ∀ q, (KOf tk m l).look nfName q = none := fun q => lookO_none.2 fun a ha h => hnf (by rw [← hm a ha, h.2])
    have hlk1 : ∀ q a, a ∈ l → tk a = q → (KOf tk m l).look1 meth q = some a := fun q a ha hq => by unfold Kn.look1; rw [if_neg hnf]; exact hlook q a ha hq
    have hHas : ∀ t, (KOf tk m l).has (p ++ [t]) → ∃ a ∈ l, ∃ u, tk a = p ++ t :: u := fun t ⟨a, ha, hp⟩ => by
      obtain ⟨u, hu⟩ := prefix_cons_of hp
      exact ⟨a, ha, u, hu⟩
    have hHas' : ∀ t a u, a ∈ l → tk a = p ++ t :: u → (KOf tk m l).has (p ++ [t]) := fun t a u ha hu => ⟨a, ha, by rw [hu]; exact ⟨u, by simp⟩⟩
    have hp200 : ∀ a ∈ l, ∀ t u, tk a = p ++ t :: u → p.length < 200 := fun a ha t u hu => by
      have := hlen a ha
      rw [hu] at this
      simp at this; omega
    cases s with
    | nil =>
      have hnot : ∀ k u, k ∈ l → tk k = p ++ u → u ≠ [] → (fitT u [] vs).2.1 = false := by
        intro k u hk hu h0
        cases u with
        | nil => exact absurd rfl h0
        | cons t u' =>
          cases t with
          | b c => rfl
          | P => simp [fitT, upTo]
          | A => simp [fitT]
      by_cases hH : (KOf tk m l).hasH p
      · obtain ⟨a, ha, hta, _⟩ := hH
        have hown : (KOf tk m l).own meth p [] vs = some (.hit a vs) := by
          unfold Kn.own
          rw [if_pos rfl, if_pos ⟨a, ha, hta, by rw [hm a ha]; exact hnf⟩, hlk1 p a ha hta]; rfl
        rw [visK_parts, hown]
        refine .inl ⟨a, [], ha, by rw [hta]; simp, rfl, rfl, fun k' u' hk' hu' hf' => .inl ?_⟩
        have : u' = [] := by
          by_cases h0 : u' = []
          · exact h0
          · rw [hnot k' u' hk' hu' h0] at hf'; cases hf'
        subst this
        exact hap k' hk' a ha (by rw [hu', hta]; simp)
      · have hown : (KOf tk m l).own meth p [] vs = none := by
          unfold Kn.own
          rw [if_pos rfl, if_neg hH, hlnf]; rfl
        have hbst : (KOf tk m l).bst p [] none = none := by unfold Kn.bst; rw [if_neg (fun h => hH h.2.1)]
        have hA : ¬ (KOf tk m l).has (p ++ [Tok.A]) := fun h => by
          obtain ⟨a, ha, u, hu⟩ := hHas _ h
          have := hnl a ha _ hu
          simp [fitT] at this
        have htx : ∀ g, (KOf tk m l).text g p [] none = .back none := fun g => rfl
        have hpr : ∀ g, (KOf tk m l).par g p [] none = .back none := fun g => by unfold Kn.par; rw [if_neg (fun h => h.1 rfl)]
        have han : (KOf tk m l).any meth p [] vs none = .back none := by unfold Kn.any; rw [if_neg hA]
        rw [visK_parts, hown]
        simp only
        rw [hbst, htx]
        simp only [VOk.then]
        rw [hpr]
        simp only
        rw [han]
        refine .inr ⟨rfl, fun k u hk hu => ?_⟩
        by_cases h0 : u = []
        · subst h0
          exact absurd ⟨k, hk, by rw [hu]; simp, by rw [hm k hk]; exact hnf⟩ hH
        · exact hnot k u hk hu h0
    | cons c s' =>
      have hown : (KOf tk m l).own meth p (c :: s') vs = none := by unfold Kn.own; rw [if_neg (by simp)]
      have hbst : (KOf tk m l).bst p (c :: s') none = none := by unfold Kn.bst; rw [if_neg (fun h => by cases h.1)]
      rw [visK_parts, hown]
      simp only
      rw [hbst]
      -- the text
      have tpart : (∃ k u, k ∈ l ∧ tk k = p ++ .b c :: u ∧ (fitT u s' vs).2.1 = true ∧ (KOf tk m l).text (fun p' s' => visK (KOf tk m l) meth f p' s' vs none) p (c :: s') none = .stop (.hit k (fitT u s' vs).1) ∧ ∀ k' u', k' ∈ l → tk k' = p ++ .b c :: u' → (fitT u' s' vs).2.1 = true → k' = k ∨ (bet u u' = true ∧ bet u' u = false)) ∨
          ((KOf tk m l).text (fun p' s' => visK (KOf tk m l) meth f p' s' vs none) p (c :: s') none = .back none ∧ ∀ k u, k ∈ l → tk k = p ++ .b c :: u → (fitT u s' vs).2.1 = false) := by
        simp only [Kn.text]
        by_cases hb : (KOf tk m l).has (p ++ [Tok.b c])
        · rw [if_pos hb]
          obtain ⟨a0, ha0, u0, hu0⟩ := hHas _ hb
          have h200 := hp200 a0 ha0 _ _ hu0
          have eq : ∀ u, p ++ [Tok.b c] ++ u = p ++ .b c :: u := fun u => by simp
          rcases ih (p ++ [.b c]) s' vs (by simp; omega) (by simp; omega) (fun k hk u hu => hto k hk (.b c :: u) (hu.trans (eq u))) (fun k hk u hu => by
            have := hnl k hk (.b c :: u) (hu.trans (eq u))
            simpa [fitT] using this) with ⟨k, u, g1, g2, g3, g4, g5⟩ | ⟨g1, g2⟩
          · exact .inl ⟨k, u, g1, g2.trans (eq u), g3, g4, fun k' u' hk' hu' hf' => g5 k' u' hk' (hu'.trans (eq u').symm) hf'⟩
          · exact .inr ⟨g1, fun k u hk hu => g2 k u hk (hu.trans (eq u).symm)⟩
        · rw [if_neg hb]
          exact .inr ⟨rfl, fun k u hk hu => absurd (hHas' _ k u hk hu) hb⟩
      rcases tpart with ⟨k, u, g1, g2, g3, g4, g5⟩ | ⟨t1, t2⟩
      · rw [g4]
        refine .inl ⟨k, .b c :: u, g1, g2, by simpa [fitT] using g3, by simp [VOk.then, fitT], fun k' u' hk' hu' hf' => ?_⟩
        cases u' with
        | nil => simp [fitT] at hf'
        | cons t u1 =>
          cases t with
          | b c' =>
            by_cases hcc : c = c'
            · subst hcc
              have hf2 : (fitT u1 s' vs).2.1 = true := by simpa [fitT] using hf'
              rcases g5 k' u1 hk' hu' hf2 with h | h
              · exact .inl h
              · exact .inr (by simpa [bet] using h)
            · simp [fitT, hcc] at hf'
          | P => exact .inr (by simp [bet, rkT])
          | A => exact .inr (by simp [bet, rkT])
      · rw [t1]
        simp only [VOk.then]
        have tnot : ∀ k c' u, k ∈ l → tk k = p ++ .b c' :: u → (fitT (.b c' :: u) (c :: s') vs).2.1 = false := fun k c' u hk hu => by
          by_cases hcc : c = c'
          · subst hcc; simpa [fitT] using t2 k u hk hu
          · simp [fitT, hcc]
        -- the parameter
        generalize hs : c :: s' = s at *
        have hs0 : s ≠ [] := by rw [← hs]; simp
        have ppart : (∃ k u, k ∈ l ∧ tk k = p ++ .P :: u ∧ (fitT (.P :: u) s vs).2.1 = true ∧ (KOf tk m l).par (fun p' s' v => visK (KOf tk m l) meth f p' s' (vs ++ [v]) none) p s none = .stop (.hit k (fitT (.P :: u) s vs).1) ∧ ∀ k' u', k' ∈ l → tk k' = p ++ .P :: u' → (fitT (.P :: u') s vs).2.1 = true → k' = k ∨ (bet u u' = true ∧ bet u' u = false)) ∨
            ((KOf tk m l).par (fun p' s' v => visK (KOf tk m l) meth f p' s' (vs ++ [v]) none) p s none = .back none ∧ ∀ k u, k ∈ l → tk k = p ++ .P :: u → (fitT (.P :: u) s vs).2.1 = false) := by
          by_cases hb : (KOf tk m l).has (p ++ [Tok.P])
          · obtain ⟨a0, ha0, u0, hu0⟩ := hHas _ hb
            have h200 := hp200 a0 ha0 _ _ hu0
            have eq : ∀ u, p ++ [Tok.P] ++ u = p ++ .P :: u := fun u => by simp
            have hfit : ∀ k u, k ∈ l → tk k = p ++ .P :: u → fitT (.P :: u) s vs = fitT u (s.drop (upTo s)) (vs ++ [s.take (upTo s)]) := fun k u hk hu => by
              have := hnl k hk _ hu
              simp only [fitT] at this ⊢
              split at this
              · cases this
              · rename_i h1
                split at this
                · cases this
                · rename_i h2
                  rw [if_neg h1, if_neg h2]
            have hcut : (KOf tk m l).cut (p ++ [.P]) s = upTo s := by
              unfold Kn.cut
              split
              · rename_i hlf
                have hu0' : u0 = [] := by
                  cases u0 with
                  | nil => rfl
                  | cons t u1 => exact absurd ⟨t, a0, ha0, by rw [hu0]; exact ⟨u1, by simp⟩⟩ hlf
                subst hu0'
                have := hnl a0 ha0 _ hu0
                simp only [fitT] at this
                split at this
                · cases this
                · rename_i h1
                  have := upTo_le s
                  by_cases h2 : upTo s < s.length
                  · exact absurd ⟨trivial, h2⟩ h1
                  · omega
              · rfl
            unfold Kn.par
            rw [if_pos ⟨hs0, hb⟩, hcut]
            simp only
            rcases ih (p ++ [.P]) (s.drop (upTo s)) (vs ++ [s.take (upTo s)]) (by simp; omega) (by simp; omega) (fun k hk u hu => (hto k hk (.P :: u) (hu.trans (eq u))).2) (fun k hk u hu => by
              have h1 := hu.trans (eq u)
              have := hnl k hk _ h1
              rwa [hfit k u hk h1] at this) with ⟨k, u, g1, g2, g3, g4, g5⟩ | ⟨g1, g2⟩
            · have g2' := g2.trans (eq u)
              refine .inl ⟨k, u, g1, g2', by rw [hfit k u g1 g2']; exact g3, by rw [hfit k u g1 g2']; exact g4, fun k' u' hk' hu' hf' => g5 k' u' hk' (hu'.trans (eq u').symm) ?_⟩
              rwa [hfit k' u' hk' hu'] at hf'
            · exact .inr ⟨g1, fun k u hk hu => by rw [hfit k u hk hu]; exact g2 k u hk (hu.trans (eq u).symm)⟩
          · unfold Kn.par
            rw [if_neg (fun h => hb h.2)]
            exact .inr ⟨rfl, fun k u hk hu => absurd (hHas' _ k u hk hu) hb⟩
        rcases ppart with ⟨k, u, g1, g2, g3, g4, g5⟩ | ⟨p1, p2⟩
        · rw [g4]
          refine .inl ⟨k, .P :: u, g1, g2, g3, rfl, fun k' u' hk' hu' hf' => ?_⟩
          cases u' with
          | nil => rw [← hs] at hf'; simp [fitT] at hf'
          | cons t u1 =>
            cases t with
            | b c' => rw [tnot k' c' u1 hk' hu'] at hf'; cases hf'
            | P =>
              rcases g5 k' u1 hk' hu' hf' with h | h
              · exact .inl h
              · exact .inr (by simpa [bet] using h)
            | A => exact .inr (by simp [bet, rkT])
        · rw [p1]
          simp only
          unfold Kn.any
          by_cases hA : (KOf tk m l).has (p ++ [Tok.A])
          · obtain ⟨a0, ha0, u0, hu0⟩ := hHas _ hA
            have hu0' : u0 = [] := hto a0 ha0 _ hu0
            subst hu0'
            rw [if_pos hA, hlk1 (p ++ [Tok.A]) a0 ha0 hu0]
            refine .inl ⟨a0, [.A], ha0, hu0, by simp [fitT, hs0], rfl, fun k' u' hk' hu' hf' => ?_⟩
            cases u' with
            | nil => rw [← hs] at hf'; simp [fitT] at hf'
            | cons t u1 =>
              cases t with
              | b c' => rw [tnot k' c' u1 hk' hu'] at hf'; cases hf'
              | P => rw [p2 k' u1 hk' hu'] at hf'; cases hf'
              | A =>
                have : u1 = [] := hto k' hk' _ hu'
                subst this
                exact .inl (hap k' hk' a0 ha0 (hu'.trans hu0.symm))
          · rw [if_neg hA]
            refine .inr ⟨rfl, fun k u hk hu => ?_⟩
            cases u with
            | nil => rw [← hs]; simp [fitT]
            | cons t u1 =>
              cases t with
              | b c' => exact tnot k c' u1 hk hu
              | P => exact p2 k u1 hk hu
              | A => exact absurd (hHas' _ k u1 hk hu) hA
end
end Bw

/- echoPlaces, EchoBetter, spec.EchoFind. Printed by wip/mk_h8.py. -/
namespace Go.Proofs
open Go Bw
set_option maxRecDepth 20000

theorem parts_len (p : List UInt8) : (parts p).length ≤ 2 * p.length + 1 := by
  have key : ∀ (u : List Tok) (acc : List UInt8), (grp acc u).length ≤ 2 * u.length + 1 := by
    intro u
    induction u with
    | nil => intro acc; simp only [grp, txt]; split <;> simp
    | cons t u ih =>
      intro acc
      have htx : (txt acc).length ≤ 1 := by unfold txt; split <;> simp
      cases t with
      | b c => have := ih (acc ++ [c]); simp only [grp, List.length_cons]; omega
      | P => have := ih []; simp only [grp, List.length_append, List.length_cons]; omega
      | A => have := ih []; simp only [grp, List.length_append, List.length_cons]; omega
  have h1 := key (prs p none).1 []
  have h2 := prs_len p none
  show (grp [] (prs p none).1).length ≤ _
  omega
theorem pls_take_le (l : List (List UInt8)) (j : Nat) : ((l.take j).flatMap pls).length ≤ (l.flatMap pls).length := by
  conv => rhs; rw [← List.take_append_drop j l, List.flatMap_append, List.length_append]
  omega

theorem f61_any (w : World) (p : List UInt8) (hp : p.length ≤ 90001) : Calls Tryd.prog 61 #[S p] w fun e w' => ∃ v Hs, e = .returned v ∧ Own 3 1 v ((prs p none).1.map plc).length (((prs p none).1.map plc).map I) Hs ∧ HF w (fun _ => False) Hs w' := by
  refine enter (fun _ => False) [] Tryd.func61 rfl Tryd.ntmps61 rfl rfl (HF.start w _) fun c hc => ?_
  subst hc
  refine GC.seq ?_
  refine GC.reg ?_  -- region 0, echo.go:100
  refine G.v (V.asg rfl) rfl ?_
  refine G.nil ?_
  refine GC.seq ?_
  refine GC.reg ?_  -- region 1, echo.go:101
  refine G.v (V.mv rfl) rfl ?_
  refine G.callW (fun v H2 => ∃ v1 v2, v = .tuple #[v1, v2] ∧ Own 9 1 v1 (parts p).length ((parts p).map S) H2) Tryd.call39 rfl rfl (fun w1 hw1 => ?_) ?_
  · refine (f39_any w1 p (by omega)).mono fun e w' ⟨v1, v2, H1, H2, h1, h2, h3, h4⟩ => ⟨_, _, h1, ?_, v1, v2, rfl, h2⟩
    have := hw1.after0 h4 (fun e he => by
      rcases List.mem_append.1 he with he | he
      · exact h2.w e he
      · exact h3.w e he)
    rw [List.append_nil] at this
    exact this.sub (List.sublist_append_left _ _)
  rintro v H1 ⟨v1, v2, rfl, hown⟩
  obtain ⟨adp, cpp, rfl⟩ := hown.slice
  refine G.v (V.mv rfl) rfl ?_
  refine G.v (V.ex rfl rfl) rfl ?_
  refine G.v (V.ex rfl rfl) rfl ?_
  refine G.v (V.asg rfl) rfl ?_
  refine G.v (V.asg rfl) rfl ?_
  refine G.nil ?_
  refine GC.seq ?_
  refine GC.reg ?_  -- region 2, echo.go:102
  refine G.v (V.asg rfl) rfl ?_
  refine G.nil ?_
  refine GC.seq ?_
  refine GC.seq ?_
  refine GC.reg ?_  -- region 3, echo.go:103
  refine G.v (V.mv rfl) rfl ?_
  have hpc := parts_len p
  have hple := pls_parts p
  have hpl2 : ((parts p).flatMap pls).length ≤ 90001 := by rw [hple, List.length_map]; have := prs_len p none; omega
  refine G.v (V.lenL Tryd.underlying24 rfl) rfl ?_
  refine G.v (V.mv rfl) rfl ?_
  refine G.nil ?_
  refine GC.block ?_
  refine GC.loopJ (fun N fr' H' => ∃ j sv Hs, j + N = (parts p).length ∧ Own 3 1 sv (((parts p).take j).flatMap pls).length ((((parts p).take j).flatMap pls).map I) Hs ∧ Sub [(14, .slice adp (parts p).length cpp), (15, I ((parts p).length : Nat)), (16, I ((j : Nat) : Int)), (5, sv)] fr' ∧ H' = H1 ++ Hs) (parts p).length
    ⟨0, _, [], by omega, .nil, .cons rfl (.cons rfl (.cons rfl (.cons rfl .nil))), by rw [List.append_nil]⟩ ?_
  rintro N fr' H' ⟨j, sv, Hs, hj, howns, hs, rfl⟩ ih
  refine GC.weak hs ?_
  clear hs
  obtain ⟨ads, cps, rfl⟩ := howns.slice
  refine GC.seq ?_
  refine GC.reg ?_  -- region 4, echo.go:103
  refine G.v (V.lt rfl rfl) rfl ?_
  refine G.nil ?_
  refine GC.seq ?_
  refine GC.condD rfl (fun h17 => ?_) (fun h17 => ?_)
  · refine GC.skip ?_
    refine GC.seq ?_
    refine GC.block ?_
    refine GC.seq ?_
    have hlt : j < (parts p).length := by omega
    obtain ⟨x, hx⟩ : ∃ x, (parts p)[j]? = some x := ⟨_, List.getElem?_eq_getElem hlt⟩
    have htk : (((parts p).take j).flatMap pls) ++ pls x = ((parts p).take (j + 1)).flatMap pls := by rw [List.take_add_one, hx, List.flatMap_append]; simp [Option.toList]
    have htl := pls_take_le (parts p) (j + 1)
    rw [← htk, List.length_append] at htl
    have hldx : ∃ bp, adp = some ⟨bp, 0, none⟩ ∧ ∃ sp, (⟨bp, true, .row ((parts p).map S ++ sp) 9 (0, 0)⟩ : Ent) ∈ H1 := by
      obtain ⟨bp, cpp2, sp, hve, hH1⟩ := hown.at (i := j) hlt
      simp only [Value.slice.injEq, true_and] at hve
      exact ⟨bp, hve.1, sp, by rw [hH1]; exact .head _⟩
    obtain ⟨bp, rfl, sp, hbm⟩ := hldx
    refine GC.reg ?_  -- region 5, echo.go:103
    refine G.v (V.ia (i := j) Tryd.underlying24 Tryd.sizeOf9 rfl rfl hlt) rfl ?_
    refine G.v (V.ld (b := bp) (off := 0 + j * 1) (wf := true) (l := (parts p).map S ++ sp) (T := 9) (fz := (0, 0)) (v := S x) Tryd.isAgg9 rfl (List.mem_append_left _ hbm) (by rw [nth_eq, Nat.zero_add, Nat.mul_one, List.getElem?_append_left (by simp; omega), List.getElem?_map, hx]; rfl)) rfl ?_
    refine G.v (V.asg rfl) rfl ?_
    refine G.nil ?_
    refine GC.seq ?_
    refine GC.reg ?_  -- region 6, echo.go:104
    refine G.v (V.mv rfl) rfl ?_
    refine G.nil ?_
    refine GC.join (fun fr' H' => ∃ sv' Hs', Own 3 1 sv' (((parts p).take (j + 1)).flatMap pls).length ((((parts p).take (j + 1)).flatMap pls).map I) Hs' ∧ Sub [(14, .slice (some ⟨bp, 0, none⟩) (parts p).length cpp), (15, I ((parts p).length : Nat)), (16, I ((j : Nat) : Int)), (5, sv')] fr' ∧ H' = H1 ++ Hs') (fun J2 => ?_) ?_
    · refine GC.block ?_
      refine GC.seq ?_
      refine GC.reg ?_  -- region 12, echo.go:105
      refine G.v (V.eqS rfl rfl) rfl ?_
      refine G.v (V.asg rfl) rfl ?_
      refine G.nil ?_
      refine GC.condD rfl (fun h34 => ?_) (fun h34 => ?_)
      · refine GC.reg ?_  -- region 13, echo.go:106
        refine G.v (V.mv rfl) rfl ?_
        have hx1 : x = [58] := by simpa using h34
        have hpx : pls x = [-1] := by rw [hx1]; rfl
        rw [hpx] at htk htl
        simp only [List.length_singleton] at htl
        refine G.bs (BS.one Tryd.underlying59 Tryd.sizeOf3 Tryd.zeroValue3 (v := I (-1)) rfl) rfl rfl (fun tb htb => ?_)
        refine G.app (i := Tryd.t3) (sz := 1) (by_ := 8) Tryd.underlying59 rfl rfl rfl rfl rfl rfl rfl howns (H' := [⟨tb, true, .row [I (-1)] 3 (0, 0)⟩] ++ H1) ?_ (src_row (vs := [I (-1)]) (r := []) (.head _)) rfl (by simp [Value.oneCell']) (by omega) (by omega) (by omega) rfl (fun sv' Hs' hown' => ?_)
        · have p0 := perm_idx [[(⟨tb, true, .row [I (-1)] 3 (0, 0)⟩ : Ent)], H1, Hs] [0, 1, 2] [2, 0, 1] (by decide)
          exact List.Perm.trans (.of_eq (by simp)) (p0.trans (.of_eq (by simp)))
        refine G.v (V.asg rfl) rfl ?_
        refine G.nil ?_
        refine GC.inBlock ?_
        refine GC.weakH (H' := H1 ++ Hs') (List.sublist_cons_self _ _) (J2 _ _ ⟨sv', Hs', ?_, .cons rfl (.cons rfl (.cons rfl (.cons rfl .nil))), rfl⟩)
        rw [← htk, List.length_append, List.map_append]; exact hown'
      refine GC.seq ?_
      refine GC.reg ?_  -- region 14, echo.go:107
      refine G.v (V.eqS rfl rfl) rfl ?_
      refine G.v (V.asg rfl) rfl ?_
      refine G.nil ?_
      refine GC.condD rfl (fun h39 => ?_) (fun h39 => ?_)
      · refine GC.reg ?_  -- region 15, echo.go:108
        refine G.v (V.mv rfl) rfl ?_
        have hx1 : x = [42] := by simpa using h39
        have hpx : pls x = [-2] := by rw [hx1]; rfl
        rw [hpx] at htk htl
        simp only [List.length_singleton] at htl
        refine G.bs (BS.one Tryd.underlying59 Tryd.sizeOf3 Tryd.zeroValue3 (v := I (-2)) rfl) rfl rfl (fun tb htb => ?_)
        refine G.app (i := Tryd.t3) (sz := 1) (by_ := 8) Tryd.underlying59 rfl rfl rfl rfl rfl rfl rfl howns (H' := [⟨tb, true, .row [I (-2)] 3 (0, 0)⟩] ++ H1) ?_ (src_row (vs := [I (-2)]) (r := []) (.head _)) rfl (by simp [Value.oneCell']) (by omega) (by omega) (by omega) rfl (fun sv' Hs' hown' => ?_)
        · have p0 := perm_idx [[(⟨tb, true, .row [I (-2)] 3 (0, 0)⟩ : Ent)], H1, Hs] [0, 1, 2] [2, 0, 1] (by decide)
          exact List.Perm.trans (.of_eq (by simp)) (p0.trans (.of_eq (by simp)))
        refine G.v (V.asg rfl) rfl ?_
        refine G.nil ?_
        refine GC.inBlock ?_
        refine GC.weakH (H' := H1 ++ Hs') (List.sublist_cons_self _ _) (J2 _ _ ⟨sv', Hs', ?_, .cons rfl (.cons rfl (.cons rfl (.cons rfl .nil))), rfl⟩)
        rw [← htk, List.length_append, List.map_append]; exact hown'
      refine GC.seq ?_
      have hx1 : x ≠ [58] := by simpa using h34
      have hx2 : x ≠ [42] := by simpa using h39
      have hpx : pls x = x.map fun c => (c.toNat : Int) := by simp [pls, hx1, hx2]
      rw [hpx, List.length_map] at htl
      refine GC.reg ?_  -- region 7, echo.go:110
      refine G.v (V.mv rfl) rfl ?_
      refine G.v (V.lenS Tryd.underlying9 rfl) rfl ?_
      refine G.v (V.mv rfl) rfl ?_
      refine G.nil ?_
      refine GC.block ?_
      refine GC.loopJ (fun M fr' H' => ∃ i sv2 Hs2, i + M = x.length ∧ Own 3 1 sv2 ((((parts p).take j).flatMap pls) ++ (x.take i).map fun c => (c.toNat : Int)).length (((((parts p).take j).flatMap pls) ++ (x.take i).map fun c => (c.toNat : Int)).map I) Hs2 ∧ Sub [(14, .slice (some ⟨bp, 0, none⟩) (parts p).length cpp), (15, I ((parts p).length : Nat)), (16, I ((j : Nat) : Int)), (5, sv2), (7, S x), (22, I (x.length : Nat)), (23, I ((i : Nat) : Int))] fr' ∧ H' = H1 ++ Hs2) x.length
        ⟨0, _, Hs, by omega, by simpa using howns, .cons rfl (.cons rfl (.cons rfl (.cons rfl (.cons rfl (.cons rfl (.cons rfl .nil)))))), rfl⟩ ?_
      rintro M fr' H' ⟨i, sv2, Hs2, hi, hown2, hs, rfl⟩ ih2
      refine GC.weak hs ?_
      clear hs
      obtain ⟨ad2, cp2, rfl⟩ := hown2.slice
      refine GC.seq ?_
      refine GC.reg ?_  -- region 8, echo.go:110
      refine G.v (V.lt rfl rfl) rfl ?_
      refine G.nil ?_
      refine GC.seq ?_
      refine GC.condD rfl (fun h24 => ?_) (fun h24 => ?_)
      · refine GC.skip ?_
        refine GC.seq ?_
        refine GC.block ?_
        refine GC.seq ?_
        have hlti : i < x.length := by omega
        obtain ⟨y, hy⟩ : ∃ y, x[i]? = some y := ⟨_, List.getElem?_eq_getElem hlti⟩
        have hxi : ((((parts p).take j).flatMap pls) ++ (x.take i).map fun c => (c.toNat : Int)) ++ [(y.toNat : Int)] = ((((parts p).take j).flatMap pls) ++ (x.take (i + 1)).map fun c => (c.toNat : Int)) := by rw [List.take_add_one, hy]; simp [Option.toList]
        have hxl : ((((parts p).take j).flatMap pls) ++ (x.take i).map fun c => (c.toNat : Int)).length ≤ 100000 := by simp only [List.length_append, List.length_map, List.length_take]; omega
        refine GC.reg ?_  -- region 9, echo.go:110
        refine G.v (V.mv rfl) rfl ?_
        refine G.v (V.asg rfl) rfl ?_
        refine G.nil ?_
        refine GC.reg ?_  -- region 10, echo.go:111
        refine G.v (V.mv rfl) rfl ?_
        refine G.v (V.mv rfl) rfl ?_
        refine G.v (V.mv rfl) rfl ?_
        refine G.v (V.idx Tryd.underlying9 rfl rfl hy) rfl ?_
        have hwr : IntKind.i64.wrap (y.toNat : Int) = (y.toNat : Int) := wrap_i64 (by omega) (by have := y.toNat_lt; omega)
        refine G.v (V.cvI Tryd.underlying5 Tryd.underlying3 rfl) rfl ?_
        rw [hwr]
        refine G.bs (BS.one Tryd.underlying59 Tryd.sizeOf3 Tryd.zeroValue3 (v := I (y.toNat : Int)) rfl) rfl rfl (fun tb htb => ?_)
        refine G.app (i := Tryd.t3) (sz := 1) (by_ := 8) Tryd.underlying59 rfl rfl rfl rfl rfl rfl rfl hown2 (H' := [⟨tb, true, .row [I (y.toNat : Int)] 3 (0, 0)⟩] ++ H1) ?_ (src_row (vs := [I (y.toNat : Int)]) (r := []) (.head _)) rfl (by simp [Value.oneCell']) (by omega) (by omega) (by omega) rfl (fun sv' Hs' hown' => ?_)
        · have p0 := perm_idx [[(⟨tb, true, .row [I (y.toNat : Int)] 3 (0, 0)⟩ : Ent)], H1, Hs2] [0, 1, 2] [2, 0, 1] (by decide)
          exact List.Perm.trans (.of_eq (by simp)) (p0.trans (.of_eq (by simp)))
        refine G.v (V.asg rfl) rfl ?_
        refine G.nil ?_
        refine GC.inBlock ?_
        refine GC.reg ?_  -- region 11, echo.go:110
        refine G.v (V.addI rfl rfl rfl (by omega) (by omega)) rfl ?_
        refine G.v (V.mv rfl) rfl ?_
        refine G.nil ?_
        refine GC.weakH (H' := H1 ++ Hs') (List.sublist_cons_self _ _) (ih2 (M - 1) _ _ (by omega) ⟨i + 1, sv', Hs', by omega, ?_, .cons rfl (.cons rfl (.cons rfl (.cons rfl (.cons rfl (.cons rfl (.cons rfl .nil)))))), rfl⟩)
        rw [← hxi, List.length_append, List.map_append]; exact hown'
      refine GC.exit rfl ?_
      refine GC.inBlock ?_
      have hil : x.take i = x := List.take_of_length_le (by omega)
      have e0 : ((((parts p).take j).flatMap pls) ++ (x.take i).map fun c => (c.toNat : Int)) = (((parts p).take j).flatMap pls) ++ pls x := by rw [hil, hpx]
      refine J2 _ _ ⟨_, Hs2, ?_, .cons rfl (.cons rfl (.cons rfl (.cons rfl .nil))), rfl⟩
      rw [← htk, ← e0]; exact hown2
    rintro fr' H' ⟨sv', Hs', hown', hs2, rfl⟩
    refine GC.weak hs2 ?_
    clear hs2
    refine GC.inBlock ?_
    refine GC.reg ?_  -- region 16, echo.go:103
    refine G.v (V.addI rfl rfl rfl (by omega) (by omega)) rfl ?_
    refine G.v (V.mv rfl) rfl ?_
    refine G.nil ?_
    exact ih (N - 1) _ _ (by omega) ⟨j + 1, sv', Hs', by omega, hown', .cons rfl (.cons rfl (.cons rfl (.cons rfl .nil))), rfl⟩
  refine GC.exit rfl ?_
  refine GC.seq ?_
  refine GC.reg ?_  -- region 17, echo.go:115
  refine G.v (V.mv rfl) rfl ?_
  refine G.v (V.asg rfl) rfl ?_
  refine G.nil ?_
  have hjl : (((parts p).take j).flatMap pls) = (prs p none).1.map plc := by rw [List.take_of_length_le (by omega)]; exact hple
  rw [hjl] at howns
  exact GC.ret1 rfl rfl fun w' hw' => ⟨_, Hs, by rw [hjl], howns, hw'.sub (List.sublist_append_right _ _)⟩
end Go.Proofs

/- Regions that draw: an operation whose guard was passed over. No program in sight. -/
namespace Bw
open Go
/-- an operation whose guard was passed over itself -/
theorem GA.unU {P : Program} {c : Cx} {n : Nat} {k : List Item} {fr : SF} {H : SH} {ops : Array Oper} {S : World → Prop} {fuel : Nat} {listed : Array Bool} (i : Nat) {o : Oper} {d j t : Nat} {want : Bool} (hi : ops[i]? = some o) (hdst : o.dst = some d) (hg : o.guard = some (j, want)) (hj : (ops[j]?).bind (·.dst) = some t) (hb : look t fr = some undef) (hB : (Region.noSelect ops && Region.free .any ops listed i && (Region.ready .any ops listed).contains i) = true)
    (hS : ∀ w, HF c.w0 c.D H w → S w) (hd : Nat.blt d n = true)
    (h : GA P c n k ops S fuel (listed.setIfInBounds i true) ((d, undef) :: fr) H) : GA P c n k ops S (fuel + 1) listed fr H := by
  intro hf a w ha hw
  simp only [Bool.and_eq_true] at hB
  have hy : yielded ops a.tmps j = none := by simp [yielded, hj, ha.at_ t _ hb, undef]
  have hnw : Region.wanted o (yielded ops a.tmps) = false := by simp [Region.wanted, hg, hy]
  have := wpAnyH_take hi hB.1.1 hB.1.2 hB.2 (Q := Qk P c k) (v := undef) (fun ch a' w' hq => ⟨by have h1 := hq.1; rw [hdst] at h1; exact h1, hq.2⟩) (.inr ⟨hnw, rfl⟩) (hS w hw) (h hf _ _ (by rw [hdst]; exact ha.put hd undef) hw)
  exact this
theorem lt_false {P : Program} {c : Cx} {n : Nat} {op : Op} {ty : TypeId} {fr : SF} {H : SH} {i j : Int} (h : ¬ i < j) (hv : Val P c n op ty fr H (.bool (decide (i < j)))) : Val P c n op ty fr H (.bool false) := by rw [decide_eq_false h] at hv; exact hv
end Bw
namespace Bw
open Go
theorem lt_true {P : Program} {c : Cx} {n : Nat} {op : Op} {ty : TypeId} {fr : SF} {H : SH} {i j : Int} (h : i < j) (hv : Val P c n op ty fr H (.bool (decide (i < j)))) : Val P c n op ty fr H (.bool true) := by rw [decide_eq_true h] at hv; exact hv
end Bw

/- EchoBetter, spec.EchoFind. Printed by wip/mk_h9.py. -/
namespace Go.Proofs
open Go Bw
set_option maxRecDepth 20000

def tks (p : List UInt8) : List Tok := (prs (ePath p) none).1
theorem betI_drop {X Y : List Int} {i : Nat} {a b : Int} (hx : X[i]? = some a) (hy : Y[i]? = some b) : betI (X.drop i) (Y.drop i) = if a = b then betI (X.drop (i + 1)) (Y.drop (i + 1)) else decide (rank a < rank b) := by
  rw [drop_cons hx, drop_cons hy]; rfl
theorem betI_end {X Y : List Int} {i : Nat} (h : ¬ (i < X.length ∧ i < Y.length)) (hi : i ≤ X.length ∧ i ≤ Y.length) : betI (X.drop i) (Y.drop i) = decide ((X.length : Int) < (Y.length : Int)) := by
  by_cases h1 : i < X.length
  · have h2 : Y.length = i := by omega
    rw [show Y.drop i = [] from List.drop_eq_nil_of_le (by omega), List.drop_eq_getElem_cons h1, decide_eq_false (by omega)]; rfl
  · have h2 : X.length = i := by omega
    rw [show X.drop i = [] from List.drop_eq_nil_of_le (by omega)]
    by_cases h3 : i < Y.length
    · rw [List.drop_eq_getElem_cons h3, decide_eq_true (by omega)]; rfl
    · rw [show Y.drop i = [] from List.drop_eq_nil_of_le (by omega), decide_eq_false (by omega)]; rfl

theorem f43_any (w : World) (a b : List UInt8) (ha : a.length ≤ 90000) (hb : b.length ≤ 90000) : Calls Tryd.prog 43 #[S a, S b] w fun e w' => e = .returned (.bool (bet (tks a) (tks b))) ∧ HF w (fun _ => False) [] w' := by
  refine enter (fun _ => False) [] Tryd.func43 rfl Tryd.ntmps43 rfl rfl (HF.start w _) fun c hc => ?_
  subst hc
  refine GC.seq ?_
  refine GC.reg ?_  -- region 0, echo.go:80
  refine G.v (V.asg rfl) rfl ?_
  refine G.nil ?_
  refine GC.seq ?_
  refine GC.reg ?_  -- region 1, echo.go:81
  refine G.v (V.mv rfl) rfl ?_
  refine G.callP Tryd.call21 rfl rfl (fun w1 hw1 => f21_any w1 a (by omega)) ?_
  refine G.callW (fun v H2 => Own 3 1 v ((tks a).map plc).length (((tks a).map plc).map I) H2) Tryd.call61 rfl rfl (fun w1 hw1 => ?_) ?_
  · have hl := ePath_len a
    refine (f61_any w1 (ePath a) (by omega)).mono fun e w' ⟨v, Hs, h1, h2, h3⟩ => ⟨_, _, h1, ?_, h2⟩
    have := hw1.after0 h3 h2.w
    simpa using this
  intro v1 Hx hownx
  obtain ⟨adx, cpx, rfl⟩ := hownx.slice
  refine G.v (V.mv rfl) rfl ?_
  refine G.callP Tryd.call21 rfl rfl (fun w1 hw1 => f21_any w1 b (by omega)) ?_
  refine G.callW (fun v H2 => ∃ Hy, Own 3 1 v ((tks b).map plc).length (((tks b).map plc).map I) Hy ∧ H2 = Hy ++ Hx) Tryd.call61 rfl rfl (fun w1 hw1 => ?_) ?_
  · have hl := ePath_len b
    exact (f61_any w1 (ePath b) (by omega)).mono fun e w' ⟨v, Hs, h1, h2, h3⟩ => ⟨_, _, h1, hw1.after0 h3 h2.w, Hs, h2, rfl⟩
  rintro v2 H2 ⟨Hy, howny, rfl⟩
  obtain ⟨ady, cpy, rfl⟩ := howny.slice
  refine G.v (V.asg rfl) rfl ?_
  refine G.v (V.asg rfl) rfl ?_
  refine G.nil ?_
  refine GC.seq ?_
  refine GC.seq ?_
  refine GC.reg ?_  -- region 2, echo.go:82
  refine G.v (V.asg rfl) rfl ?_
  refine G.nil ?_
  refine GC.block ?_
  refine GC.loopJ (fun N fr' H' => ∃ i, i + N = ((tks a).map plc).length ∧ i ≤ ((tks b).map plc).length ∧ betI (((tks a).map plc).drop i) (((tks b).map plc).drop i) = bet (tks a) (tks b) ∧ Sub [(5, .slice adx ((tks a).map plc).length cpx), (6, .slice ady ((tks b).map plc).length cpy), (7, I ((i : Nat) : Int))] fr' ∧ H' = Hy ++ Hx) ((tks a).map plc).length
    ⟨0, by omega, Nat.zero_le _, by rw [List.drop_zero, List.drop_zero, betI_map], .cons rfl (.cons rfl (.cons rfl .nil)), rfl⟩ ?_
  rintro N fr' H' ⟨i, hi, hiy, hbt, hs, rfl⟩ ih
  refine GC.weak hs ?_
  clear hs
  have hxl : ((tks a).map plc).length ≤ 100000 := by rw [List.length_map]; have := prs_len (ePath a) none; have := ePath_len a; show (prs (ePath a) none).1.length ≤ _; omega
  refine GC.seq ?_
  refine GC.seq ?_
  refine GC.join (fun fr' H' => ∃ b0 : Bool, (b0 = true ↔ i < ((tks a).map plc).length ∧ i < ((tks b).map plc).length) ∧ Sub [(5, .slice adx ((tks a).map plc).length cpx), (6, .slice ady ((tks b).map plc).length cpy), (7, I ((i : Nat) : Int)), (24, .bool b0)] fr' ∧ H' = Hy ++ Hx) (fun J3 => ?_) ?_
  · refine GC.reg ?_  -- region 3, echo.go:82
    refine G.v (V.mv rfl) rfl ?_
    refine G.v (V.mv rfl) rfl ?_
    refine G.v (V.lenL Tryd.underlying59 rfl) rfl ?_
    refine G.v (V.lt rfl rfl) rfl ?_
    refine G.v (V.mv rfl) rfl ?_
    refine G.bc 19 rfl (fun h19 => ?_) (fun h19 => ?_)
    · refine G.vg rfl rfl (V.mv rfl) rfl ?_
      refine G.vg rfl rfl (V.mv rfl) rfl ?_
      refine G.vg rfl rfl (V.lenL Tryd.underlying59 rfl) rfl ?_
      refine G.vg rfl rfl (V.lt rfl rfl) rfl ?_
      refine G.v (V.pickT rfl rfl) rfl ?_
      refine G.nil ?_
      exact J3 _ _ ⟨decide (((i : Nat) : Int) < (((tks b).map plc).length : Nat)), ⟨fun h => ⟨by have := of_decide_eq_true h19; omega, by have := of_decide_eq_true h; omega⟩, fun h => decide_eq_true (by omega)⟩, .cons rfl (.cons rfl (.cons rfl (.cons rfl .nil))), rfl⟩
    · refine G.sg rfl rfl rfl rfl rfl rfl ?_
      refine G.sg rfl rfl rfl rfl rfl rfl ?_
      refine G.sg rfl rfl rfl rfl rfl rfl ?_
      refine G.sg rfl rfl rfl rfl rfl rfl ?_
      refine G.v (V.pickF rfl rfl) rfl ?_
      refine G.nil ?_
      exact J3 _ _ ⟨_, ⟨fun h => (by cases h), fun h => by have := of_decide_eq_false h19; omega⟩, .cons rfl (.cons rfl (.cons rfl (.cons rfl .nil))), rfl⟩
  rintro fr' H' ⟨b0, hb0, hs3, rfl⟩
  refine GC.weak hs3 ?_
  clear hs3
  refine GC.cond rfl (fun h24 => ?_) (fun h24 => ?_)
  · refine GC.skip ?_
    refine GC.seq ?_
    refine GC.block ?_
    refine GC.seq ?_
    obtain ⟨hix, hiy2⟩ := hb0.1 h24
    obtain ⟨x, hx⟩ : ∃ x, ((tks a).map plc)[i]? = some x := ⟨_, List.getElem?_eq_getElem hix⟩
    obtain ⟨y, hy⟩ : ∃ y, ((tks b).map plc)[i]? = some y := ⟨_, List.getElem?_eq_getElem hiy2⟩
    have hbd := betI_drop hx hy
    rw [hbt] at hbd
    obtain ⟨bx, cpx2, sx, hvx, hHx⟩ := hownx.at (i := i) hix
    obtain ⟨by2, cpy2, sy, hvy, hHy⟩ := howny.at (i := i) hiy2
    simp only [Value.slice.injEq, true_and] at hvx hvy
    obtain ⟨rfl, rfl⟩ := hvx
    obtain ⟨rfl, rfl⟩ := hvy
    have hmx : (⟨bx, true, .row (((tks a).map plc).map I ++ sx) 3 (0, 0)⟩ : Ent) ∈ Hy ++ Hx := by rw [hHx]; simp
    have hmy : (⟨by2, true, .row (((tks b).map plc).map I ++ sy) 3 (0, 0)⟩ : Ent) ∈ Hy ++ Hx := by rw [hHy]; simp
    refine GC.regQ mixed (by kernel_rfl) ?_  -- region 5, echo.go:83
    refine GQ.v (V.mv rfl) rfl ?_
    refine GQ.v (V.mv rfl) rfl ?_
    refine GQ.v (V.ia (i := i) Tryd.underlying59 Tryd.sizeOf3 rfl rfl hix) rfl ?_
    refine GQ.v (V.ld (b := bx) (off := 0 + i * 1) (wf := true) (l := ((tks a).map plc).map I ++ sx) (T := 3) (fz := (0, 0)) (v := I x) Tryd.isAgg3 rfl hmx (by rw [nth_eq, Nat.zero_add, Nat.mul_one, List.getElem?_append_left (by rw [List.length_map]; omega), List.getElem?_map, hx]; rfl)) rfl ?_
    refine GQ.v (V.mv rfl) rfl ?_
    refine GQ.v (V.mv rfl) rfl ?_
    refine GQ.v (V.ia (i := i) Tryd.underlying59 Tryd.sizeOf3 rfl rfl hiy2) rfl ?_
    refine GQ.v (V.ld (b := by2) (off := 0 + i * 1) (wf := true) (l := ((tks b).map plc).map I ++ sy) (T := 3) (fz := (0, 0)) (v := I y) Tryd.isAgg3 rfl hmy (by rw [nth_eq, Nat.zero_add, Nat.mul_one, List.getElem?_append_left (by rw [List.length_map]; omega), List.getElem?_map, hy]; rfl)) rfl ?_
    refine GQ.v (V.neI rfl rfl) rfl ?_
    refine GQ.nil ?_
    refine GC.cond rfl (fun h35 => ?_) (fun h35 => ?_)
    · refine GC.seq ?_
      refine GC.reg ?_  -- region 6, echo.go:84
      refine G.v (V.asg (v := .func (.func 62) #[] #[]) rfl) rfl ?_
      refine G.nil ?_
      refine GC.seq ?_
      refine GC.regQ mixed (by kernel_rfl) ?_  -- region 7, echo.go:93
      refine GQ.v (V.mv rfl) rfl ?_
      refine GQ.v (V.mv rfl) rfl ?_
      refine GQ.v (V.mv rfl) rfl ?_
      refine GQ.v (V.ia (i := i) Tryd.underlying59 Tryd.sizeOf3 rfl rfl hix) rfl ?_
      refine GQ.v (V.ld (b := bx) (off := 0 + i * 1) (wf := true) (l := ((tks a).map plc).map I ++ sx) (T := 3) (fz := (0, 0)) (v := I x) Tryd.isAgg3 rfl hmx (by rw [nth_eq, Nat.zero_add, Nat.mul_one, List.getElem?_append_left (by rw [List.length_map]; omega), List.getElem?_map, hx]; rfl)) rfl ?_
      refine GQ.callFP (g := 62) (xs := [.tmp 40]) Tryd.call62 rfl rfl rfl (fun w1 hw1 => f62_any w1 x) ?_
      refine GQ.v (V.mv rfl) rfl ?_
      refine GQ.v (V.mv rfl) rfl ?_
      refine GQ.v (V.mv rfl) rfl ?_
      refine GQ.v (V.ia (i := i) Tryd.underlying59 Tryd.sizeOf3 rfl rfl hiy2) rfl ?_
      refine GQ.v (V.ld (b := by2) (off := 0 + i * 1) (wf := true) (l := ((tks b).map plc).map I ++ sy) (T := 3) (fz := (0, 0)) (v := I y) Tryd.isAgg3 rfl hmy (by rw [nth_eq, Nat.zero_add, Nat.mul_one, List.getElem?_append_left (by rw [List.length_map]; omega), List.getElem?_map, hy]; rfl)) rfl ?_
      refine GQ.callFP (g := 62) (xs := [.tmp 46]) Tryd.call62 rfl rfl rfl (fun w1 hw1 => f62_any w1 y) ?_
      refine GQ.v (V.lt rfl rfl) rfl ?_
      refine GQ.v (V.asg rfl) rfl ?_
      refine GQ.nil ?_
      have hxy : x ≠ y := by simpa using h35
      rw [if_neg hxy] at hbd
      exact GC.ret1 rfl rfl fun w' hw' => ⟨by rw [hbd], hw'.sub (List.nil_sublist _)⟩
    refine GC.skip ?_
    refine GC.inBlock ?_
    refine GC.reg ?_  -- region 4, echo.go:82
    refine G.v (V.mv rfl) rfl ?_
    refine G.v (V.addI rfl rfl rfl (by omega) (by omega)) rfl ?_
    refine G.v (V.asg rfl) rfl ?_
    refine G.nil ?_
    have hxy : x = y := by simpa using h35
    rw [if_pos hxy] at hbd
    exact ih (N - 1) _ _ (by omega) ⟨i + 1, by omega, by omega, hbd.symm, .cons rfl (.cons rfl (.cons rfl .nil)), rfl⟩
  refine GC.exit rfl ?_
  refine GC.seq ?_
  refine GC.reg ?_  -- region 8, echo.go:96
  refine G.v (V.mv rfl) rfl ?_
  refine G.v (V.lenL Tryd.underlying59 rfl) rfl ?_
  refine G.v (V.mv rfl) rfl ?_
  refine G.v (V.lenL Tryd.underlying59 rfl) rfl ?_
  refine G.v (V.lt rfl rfl) rfl ?_
  refine G.v (V.asg rfl) rfl ?_
  refine G.nil ?_
  have hnb : ¬ (i < ((tks a).map plc).length ∧ i < ((tks b).map plc).length) := fun h => by rw [hb0.2 h] at h24; cases h24
  have hbe := betI_end hnb ⟨by omega, hiy⟩
  rw [hbt] at hbe
  exact GC.ret1 rfl rfl fun w' hw' => ⟨by rw [hbe], hw'.sub (List.nil_sublist _)⟩

def betO (r : RB) : Option (Nat × RB) → Bool
  | none => true
  | some (_, q) => bet (tks r.p) (tks q.p)
/-- spec.EchoFind: the number so far, its route, its values -/
def efG (path : List UInt8) : List RB → Nat → Option (Nat × RB) → List (List UInt8) → Option (Option (Nat × RB) × List (List UInt8))
  | [], _, st, vs => some (st, vs)
  | r :: l, i, st, vs =>
    if (fitG (parts (ePath r.p)) path []).2.2 = true then none
    else if ((fitG (parts (ePath r.p)) path []).2.1 && betO r st) = true then efG path l (i + 1) (some (i, r)) (fitG (parts (ePath r.p)) path []).1
    else efG path l (i + 1) st vs
def numO : Option (Nat × RB) → Int
  | none => -1
  | some (n, _) => n

theorem f24_any (w : World) (ad : Option Addr) (cp : Nat) (Rs : List RB) (path : List UInt8) (hat : RtsAt w ad Rs) (hl : Rs.length ≤ 1000000) (hb : ∀ r ∈ Rs, r.p.length ≤ 80000) (hp : path.length ≤ 100000) : Calls Tryd.prog 24 #[.slice ad Rs.length cp, S path] w fun e w' =>
    (efG path Rs 0 none [] = none ∧ e = .returned (.tuple #[I (-1), .slice none 0 0, .bool true]) ∧ HF w (fun _ => False) [] w') ∨
    ∃ st vs v Hs, efG path Rs 0 none [] = some (st, vs) ∧ e = .returned (.tuple #[I (numO st), v, .bool false]) ∧ Own 9 1 v vs.length (vs.map S) Hs ∧ HF w (fun _ => False) Hs w' := by
  refine enter (fun _ => False) [] Tryd.func24 rfl Tryd.ntmps24 rfl rfl (HF.start w _) fun c hc => ?_
  subst hc
  refine GC.seq ?_
  refine GC.reg ?_  -- region 0, echo.go:119
  refine G.v (V.asg rfl) rfl ?_
  refine G.v (V.asg rfl) rfl ?_
  refine G.v (V.asg rfl) rfl ?_
  refine G.nil ?_
  refine GC.seq ?_
  refine GC.reg ?_  -- region 1, echo.go:120
  refine G.v (V.asg rfl) rfl ?_
  refine G.nil ?_
  refine GC.seq ?_
  refine GC.seq ?_
  refine GC.reg ?_  -- region 2, echo.go:121
  refine G.v (V.mv rfl) rfl ?_
  refine G.v (V.lenL Tryd.underlying28 rfl) rfl ?_
  refine G.v (V.mv rfl) rfl ?_
  refine G.nil ?_
  refine GC.block ?_
  refine GC.loopJ (fun N fr' H' => ∃ j st vs sv, j + N = Rs.length ∧ efG path (Rs.drop j) j st vs = efG path Rs 0 none [] ∧ (∀ n q, st = some (n, q) → Rs[n]? = some q) ∧ Own 9 1 sv vs.length (vs.map S) H' ∧ Sub [(12, .slice ad Rs.length cp), (13, I (Rs.length : Nat)), (14, I ((j : Nat) : Int)), (0, .slice ad Rs.length cp), (1, S path), (4, I (numO st)), (5, sv)] fr') Rs.length
    ⟨0, none, [], _, by omega, by rw [List.drop_zero], fun n q h => (by cases h), .nil, .cons rfl (.cons rfl (.cons rfl (.cons rfl (.cons rfl (.cons rfl (.cons rfl .nil))))))⟩ ?_
  rintro N fr' H' ⟨j, st, vs, sv, hj, hef, hst, howns, hs⟩ ih
  refine GC.weak hs ?_
  clear hs
  obtain ⟨ads, cps, rfl⟩ := howns.slice
  refine GC.seq ?_
  refine GC.reg ?_  -- region 3, echo.go:121
  refine G.v (V.lt rfl rfl) rfl ?_
  refine G.nil ?_
  refine GC.seq ?_
  refine GC.condD rfl (fun h15 => ?_) (fun h15 => ?_)
  · refine GC.skip ?_
    refine GC.seq ?_
    refine GC.block ?_
    refine GC.seq ?_
    have hlt : j < Rs.length := by omega
    obtain ⟨r, hr⟩ : ∃ r, Rs[j]? = some r := ⟨_, List.getElem?_eq_getElem hlt⟩
    have hdx := drop_cons hr
    rw [hdx] at hef
    have hrp := hb r (List.mem_of_getElem? hr)
    have hcell : ∃ ab o, ad = some ⟨ab, o, none⟩ ∧ ∀ k v, r.cells[k]? = some v → w.cell? ⟨ab, o + j * 3 + k, none⟩ = some v := hat j r hr
    obtain ⟨ab, o, rfl, hcell⟩ := hcell
    refine GC.reg ?_  -- region 4, echo.go:121
    refine G.v (V.mv rfl) rfl ?_
    refine G.v (V.ia (i := j) Tryd.underlying28 Tryd.sizeOf23 rfl rfl hlt) rfl ?_
    refine G.v (V.ldAC (cs := r.cells) Tryd.isAgg23 Tryd.sizeOf23 rfl hcell rfl id) rfl ?_
    refine G.al Tryd.zeroValue23 rfl rfl (fun xb hxb => ?_)
    refine G.v (V.asg rfl) rfl ?_
    refine G.stA (cs := r.cells) Tryd.sizeOf23 rfl rfl (fun v hv => ?_) .z rfl ?_
    · simp only [RB.cells, List.mem_cons, List.not_mem_nil, or_false] at hv
      rcases hv with rfl | rfl | rfl <;> rfl
    refine G.nil ?_
    refine GC.seq ?_
    refine GC.reg ?_  -- region 5, echo.go:122
    refine G.v (V.fa F23_1 rfl) rfl ?_
    refine G.v (V.ld Tryd.isAgg9 rfl (.head _) rfl) rfl ?_
    refine G.v (V.mv rfl) rfl ?_
    refine G.callW (fun v H2 => ∃ v1 Hv, v = .tuple #[v1, .bool (fitG (parts (ePath r.p)) path []).2.1, .bool (fitG (parts (ePath r.p)) path []).2.2] ∧ Own 9 1 v1 (fitG (parts (ePath r.p)) path []).1.length ((fitG (parts (ePath r.p)) path []).1.map S) Hv ∧ H2 = Hv ++ (⟨xb, true, .row r.cells 23 (0, 0)⟩ :: H')) Tryd.call42 rfl rfl (fun w1 hw1 => ?_) ?_
    · exact (f42_any w1 r.p path (by omega) hp).mono fun e w' ⟨v, Hs, h1, h2, h3⟩ => ⟨_, _, h1, hw1.after0 h3 h2.w, v, Hs, rfl, h2, rfl⟩
    rintro v H2 ⟨v1, Hv, rfl, hownv, rfl⟩
    obtain ⟨adv0, cpv, rfl⟩ := hownv.slice
    refine G.v (V.mv rfl) rfl ?_
    refine G.v (V.ex rfl rfl) rfl ?_
    refine G.v (V.ex rfl rfl) rfl ?_
    refine G.v (V.ex rfl rfl) rfl ?_
    refine G.v (V.asg rfl) rfl ?_
    refine G.v (V.asg rfl) rfl ?_
    refine G.v (V.asg rfl) rfl ?_
    refine G.nil ?_
    refine GC.seq ?_
    refine GC.seq ?_
    refine GC.reg ?_  -- region 6, echo.go:123
    refine G.v (V.mv rfl) rfl ?_
    refine G.nil ?_
    refine GC.cond rfl (fun h27 => ?_) (fun h27 => ?_)
    · refine GC.seq ?_
      refine GC.reg ?_  -- region 7, echo.go:124
      refine G.v (V.asg rfl) rfl ?_
      refine G.v (V.asg rfl) rfl ?_
      refine G.v (V.asg rfl) rfl ?_
      refine G.nil ?_
      refine GC.retR (v := .tuple #[I (-1), .slice none 0 0, .bool true]) (fun a w1 ha hw1 => ?_) fun w' hw' => ?_
      · have g4 := ha.at_ 4 (I (-1)) rfl
        have g5 := ha.at_ 5 (.slice none 0 0) rfl
        have g6 := ha.at_ 6 (.bool true) rfl
        simp [results, g4, g5, g6]
      · refine .inl ⟨?_, rfl, hw'.sub (List.nil_sublist _)⟩
        rw [← hef]; simp only [efG]; rw [if_pos h27]
    refine GC.skip ?_
    refine GC.seq ?_
    refine GC.join (fun fr' H2 => Sub [(12, .slice (some ⟨ab, o, none⟩) Rs.length cp), (13, I (Rs.length : Nat)), (14, I ((j : Nat) : Int)), (0, .slice (some ⟨ab, o, none⟩) Rs.length cp), (1, S path), (4, I (numO st)), (5, .slice ads vs.length cps), (7, I ((j : Nat) : Int)), (9, .slice adv0 (fitG (parts (ePath r.p)) path []).1.length cpv), (42, .bool ((fitG (parts (ePath r.p)) path []).2.1 && betO r st))] fr' ∧ H2 = Hv ++ (⟨xb, true, .row r.cells 23 (0, 0)⟩ :: H')) (fun J8 => ?_) ?_
    · have hSb : ∀ (H : SH) w1, HF w (fun _ => False) H w1 → (⟨xb, true, .row r.cells 23 (0, 0)⟩ : Ent) ∈ H → ∀ k v, r.cells[k]? = some v → w1.cell? ⟨xb, k, none⟩ = some v := fun H w1 hw hm k v hk => cell_row hw hm (by rw [nth_eq]; exact hk)
      refine GC.turn (H' := Hv ++ (⟨xb, true, .row r.cells 23 (0, 0)⟩ :: H')) (fun w1 hw1 => hw1) ?_
      cases hfo : (fitG (parts (ePath r.p)) path []).2.1 with
      | false =>
        refine GC.regA (fun w1 => ∀ k v, r.cells[k]? = some v → w1.cell? ⟨xb, k, none⟩ = some v) mixed ?_
        refine GA.p 0 rfl (by kernel_rfl) (fun w1 hw1 => hSb _ w1 hw1 (by simp)) (fun _ => V.mv (v := .bool false) rfl) rfl ?_
        refine GA.p 1 rfl (by kernel_rfl) (fun w1 hw1 => hSb _ w1 hw1 (by simp)) (fun _ => V.mv rfl) rfl ?_
        refine GA.un 2 rfl rfl rfl rfl rfl rfl (by kernel_rfl) (fun w1 hw1 => hSb _ w1 hw1 (by simp)) rfl ?_
        refine GA.un 3 rfl rfl rfl rfl rfl rfl (by kernel_rfl) (fun w1 hw1 => hSb _ w1 hw1 (by simp)) rfl ?_
        refine GA.un 4 rfl rfl rfl rfl rfl rfl (by kernel_rfl) (fun w1 hw1 => hSb _ w1 hw1 (by simp)) rfl ?_
        refine GA.unU 5 rfl rfl rfl rfl rfl (by kernel_rfl) (fun w1 hw1 => hSb _ w1 hw1 (by simp)) rfl ?_
        refine GA.unU 6 rfl rfl rfl rfl rfl (by kernel_rfl) (fun w1 hw1 => hSb _ w1 hw1 (by simp)) rfl ?_
        refine GA.unU 7 rfl rfl rfl rfl rfl (by kernel_rfl) (fun w1 hw1 => hSb _ w1 hw1 (by simp)) rfl ?_
        refine GA.unU 8 rfl rfl rfl rfl rfl (by kernel_rfl) (fun w1 hw1 => hSb _ w1 hw1 (by simp)) rfl ?_
        refine GA.unU 9 rfl rfl rfl rfl rfl (by kernel_rfl) (fun w1 hw1 => hSb _ w1 hw1 (by simp)) rfl ?_
        refine GA.unU 10 rfl rfl rfl rfl rfl (by kernel_rfl) (fun w1 hw1 => hSb _ w1 hw1 (by simp)) rfl ?_
        refine GA.unU 11 rfl rfl rfl rfl rfl (by kernel_rfl) (fun w1 hw1 => hSb _ w1 hw1 (by simp)) rfl ?_
        refine GA.unU 12 rfl rfl rfl rfl rfl (by kernel_rfl) (fun w1 hw1 => hSb _ w1 hw1 (by simp)) rfl ?_
        refine GA.un 13 rfl rfl rfl rfl rfl rfl (by kernel_rfl) (fun w1 hw1 => hSb _ w1 hw1 (by simp)) rfl ?_
        refine GA.p 14 rfl (by kernel_rfl) (fun w1 hw1 => hSb _ w1 hw1 (by simp)) (fun _ => V.pickF rfl rfl) rfl ?_
        refine GA.done (by kernel_rfl) ?_
        exact J8 _ _ ⟨.cons rfl (.cons rfl (.cons rfl (.cons rfl (.cons rfl (.cons (rfl) (.cons rfl (.cons rfl (.cons rfl (.cons (by rw [hfo]; rfl) .nil))))))))), rfl⟩
      | true =>
        cases hst2 : st with
        | none =>
          refine GC.regA (fun w1 => ∀ k v, r.cells[k]? = some v → w1.cell? ⟨xb, k, none⟩ = some v) mixed ?_
          refine GA.p 0 rfl (by kernel_rfl) (fun w1 hw1 => hSb _ w1 hw1 (by simp)) (fun _ => V.mv (v := .bool true) rfl) rfl ?_
          refine GA.p 1 rfl (by kernel_rfl) (fun w1 hw1 => hSb _ w1 hw1 (by simp)) (fun _ => V.mv rfl) rfl ?_
          refine GA.pg 2 rfl rfl rfl (by kernel_rfl) (fun w1 hw1 => hSb _ w1 hw1 (by simp)) (fun _ => V.mv (v := I (-1)) rfl) rfl ?_
          refine GA.pg 3 (v := .bool true) rfl rfl rfl (by kernel_rfl) (fun w1 hw1 => hSb _ w1 hw1 (by simp)) (fun w0 => lt_true (by decide) (V.lt rfl rfl)) rfl ?_
          refine GA.pg 4 rfl rfl rfl (by kernel_rfl) (fun w1 hw1 => hSb _ w1 hw1 (by simp)) (fun _ => V.mv rfl) rfl ?_
          refine GA.un 5 rfl rfl rfl rfl rfl rfl (by kernel_rfl) (fun w1 hw1 => hSb _ w1 hw1 (by simp)) rfl ?_
          refine GA.un 6 rfl rfl rfl rfl rfl rfl (by kernel_rfl) (fun w1 hw1 => hSb _ w1 hw1 (by simp)) rfl ?_
          refine GA.un 7 rfl rfl rfl rfl rfl rfl (by kernel_rfl) (fun w1 hw1 => hSb _ w1 hw1 (by simp)) rfl ?_
          refine GA.un 8 rfl rfl rfl rfl rfl rfl (by kernel_rfl) (fun w1 hw1 => hSb _ w1 hw1 (by simp)) rfl ?_
          refine GA.un 9 rfl rfl rfl rfl rfl rfl (by kernel_rfl) (fun w1 hw1 => hSb _ w1 hw1 (by simp)) rfl ?_
          refine GA.un 10 rfl rfl rfl rfl rfl rfl (by kernel_rfl) (fun w1 hw1 => hSb _ w1 hw1 (by simp)) rfl ?_
          refine GA.un 11 rfl rfl rfl rfl rfl rfl (by kernel_rfl) (fun w1 hw1 => hSb _ w1 hw1 (by simp)) rfl ?_
          refine GA.un 12 rfl rfl rfl rfl rfl rfl (by kernel_rfl) (fun w1 hw1 => hSb _ w1 hw1 (by simp)) rfl ?_
          refine GA.pg 13 rfl rfl rfl (by kernel_rfl) (fun w1 hw1 => hSb _ w1 hw1 (by simp)) (fun _ => V.pickT rfl rfl) rfl ?_
          refine GA.p 14 rfl (by kernel_rfl) (fun w1 hw1 => hSb _ w1 hw1 (by simp)) (fun _ => V.pickT rfl rfl) rfl ?_
          refine GA.done (by kernel_rfl) ?_
          exact J8 _ _ ⟨.cons rfl (.cons rfl (.cons rfl (.cons rfl (.cons rfl (.cons (by rw [hst2]; rfl) (.cons rfl (.cons rfl (.cons rfl (.cons (by rw [hfo, hst2]; rfl) .nil))))))))), rfl⟩
        | some nq =>
          obtain ⟨n, q⟩ := nq
          have hq := hst n q hst2
          have hnlt : n < Rs.length := (List.getElem?_eq_some_iff.1 hq).1
          have hqp := hb q (List.mem_of_getElem? hq)
          have hqc : ∀ k v, q.cells[k]? = some v → w.cell? ⟨ab, o + n * 3 + k, none⟩ = some v := by
            obtain ⟨b2, o2, e, h⟩ := hat n q hq
            cases e
            exact h
          have hSc : ∀ (H : SH) w1, HF w (fun _ => False) H w1 → (⟨xb, true, .row r.cells 23 (0, 0)⟩ : Ent) ∈ H → (∀ k v, r.cells[k]? = some v → w1.cell? ⟨xb, k, none⟩ = some v) ∧ (∀ k v, q.cells[k]? = some v → w1.cell? ⟨ab, o + n * 3 + k, none⟩ = some v) := fun H w1 hw hm => ⟨hSb H w1 hw hm, fun k v hk => hw.cellOld (hqc k v hk) id⟩
          refine GC.regA (fun w1 => (∀ k v, r.cells[k]? = some v → w1.cell? ⟨xb, k, none⟩ = some v) ∧ (∀ k v, q.cells[k]? = some v → w1.cell? ⟨ab, o + n * 3 + k, none⟩ = some v)) mixed ?_
          refine GA.p 0 rfl (by kernel_rfl) (fun w1 hw1 => hSc _ w1 hw1 (by simp)) (fun _ => V.mv (v := .bool true) rfl) rfl ?_
          refine GA.p 1 rfl (by kernel_rfl) (fun w1 hw1 => hSc _ w1 hw1 (by simp)) (fun _ => V.mv rfl) rfl ?_
          refine GA.pg 2 rfl rfl rfl (by kernel_rfl) (fun w1 hw1 => hSc _ w1 hw1 (by simp)) (fun _ => V.mv (v := I (n : Nat)) rfl) rfl ?_
          refine GA.pg 3 (v := .bool false) rfl rfl rfl (by kernel_rfl) (fun w1 hw1 => hSc _ w1 hw1 (by simp)) (fun w0 => lt_false (by omega) (V.lt rfl rfl)) rfl ?_
          refine GA.pg 4 rfl rfl rfl (by kernel_rfl) (fun w1 hw1 => hSc _ w1 hw1 (by simp)) (fun _ => V.mv rfl) rfl ?_
          refine GA.pg 5 rfl rfl rfl (by kernel_rfl) (fun w1 hw1 => hSc _ w1 hw1 (by simp)) (fun _ => V.fa F23_1 rfl) rfl ?_
          refine GA.ldg 6 rfl rfl rfl (by kernel_rfl) (fun w1 hw1 => hSc _ w1 hw1 (by simp)) Tryd.isAgg9 rfl (fun w1 h => h.1 1 (S r.p) rfl) rfl ?_
          refine GA.pg 7 rfl rfl rfl (by kernel_rfl) (fun w1 hw1 => hSc _ w1 hw1 (by simp)) (fun _ => V.mv rfl) rfl ?_
          refine GA.pg 8 rfl rfl rfl (by kernel_rfl) (fun w1 hw1 => hSc _ w1 hw1 (by simp)) (fun _ => V.mv (v := I (n : Nat)) rfl) rfl ?_
          refine GA.pg 9 rfl rfl rfl (by kernel_rfl) (fun w1 hw1 => hSc _ w1 hw1 (by simp)) (fun _ => V.ia (i := n) Tryd.underlying28 Tryd.sizeOf23 rfl rfl hnlt) rfl ?_
          refine GA.pg 10 rfl rfl rfl (by kernel_rfl) (fun w1 hw1 => hSc _ w1 hw1 (by simp)) (fun _ => V.fa F23_1 rfl) rfl ?_
          refine GA.ldg 11 rfl rfl rfl (by kernel_rfl) (fun w1 hw1 => hSc _ w1 hw1 (by simp)) Tryd.isAgg9 rfl (fun w1 h => h.2 1 (S q.p) rfl) rfl ?_
          refine GA.one 12 rfl (by kernel_rfl) ?_
          refine GB.gd rfl rfl ?_
          refine GB.callW (xs := [.tmp 34, .tmp 39]) (vs := [S r.p, S q.p]) (fun v H2 => v = .bool (bet (tks r.p) (tks q.p)) ∧ H2 = Hv ++ (⟨xb, true, .row r.cells 23 (0, 0)⟩ :: H')) Tryd.call43 rfl rfl (fun v H2 ⟨_, h2⟩ w1 hw1 => hSc _ w1 hw1 (by rw [h2]; simp)) (fun w1 hw1 => ?_) ?_
          · exact (f43_any w1 r.p q.p (by omega) (by omega)).mono fun e w' ⟨h1, h2⟩ => ⟨_, _, h1, hw1.after0 h2 (fun e he => by cases he), rfl, rfl⟩
          rintro v H2 ⟨rfl, rfl⟩
          refine GA.pg 13 rfl rfl rfl (by kernel_rfl) (fun w1 hw1 => hSc _ w1 hw1 (by simp)) (fun _ => V.pickF rfl rfl) rfl ?_
          refine GA.p 14 rfl (by kernel_rfl) (fun w1 hw1 => hSc _ w1 hw1 (by simp)) (fun _ => V.pickT rfl rfl) rfl ?_
          refine GA.done (by kernel_rfl) ?_
          exact J8 _ _ ⟨.cons rfl (.cons rfl (.cons rfl (.cons rfl (.cons rfl (.cons (by rw [hst2]; rfl) (.cons rfl (.cons rfl (.cons rfl (.cons (by rw [hfo, hst2]; rfl) .nil))))))))), rfl⟩
    rintro fr' H2 ⟨hs8, rfl⟩
    refine GC.weak hs8 ?_
    clear hs8
    refine GC.cond rfl (fun h42 => ?_) (fun h42 => ?_)
    · refine GC.reg ?_  -- region 9, echo.go:127
      refine G.v (V.mv rfl) rfl ?_
      refine G.v (V.mv rfl) rfl ?_
      refine G.v (V.asg rfl) rfl ?_
      refine G.v (V.asg rfl) rfl ?_
      refine G.nil ?_
      refine GC.inBlock ?_
      refine GC.reg ?_  -- region 10, echo.go:121
      refine G.v (V.addI rfl rfl rfl (by omega) (by omega)) rfl ?_
      refine G.v (V.mv rfl) rfl ?_
      refine G.nil ?_
      have hc := h42
      have hl2 : ¬ (fitG (parts (ePath r.p)) path []).2.2 = true := fun h => by rw [h] at h27; cases h27
      simp only [efG] at hef
      rw [if_neg hl2, if_pos hc] at hef
      refine GC.weakH (List.sublist_append_left Hv _) (ih (N - 1) _ _ (by omega) ⟨j + 1, some (j, r), (fitG (parts (ePath r.p)) path []).1, _, by omega, hef, fun n q h => (by cases h; exact hr), hownv, .cons rfl (.cons rfl (.cons rfl (.cons rfl (.cons rfl (.cons rfl (.cons rfl .nil))))))⟩)
    refine GC.skip ?_
    refine GC.inBlock ?_
    refine GC.reg ?_  -- region 10, echo.go:121
    refine G.v (V.addI rfl rfl rfl (by omega) (by omega)) rfl ?_
    refine G.v (V.mv rfl) rfl ?_
    refine G.nil ?_
    have hc : ¬ (((fitG (parts (ePath r.p)) path []).2.1 && betO r st) = true) := fun h => by rw [h] at h42; cases h42
    have hl2 : ¬ (fitG (parts (ePath r.p)) path []).2.2 = true := fun h => by rw [h] at h27; cases h27
    simp only [efG] at hef
    rw [if_neg hl2, if_neg hc] at hef
    refine GC.weakH ((List.sublist_cons_self _ _).trans (List.sublist_append_right Hv _)) (ih (N - 1) _ _ (by omega) ⟨j + 1, st, vs, _, by omega, hef, hst, howns, .cons rfl (.cons rfl (.cons rfl (.cons rfl (.cons rfl (.cons rfl (.cons rfl .nil))))))⟩)
  refine GC.exit rfl ?_
  refine GC.seq ?_
  refine GC.reg ?_  -- region 11, echo.go:130
  refine G.v (V.mv rfl) rfl ?_
  refine G.v (V.mv rfl) rfl ?_
  refine G.v (V.asg rfl) rfl ?_
  refine G.v (V.asg rfl) rfl ?_
  refine G.v (V.asg rfl) rfl ?_
  refine G.nil ?_
  refine GC.retR (v := .tuple #[I (numO st), .slice ads vs.length cps, .bool false]) (fun a w1 ha hw1 => ?_) fun w' hw' => ?_
  · have g4 := ha.at_ 4 (I (numO st)) rfl
    have g5 := ha.at_ 5 (.slice ads vs.length cps) rfl
    have g6 := ha.at_ 6 (.bool false) rfl
    simp [results, g4, g5, g6]
  · refine .inr ⟨st, vs, _, _, ?_, rfl, howns, hw'⟩
    rw [← hef, List.drop_eq_nil_of_le (by omega)]; rfl
end Go.Proofs

/- spec.EchoFind and the search tell the same. No program in sight. -/
namespace Bw
open Go Go.Proofs

theorem efG_noloose {path : List UInt8} : ∀ {l : List RB} {i : Nat} {st : Option (Nat × RB)} {vs : List (List UInt8)} {x}, efG path l i st vs = some x → ∀ r ∈ l, (fitG (parts (ePath r.p)) path []).2.2 = false
  | [], _, _, _, _, _, r, hr => by cases hr
  | a :: l, i, st, vs, x, h, r, hr => by
    simp only [efG] at h
    split at h
    · cases h
    · rename_i hl
      have hla : (fitG (parts (ePath a.p)) path []).2.2 = false := by
        cases h1 : (fitG (parts (ePath a.p)) path []).2.2 with
        | false => rfl
        | true => exact absurd h1 hl
      rcases List.mem_cons.1 hr with rfl | hr
      · exact hla
      · split at h
        · exact efG_noloose h r hr
        · exact efG_noloose h r hr

theorem efG_none {path : List UInt8} : ∀ {l : List RB} {i : Nat} {vs : List (List UInt8)}, (∀ r ∈ l, (fitG (parts (ePath r.p)) path []).2.2 = false) → (∀ r ∈ l, (fitG (parts (ePath r.p)) path []).2.1 = false) → efG path l i none vs = some (none, vs)
  | [], _, _, _, _ => rfl
  | a :: l, i, vs, h1, h2 => by
    simp only [efG]
    rw [if_neg (by rw [h1 a (.head _)]; simp), if_neg (by rw [h2 a (.head _)]; simp)]
    exact efG_none (fun r hr => h1 r (.tail _ hr)) (fun r hr => h2 r (.tail _ hr))

theorem efG_win {path : List UInt8} {Rs : List RB} {n : Nat} {rb : RB} (hrb : Rs[n]? = some rb) (hfit : (fitG (parts (ePath rb.p)) path []).2.1 = true)
    (hnl : ∀ r ∈ Rs, (fitG (parts (ePath r.p)) path []).2.2 = false) (hbest : ∀ k r, Rs[k]? = some r → (fitG (parts (ePath r.p)) path []).2.1 = true → k = n ∨ (bet (tks rb.p) (tks r.p) = true ∧ bet (tks r.p) (tks rb.p) = false)) :
    ∀ (l : List RB) (i : Nat) (st : Option (Nat × RB)) (vs : List (List UInt8)), l = Rs.drop i → i ≤ Rs.length → ((st = some (n, rb) ∧ n < i ∧ vs = (fitG (parts (ePath rb.p)) path []).1) ∨ (i ≤ n ∧ betO rb st = true)) →
      efG path l i st vs = some (some (n, rb), (fitG (parts (ePath rb.p)) path []).1)
  | [], i, st, vs, hl, hi, h => by
    have hlen : Rs.length ≤ i := by
      have := congrArg List.length hl
      simp only [List.length_nil, List.length_drop] at this
      omega
    rcases h with ⟨rfl, _, rfl⟩ | ⟨h1, _⟩
    · rfl
    · have := (List.getElem?_eq_some_iff.1 hrb).1; omega
  | r :: l, i, st, vs, hl, hi, h => by
    have hlt : i < Rs.length := by
      have := congrArg List.length hl
      simp only [List.length_cons, List.length_drop] at this
      omega
    have hri : Rs[i]? = some r := by
      have : (Rs.drop i)[0]? = some r := by rw [← hl]; rfl
      simpa using this
    have hl' : l = Rs.drop (i + 1) := by
      have : (r :: l).tail = (Rs.drop i).tail := by rw [hl]
      simpa using this
    have hnlr := hnl r (List.mem_of_getElem? hri)
    have ih := efG_win hrb hfit hnl hbest l (i + 1)
    simp only [efG]
    rw [if_neg (by rw [hnlr]; simp)]
    rcases h with ⟨rfl, h1, rfl⟩ | ⟨h1, h2⟩
    · have hno : ¬ (((fitG (parts (ePath r.p)) path []).2.1 && betO r (some (n, rb))) = true) := by
        intro hc
        rw [Bool.and_eq_true] at hc
        rcases hbest i r hri hc.1 with h | h
        · omega
        · rw [betO, h.2] at hc; cases hc.2
      rw [if_neg hno]
      exact ih _ _ hl' (by omega) (.inl ⟨rfl, by omega, rfl⟩)
    · by_cases hin : i = n
      · subst hin
        rw [hrb] at hri
        cases hri
        rw [if_pos (by rw [hfit, h2]; rfl)]
        exact ih _ _ hl' (by omega) (.inl ⟨rfl, by omega, rfl⟩)
      · split
        · rename_i hc
          rw [Bool.and_eq_true] at hc
          refine ih _ _ hl' (by omega) (.inr ⟨by omega, ?_⟩)
          rcases hbest i r hri hc.1 with h | h
          · exact absurd h hin
          · exact h.1
        · exact ih _ _ hl' (by omega) (.inr ⟨by omega, h2⟩)

theorem found {Rs : List RB} (hR : Right Rs) (hn : (Rs.map ekey).Nodup) {meth path : List UInt8} (hm : ∀ r ∈ Rs, r.m = meth) (hnf : meth ≠ nfName) {st : Option (Nat × RB)} {vs : List (List UInt8)} (he : efG path Rs 0 none [] = some (st, vs)) :
    (st = none ∧ visK (KS Rs) meth 202 [] path [] none = .back none) ∨ ∃ n rb, st = some (n, rb) ∧ Rs[n]? = some rb ∧ visK (KS Rs) meth 202 [] path [] none = .stop (.hit (rb, n) vs) := by
  have hnl := efG_noloose he
  have hft : ∀ r ∈ Rs, fitG (parts (ePath r.p)) path [] = fitT (prs r.p none).1 path [] := fun r hr => by rw [ePath_of (hR.2 r hr).hd, fit_parts]
  have htk : ∀ r ∈ Rs, tks r.p = (prs r.p none).1 := fun r hr => by unfold tks; rw [ePath_of (hR.2 r hr).hd]
  have hmem : ∀ k : RB × Nat, k ∈ Rs.zipIdx.reverse → k.1 ∈ Rs := fun k hk => List.mem_of_getElem? (mem_KS.1 hk)
  have hs := search (tk := tkk) (m := mk') (l := Rs.zipIdx.reverse) (meth := meth) (fun a ha => hm a.1 (hmem a ha)) hnf (fun a ha b hb h => by
    obtain ⟨a1, i⟩ := a
    obtain ⟨b1, j⟩ := b
    have h1 := mem_KS.1 ha
    have h2 := mem_KS.1 hb
    have := apart_of hR hn h1 h2 h (by rw [hm a1 (hmem _ ha), hm b1 (hmem _ hb)])
    simp only at this
    subst this
    rw [h1] at h2
    simp only [Option.some.injEq] at h2
    rw [h2]) (fun a ha => prs_TkOk _ _ (hR.2 a.1 (hmem a ha)).okR) (fun a ha => by have := prs_len a.1.p none; have := (hR.2 a.1 (hmem a ha)).pl; show (prs a.1.p none).1.length ≤ 200; omega)
    202 [] path [] (by simp) (by simp) (fun k hk u hu => by rw [List.nil_append] at hu; rw [← hu]; exact prs_TkOk _ _ (hR.2 k.1 (hmem k hk)).okR)
    (fun k hk u hu => by
      rw [List.nil_append] at hu
      rw [← hu]
      show (fitT (prs k.1.p none).1 path []).2.2 = false
      rw [← hft k.1 (hmem k hk)]; exact hnl k.1 (hmem k hk))
  rcases hs with ⟨k, u, h1, h2, h3, h4, h5⟩ | ⟨h1, h2⟩
  · right
    obtain ⟨rb, n⟩ := k
    have hrb := mem_KS.1 h1
    have hrm := hmem _ h1
    rw [List.nil_append] at h2
    have hu : u = (prs rb.p none).1 := h2.symm
    subst hu
    have hw := efG_win (path := path) hrb (by rw [hft rb hrm]; exact h3) hnl (fun j r hj hf => by
      have hrj := List.mem_of_getElem? hj
      rw [hft r hrj] at hf
      rcases h5 (r, j) (prs r.p none).1 (mem_KS.2 hj) (by rw [List.nil_append]; rfl) hf with h | h
      · left; cases h; rfl
      · right; rw [htk rb hrm, htk r hrj]; exact h) Rs 0 none [] rfl (Nat.zero_le _) (.inr ⟨Nat.zero_le _, rfl⟩)
    rw [he] at hw
    cases hw
    refine ⟨n, rb, rfl, hrb, ?_⟩
    show visK (KOf tkk mk' Rs.zipIdx.reverse) meth 202 [] path [] none = _
    rw [h4, hft rb hrm]
  · left
    have hw := efG_none (path := path) (l := Rs) (i := 0) (vs := []) hnl (fun r hr => by
      obtain ⟨j, hj⟩ := List.getElem?_of_mem hr
      rw [hft r hr]
      exact h2 (r, j) (prs r.p none).1 (mem_KS.2 hj) (by rw [List.nil_append]; rfl))
    rw [he] at hw
    cases hw
    exact ⟨rfl, h1⟩
end Bw
