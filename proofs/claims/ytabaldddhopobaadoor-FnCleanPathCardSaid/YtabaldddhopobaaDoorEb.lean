/- What the given cleaning of paths by parts does. -/
import Derived.Test.YtabaldddhopobaaDoorEa
import Derived.Test.YtabaldddhopobaaDoorPa
import Derived.Test.YtabaldddhopobaaDoorShelf
import Derived.Lib.Join
/- spec.Sections, spec.CleanPath. Printed by wip/mk_gs3.py. -/
namespace Go.Proofs
open Go Bw
set_option maxRecDepth 20000

theorem _root_.Bw.HF.below {w0 D H w w'} (h : HF w0 D H w) (hb : Go.RowKit.Below w.heap.size w w') : HF w0 D H w' :=
  ⟨Nat.le_trans h.size hb.size, fun b h1 h2 => (hb.block b (Nat.lt_of_lt_of_le h1 h.size)).trans (h.frame b h1 h2), fun e he => (hb.block e.b (h.lt he)).trans (h.has e he), h.wr, h.nd, hb.tape.trans h.tape, hb.os.trans h.os, hb.output.trans h.output⟩
theorem _root_.Bw.Own.cut {e sz n cap i : Nat} {ad : Option Addr} {xs : List Value} {Hs : SH} (h : Own e sz (.slice ad n cap) n xs Hs) (hi : i ≤ n) : Own e sz (.slice ad i cap) i (xs.take (i * sz)) Hs := by
  generalize hv : Value.slice ad n cap = v at h
  cases h with
  | nil =>
    cases hv
    have : i = 0 := by omega
    subst this
    simpa using Own.nil
  | @row b _ _ _ spare hn hc hle =>
    cases hv
    have e1 : xs ++ spare = xs.take (i * sz) ++ (xs.drop (i * sz) ++ spare) := by rw [← List.append_assoc, List.take_append_drop]
    rw [e1] at hc ⊢
    exact .row (by rw [List.length_take, hn]; exact Nat.min_eq_left (Nat.mul_le_mul_right _ hi)) hc (by omega)
theorem secs_step {s : List UInt8} {f i : Nat} (hf : f ≤ i) (hn : 47 ∉ (s.take i).drop f) (hx : s[i]? = some 47) : Gs.secs (s.drop f) = (s.take i).drop f :: Gs.secs (s.drop (i + 1)) := by
  have hl := (List.getElem?_eq_some_iff.1 hx).1
  have e : s.drop f = (s.take i).drop f ++ 47 :: s.drop (i + 1) := by
    have h1 : s.drop i = 47 :: s.drop (i + 1) := by rw [List.drop_eq_getElem_cons hl]; rw [List.getElem?_eq_getElem hl] at hx; rw [Option.some.inj hx]
    rw [← h1]
    have h2 : s.drop f = (s.drop f).take (i - f) ++ (s.drop f).drop (i - f) := (List.take_append_drop _ _).symm
    rw [h2, List.drop_drop, List.drop_take, show f + (i - f) = i by omega]
  rw [e, Gs.secs_elem hn]
theorem f21_any (w : World) (s : List UInt8) (hs : s.length ≤ 1000000) : Calls Tryd.prog 21 #[S s] w fun e w' => ∃ v Hs, e = .returned v ∧ Own 9 1 v (Gs.secs s).length ((Gs.secs s).map S) Hs ∧ HF w (fun _ => False) Hs w' := by
  refine enter (fun _ => False) [] Tryd.func21 rfl Tryd.ntmps21 rfl rfl (HF.start w _) fun c hc => ?_
  subst hc
  refine GC.seq ?_
  refine GC.reg ?_  -- region 0, ginmore.go:54
  refine G.v (V.asg rfl) rfl ?_
  refine G.nil ?_
  refine GC.seq ?_
  refine GC.reg ?_  -- region 1, ginmore.go:55
  refine G.v (V.asg rfl) rfl ?_
  refine G.nil ?_
  refine GC.seq ?_
  refine GC.reg ?_  -- region 2, ginmore.go:56
  refine G.v (V.asg rfl) rfl ?_
  refine G.nil ?_
  refine GC.seq ?_
  refine GC.seq ?_
  refine GC.reg ?_  -- region 3, ginmore.go:57
  refine G.v (V.asg rfl) rfl ?_
  refine G.nil ?_
  refine GC.block ?_
  refine GC.loopJ (fun N fr' H' => ∃ (i f : Nat) (done : List (List UInt8)) (sv : Value) (Hs : SH), i + N = s.length + 1 ∧ ((i ≤ s.length ∧ f ≤ i ∧ Gs.secs s = done ++ Gs.secs (s.drop f) ∧ 47 ∉ (s.take i).drop f ∧ done.length ≤ i) ∨ (i = s.length + 1 ∧ Gs.secs s = done ∧ f ≤ i ∧ done.length ≤ i)) ∧ Own 9 1 sv done.length (done.map S) Hs ∧ Sub [(0, S s), (3, sv), (4, I ((f : Nat) : Int)), (5, I ((i : Nat) : Int))] fr' ∧ Hs = H') (s.length + 1)
    ⟨0, 0, [], _, [], by omega, .inl ⟨by omega, by omega, by simp, by simp, by simp⟩, .nil, .cons rfl (.cons rfl (.cons rfl (.cons rfl .nil))), rfl⟩ ?_
  rintro N fr' H' ⟨i, f, done, sv, Hs, hi, hinv, hown, hs, rfl⟩ ih
  refine GC.weak hs ?_
  clear hs
  refine GC.seq ?_
  refine GC.seq ?_
  obtain ⟨ads, cps, rfl⟩ := hown.slice
  refine GC.reg ?_  -- region 4, ginmore.go:57
  refine G.v (V.mv rfl) rfl ?_
  refine G.v (V.mv rfl) rfl ?_
  refine G.v (V.lenS Tryd.underlying9 rfl) rfl ?_
  refine G.v (V.le rfl rfl) rfl ?_
  refine G.nil ?_
  refine GC.condD rfl (fun h9 => ?_) (fun h9 => ?_)
  · refine GC.skip ?_
    refine GC.seq ?_
    refine GC.block ?_
    refine GC.seq ?_
    refine GC.join (fun fr' H' => ∃ t : Bool, (t = true → i = s.length ∨ s[i]? = some 47) ∧ (t = false → ∃ x, s[i]? = some x ∧ x ≠ 47) ∧ Sub [(0, S s), (3, .slice ads done.length cps), (4, I ((f : Nat) : Int)), (5, I ((i : Nat) : Int)), (21, .bool t)] fr' ∧ Hs = H') (fun J6 => ?_) ?_
    · obtain ⟨h1, h2, h3, h4, h5⟩ : i ≤ s.length ∧ f ≤ i ∧ Gs.secs s = done ++ Gs.secs (s.drop f) ∧ 47 ∉ (s.take i).drop f ∧ done.length ≤ i := by
        rcases hinv with h | h
        · exact h
        · omega
      refine GC.reg ?_  -- region 6, ginmore.go:58
      refine G.v (V.mv rfl) rfl ?_
      refine G.v (V.mv rfl) rfl ?_
      refine G.v (V.lenS Tryd.underlying9 rfl) rfl ?_
      refine G.v (V.eqI rfl rfl) rfl ?_
      refine G.v (V.mv rfl) rfl ?_
      refine G.bc 16 rfl (fun h16 => ?_) (fun h16 => ?_)
      · refine G.sg rfl rfl rfl rfl rfl rfl ?_
        refine G.sg rfl rfl rfl rfl rfl rfl ?_
        refine G.sg rfl rfl rfl rfl rfl rfl ?_
        refine G.sg rfl rfl rfl rfl rfl rfl ?_
        refine G.v (V.pickT rfl rfl) rfl ?_
        refine G.nil ?_
        exact J6 _ _ ⟨true, fun _ => .inl (by have := of_decide_eq_true h16; omega), fun h => (by cases h), .cons rfl (.cons rfl (.cons rfl (.cons rfl (.cons rfl .nil)))), rfl⟩
      · have hlt : i < s.length := by have := of_decide_eq_false h16; omega
        obtain ⟨x, hx⟩ : ∃ x, s[i]? = some x := ⟨_, List.getElem?_eq_getElem hlt⟩
        refine G.vg rfl rfl (V.mv rfl) rfl ?_
        refine G.vg rfl rfl (V.mv rfl) rfl ?_
        refine G.vg rfl rfl (V.idx (i := i) (b := x) Tryd.underlying9 rfl rfl hx) rfl ?_
        refine G.vg rfl rfl (V.eqI rfl rfl) rfl ?_
        refine G.v (V.pickF rfl rfl) rfl ?_
        refine G.nil ?_
        exact J6 _ _ ⟨_, fun h => .inr (by rw [hx, u47 (of_decide_eq_true h)]), fun h => ⟨x, hx, fun e => absurd h (by rw [e]; decide)⟩, .cons rfl (.cons rfl (.cons rfl (.cons rfl (.cons rfl .nil)))), rfl⟩
    rintro fr' H' ⟨t, ht1, ht2, hs6, rfl⟩
    refine GC.weak hs6 ?_
    clear hs6
    obtain ⟨h1, h2, h3, h4, h5⟩ : i ≤ s.length ∧ f ≤ i ∧ Gs.secs s = done ++ Gs.secs (s.drop f) ∧ 47 ∉ (s.take i).drop f ∧ done.length ≤ i := by
      rcases hinv with h | h
      · exact h
      · omega
    refine GC.join (fun fr' H' => ∃ (f' : Nat) (done' : List (List UInt8)) (sv' : Value) (Hs' : SH), ((i + 1 ≤ s.length ∧ f' ≤ i + 1 ∧ Gs.secs s = done' ++ Gs.secs (s.drop f') ∧ 47 ∉ (s.take (i + 1)).drop f' ∧ done'.length ≤ i + 1) ∨ (i + 1 = s.length + 1 ∧ Gs.secs s = done' ∧ f' ≤ i + 1 ∧ done'.length ≤ i + 1)) ∧ Own 9 1 sv' done'.length (done'.map S) Hs' ∧ Sub [(0, S s), (3, sv'), (4, I ((f' : Nat) : Int)), (5, I ((i : Nat) : Int))] fr' ∧ (∀ w1, HF w (fun _ => False) H' w1 → HF w (fun _ => False) Hs' w1)) (fun J21 => ?_) ?_
    · refine GC.cond rfl (fun h21 => ?_) (fun h21 => ?_)
      · refine GC.seq ?_
        refine GC.reg ?_  -- region 7, ginmore.go:59
        refine G.v (V.mv rfl) rfl ?_
        refine G.v (V.mv rfl) rfl ?_
        refine G.v (V.mv rfl) rfl ?_
        refine G.v (V.mv rfl) rfl ?_
        refine G.v (V.slLHe (i := f) (j := i) Tryd.underlying9 rfl rfl rfl h2 h1 rfl) rfl ?_
        refine G.bs (BS.one Tryd.underlying32 Tryd.sizeOf9 Tryd.zeroValue9 (v := S ((s.take i).drop f)) rfl) rfl rfl (fun tb htb => ?_)
        refine G.app (i := Tryd.t9) (sz := 1) (by_ := 16) Tryd.underlying32 rfl rfl rfl rfl rfl rfl rfl hown (H' := [⟨tb, true, .row [S ((s.take i).drop f)] 9 (0, 0)⟩]) (List.perm_append_comm (l₁ := ([⟨tb, true, .row [S ((s.take i).drop f)] 9 (0, 0)⟩] : SH))) (src_row (vs := [S ((s.take i).drop f)]) (r := []) (.head _)) rfl (by simp [Value.oneCell']) (by omega) (by omega) (by omega) rfl (fun sv2 Hs2 hown2 => ?_)
        refine G.v (V.asg rfl) rfl ?_
        refine G.nil ?_
        refine GC.reg ?_  -- region 8, ginmore.go:60
        refine G.v (V.mv rfl) rfl ?_
        refine G.v (V.addI (r := ((i + 1 : Nat) : Int)) rfl rfl rfl (by omega) (by omega)) rfl ?_
        refine G.v (V.asg rfl) rfl ?_
        refine G.nil ?_
        have hown3 : Own 9 1 sv2 (done ++ [(s.take i).drop f]).length ((done ++ [(s.take i).drop f]).map S) Hs2 := by simpa using hown2
        refine J21 _ _ ⟨i + 1, done ++ [(s.take i).drop f], sv2, Hs2, ?_, hown3, .cons rfl (.cons rfl (.cons rfl (.cons rfl .nil))), fun w1 h => h.sub (List.sublist_append_right _ _)⟩
        rcases ht1 h21 with he | he
        · right
          refine ⟨by omega, ?_, by omega, by simp; omega⟩
          rw [h3]
          rw [he, List.take_length] at h4 ⊢
          rw [Gs.secs_plain h4]
        · left
          have hl := (List.getElem?_eq_some_iff.1 he).1
          refine ⟨by omega, by omega, ?_, by simp, by simp; omega⟩
          rw [h3, secs_step h2 h4 he]; simp
      refine GC.skip ?_
      obtain ⟨x, hx, hne⟩ := ht2 h21
      have hl := (List.getElem?_eq_some_iff.1 hx).1
      refine J21 _ _ ⟨f, done, _, Hs, .inl ⟨by omega, by omega, h3, ?_, by omega⟩, hown, .cons rfl (.cons rfl (.cons rfl (.cons rfl .nil))), fun w1 h => h⟩
      rw [List.take_add_one, hx, List.drop_append_of_le_length (by rw [List.length_take]; omega)]
      simp only [Option.toList_some, List.mem_append, List.mem_singleton, not_or]
      exact ⟨h4, fun e => hne e.symm⟩
    rintro fr' H' ⟨f2, done2, sv2, Hs2, hinv2, hown2, hs21, hH⟩
    refine GC.weak hs21 ?_
    clear hs21
    refine GC.turn hH ?_
    refine GC.inBlock ?_
    refine GC.reg ?_  -- region 5, ginmore.go:57
    refine G.v (V.mv rfl) rfl ?_
    refine G.v (V.addI (r := ((i + 1 : Nat) : Int)) rfl rfl rfl (by omega) (by omega)) rfl ?_
    refine G.v (V.asg rfl) rfl ?_
    refine G.nil ?_
    exact ih (N - 1) _ _ (by omega) ⟨i + 1, f2, done2, sv2, Hs2, by omega, hinv2, hown2, .cons rfl (.cons rfl (.cons rfl (.cons rfl .nil))), rfl⟩
  refine GC.exit rfl ?_
  refine GC.seq ?_
  refine GC.reg ?_  -- region 9, ginmore.go:63
  refine G.v (V.mv rfl) rfl ?_
  refine G.v (V.asg rfl) rfl ?_
  refine G.nil ?_
  have hd : Gs.secs s = done := by
    rcases hinv with h | h
    · omega
    · exact h.2.1
  exact GC.ret1 rfl rfl fun w' hw' => ⟨_, Hs, rfl, by rw [hd]; exact hown, hw'⟩

end Go.Proofs

/- spec.CleanPath. Printed by wip/mk_gs4.py. -/
namespace Go.Proofs
open Go Bw
set_option maxRecDepth 20000

theorem pf_take {l : List (List UInt8)} {i : Nat} {x : List UInt8} (h : l[i]? = some x) : Gs.pfold [] (l.take (i + 1)) = Gs.pstep (Gs.pfold [] (l.take i)) x := by
  rw [List.take_add_one, h]; simp [Gs.pfold]
theorem pf_len : ∀ (l : List (List UInt8)) (ps : List (List UInt8)), (Gs.pfold ps l).length ≤ ps.length + l.length
  | [], ps => by simp [Gs.pfold]
  | x :: l, ps => by
    have := pf_len l (Gs.pstep ps x)
    have h2 : (Gs.pstep ps x).length ≤ ps.length + 1 := by
      unfold Gs.pstep
      split
      · omega
      · split
        · simp; omega
        · simp
    show (Gs.pfold (Gs.pstep ps x) l).length ≤ _
    simp; omega
theorem pf_bytes (B : Nat) : ∀ (l : List (List UInt8)) (ps : List (List UInt8)), (∀ x ∈ ps, x.length ≤ B) → (∀ x ∈ l, x.length ≤ B) → ∀ x ∈ Gs.pfold ps l, x.length ≤ B
  | [], _, h, _ => h
  | y :: l, ps, h, h2 => by
    refine pf_bytes B l (Gs.pstep ps y) (fun x hx => ?_) (fun x hx => h2 x (.tail _ hx))
    unfold Gs.pstep at hx
    split at hx
    · exact h x hx
    · split at hx
      · exact h x (List.dropLast_subset _ hx)
      · rcases List.mem_append.1 hx with hx | hx
        · exact h x hx
        · rw [List.mem_singleton.1 hx]; exact h2 y (.head _)
theorem slj_join : ∀ {ps : List (List UInt8)}, ps ≠ [] → 47 :: Lib.join ps [47] = Gs.slj ps
  | [p], _ => by simp [Lib.join, Gs.slj, List.intercalate]
  | p :: q :: ps, _ => by
    have ih := slj_join (ps := q :: ps) (by simp)
    rw [Gs.slj, ← ih]
    simp [Lib.join, List.intercalate, List.intersperse]
theorem pout_join (ps : List (List UInt8)) : 47 :: Lib.join ps [47] = Gs.pout ps := by
  unfold Gs.pout
  by_cases h : ps = []
  · subst h; simp [Lib.join, List.intercalate]
  · rw [if_neg h, slj_join h]
theorem join_len (B : Nat) : ∀ (ps : List (List UInt8)), (∀ x ∈ ps, x.length ≤ B) → (Gs.slj ps).length ≤ ps.length * (B + 1)
  | [], _ => by simp [Gs.slj]
  | p :: ps, h => by
    have := join_len B ps fun x hx => h x (.tail _ hx)
    have := h p (.head _)
    simp [Gs.slj, Nat.add_mul]; omega
theorem join_any (w : World) (sv : Value) (ps : List (List UInt8)) (Hs : SH) (hown : Own 9 1 sv ps.length (ps.map S) Hs) (w0 : World) (D : Nat → Prop) (H : SH) (hw : HF w0 D (Hs ++ H) w) (hl : ps.length ≤ 3000) (hb : ∀ x ∈ ps, x.length ≤ 3000) :
    Calls Tryd.prog 22 #[sv, S [47]] w fun e w' => e = .returned (S (Lib.join ps [47])) ∧ HF w0 D (Hs ++ H) w' := by
  cases ps with
  | nil =>
    obtain ⟨ad, cap, rfl⟩ := hown.slice
    refine (Tryd.strings_Join_none ad cap ⟨#[47]⟩ w).mono fun e w' ⟨h1, h2⟩ => ⟨?_, by rw [h2]; exact hw⟩
    rw [h1]; simp [Lib.join, List.intercalate, S]
  | cons p ps =>
    obtain ⟨ad, cap, rfl⟩ := hown.slice
    have hcap := Own.le hown
    obtain ⟨b, _, sp, he, rfl⟩ := hown.at (i := 0) (by simp)
    cases he
    have hbk := hw.lt (.head _)
    have hjl : (Lib.join (p :: ps) [47]).length ≤ 140737488355328 := by
      have h1 := congrArg List.length (slj_join (ps := p :: ps) (by simp))
      have h2 := join_len 3000 (p :: ps) hb
      have h3 : (p :: ps).length * 3001 ≤ 3000 * 3001 := Nat.mul_le_mul_right _ hl
      rw [List.length_cons] at h1
      omega
    have hxs : ((p :: ps).map fun x => (⟨x.toArray⟩ : ByteArray)).map (·.data.toList) = p :: ps := by rw [List.map_map]; exact List.map_id' _
    have h := Tryd.strings_Join b 0 cap ((p :: ps).map fun x => (⟨x.toArray⟩ : ByteArray)) ⟨#[47]⟩ w (fun j x hj => ?_) hbk (by rw [List.length_map]; omega) (by rw [List.length_map]; exact hcap) (by rw [hxs]; exact hjl)
    · rw [List.length_map, hxs] at h
      exact h.mono fun e w' ⟨h1, h2⟩ => ⟨h1, hw.below h2⟩
    · rw [List.getElem?_map] at hj
      obtain ⟨y, hy, rfl⟩ := Option.map_eq_some_iff.1 hj
      refine cell_row hw (.head _) ?_
      rw [nth_eq, Nat.zero_add, List.getElem?_append_left (by simpa using (List.getElem?_eq_some_iff.1 hy).1), List.getElem?_map, hy]
      rfl
theorem f14_any (w : World) (s : List UInt8) (hs : s.length ≤ 2000) : Calls Tryd.prog 14 #[S s] w fun e w' => e = .returned (S (Gs.clean s)) ∧ HF w (fun _ => False) [] w' := by
  refine enter (fun _ => False) [] Tryd.func14 rfl Tryd.ntmps14 rfl rfl (HF.start w _) fun c hc => ?_
  subst hc
  have hsl := Gs.secs_len s
  have hpl : ∀ i, (Gs.pfold [] ((Gs.secs s).take i)).length ≤ i := fun i => by have := pf_len ((Gs.secs s).take i) []; rw [List.length_take] at this; simp at this; omega
  obtain ⟨L, hL⟩ : ∃ L, Gs.secs s = L := ⟨_, rfl⟩
  rw [hL] at hpl hsl
  refine GC.seq ?_
  refine GC.reg ?_  -- region 0, ginmore.go:88
  refine G.v (V.asg rfl) rfl ?_
  refine G.nil ?_
  refine GC.seq ?_
  refine GC.reg ?_  -- region 1, ginmore.go:89
  refine G.v (V.asg rfl) rfl ?_
  refine G.nil ?_
  refine GC.seq ?_
  refine GC.reg ?_  -- region 2, ginmore.go:90
  refine G.v (V.asg rfl) rfl ?_
  refine G.nil ?_
  refine GC.seq ?_
  refine GC.seq ?_
  refine GC.reg ?_  -- region 3, ginmore.go:91
  refine G.v (V.mv rfl) rfl ?_
  refine G.callW (fun v H2 => Own 9 1 v L.length (L.map S) H2) Tryd.call21 rfl rfl (fun w1 hw1 => ?_) ?_
  · exact (f21_any w1 s (by omega)).mono fun e w' ⟨v, Hs, h1, h2, h3⟩ => ⟨v, _, h1, by have := hw1.after0 h3 h2.w; simpa using this, by rw [← hL]; exact h2⟩
  rintro v HL hownL
  obtain ⟨adl, cpl, rfl⟩ := hownL.slice
  refine G.v (V.lenL Tryd.underlying32 rfl) rfl ?_
  refine G.v (V.mv rfl) rfl ?_
  refine G.nil ?_
  refine GC.block ?_
  refine GC.loopJ (fun N fr' H' => ∃ (i : Nat) (sl : Bool) (sv : Value) (Hs : SH), i + N = L.length ∧ (i = L.length → (sl = true ↔ Gs.tr L = true)) ∧ Own 9 1 sv (Gs.pfold [] (L.take i)).length ((Gs.pfold [] (L.take i)).map S) Hs ∧ Sub [(3, sv), (4, .bool sl), (9, .slice adl L.length cpl), (10, I (L.length : Nat)), (11, I ((i : Nat) : Int))] fr' ∧ Hs ++ HL = H') L.length
    ⟨0, false, _, [], by omega, fun h => absurd (List.length_eq_zero_iff.1 h.symm) (by rw [← hL]; exact Gs.secs_ne s), .nil, .cons rfl (.cons rfl (.cons rfl (.cons rfl (.cons rfl .nil)))), rfl⟩ ?_
  rintro N fr' H' ⟨i, sl, sv, Hs, hi, hsl2, hown, hs, rfl⟩ ih
  refine GC.weak hs ?_
  clear hs
  refine GC.seq ?_
  obtain ⟨ads, cps, rfl⟩ := hown.slice
  have hpi := hpl i
  refine GC.reg ?_  -- region 4, ginmore.go:91
  refine G.v (V.lt rfl rfl) rfl ?_
  refine G.nil ?_
  refine GC.seq ?_
  refine GC.condD rfl (fun h12 => ?_) (fun h12 => ?_)
  · refine GC.skip ?_
    refine GC.seq ?_
    refine GC.block ?_
    refine GC.seq ?_
    have hlt : i < L.length := by omega
    obtain ⟨p, hp⟩ : ∃ p, L[i]? = some p := ⟨_, List.getElem?_eq_getElem hlt⟩
    obtain ⟨lb, lc, lsp, hle, rfl⟩ := hownL.at hlt
    cases hle
    have hpf := pf_take hp
    refine GC.reg ?_  -- region 5, ginmore.go:91
    refine G.v (V.mv rfl) rfl ?_
    refine G.v (V.ia (i := i) Tryd.underlying32 Tryd.sizeOf9 rfl rfl hlt) rfl ?_
    refine G.v (V.ld (b := lb) (off := 0 + i * 1) (wf := true) (l := L.map S ++ lsp) (T := 9) (fz := (0, 0)) (v := S p) Tryd.isAgg9 rfl (List.mem_append_right _ (.head _)) (by rw [nth_eq, Nat.zero_add, Nat.mul_one, List.getElem?_append_left (by simpa using hlt), List.getElem?_map, hp]; rfl)) rfl ?_
    refine G.v (V.asg rfl) rfl ?_
    refine G.v (V.asg rfl) rfl ?_
    refine G.nil ?_
    refine GC.seq ?_
    refine GC.join (fun fr' H' => ∃ sl2 : Bool, (sl2 = true ↔ (p = [] ∧ 0 < i) ∨ p = [46]) ∧ Sub [(3, .slice ads (Gs.pfold [] (L.take i)).length cps), (4, .bool sl2), (6, S p), (9, .slice (some ⟨lb, 0, none⟩) L.length cpl), (10, I (L.length : Nat)), (11, I ((i : Nat) : Int))] fr' ∧ Hs ++ [⟨lb, true, .row (L.map S ++ lsp) 9 (0, 0)⟩] = H') (fun J6 => ?_) ?_
    · refine GC.reg ?_  -- region 6, ginmore.go:92
      refine G.v (V.mv rfl) rfl ?_
      refine G.v (V.eqS rfl rfl) rfl ?_
      refine G.v (V.mv rfl) rfl ?_
      refine G.bc 18 rfl (fun h18 => ?_) (fun h18 => ?_)
      · refine G.vg rfl rfl (V.mv rfl) rfl ?_
        refine G.vg rfl rfl (V.gt rfl rfl) rfl ?_
        refine G.v (V.pickT rfl rfl) rfl ?_
        refine G.v (V.mv rfl) rfl ?_
        refine G.bc 22 rfl (fun h22 => ?_) (fun h22 => ?_)
        · refine G.sg rfl rfl rfl rfl rfl rfl ?_
          refine G.sg rfl rfl rfl rfl rfl rfl ?_
          refine G.v (V.pickT rfl rfl) rfl ?_
          refine G.v (V.asg rfl) rfl ?_
          refine G.nil ?_
          exact J6 _ _ ⟨_, ⟨fun _ => .inl ⟨of_decide_eq_true h18, by have := of_decide_eq_true h22; omega⟩, fun _ => rfl⟩, .cons rfl (.cons rfl (.cons rfl (.cons rfl (.cons rfl (.cons rfl .nil))))), rfl⟩
        · refine G.vg rfl rfl (V.mv rfl) rfl ?_
          refine G.vg rfl rfl (V.eqS rfl rfl) rfl ?_
          refine G.v (V.pickF rfl rfl) rfl ?_
          refine G.v (V.asg rfl) rfl ?_
          refine G.nil ?_
          refine J6 _ _ ⟨_, ⟨fun h => .inr (of_decide_eq_true h), fun h => ?_⟩, .cons rfl (.cons rfl (.cons rfl (.cons rfl (.cons rfl (.cons rfl .nil))))), rfl⟩
          rcases h with ⟨_, h⟩ | h
          · have := of_decide_eq_false h22; omega
          · exact decide_eq_true h
      · refine G.sg rfl rfl rfl rfl rfl rfl ?_
        refine G.sg rfl rfl rfl rfl rfl rfl ?_
        refine G.v (V.pickF rfl rfl) rfl ?_
        refine G.v (V.mv rfl) rfl ?_
        refine G.vg rfl rfl (V.mv rfl) rfl ?_
        refine G.vg rfl rfl (V.eqS rfl rfl) rfl ?_
        refine G.v (V.pickF rfl rfl) rfl ?_
        refine G.v (V.asg rfl) rfl ?_
        refine G.nil ?_
        refine J6 _ _ ⟨_, ⟨fun h => .inr (of_decide_eq_true h), fun h => ?_⟩, .cons rfl (.cons rfl (.cons rfl (.cons rfl (.cons rfl (.cons rfl .nil))))), rfl⟩
        rcases h with ⟨h, _⟩ | h
        · exact absurd h (of_decide_eq_false h18)
        · exact decide_eq_true h
    rintro fr' H' ⟨sl2, hsl3, hs6, rfl⟩
    refine GC.weak hs6 ?_
    clear hs6
    refine GC.seq ?_
    refine GC.reg ?_  -- region 7, ginmore.go:93
    refine G.v (V.mv rfl) rfl ?_
    refine G.nil ?_
    refine GC.join (fun fr' H' => ∃ (sv' : Value) (Hs' : SH), Own 9 1 sv' (Gs.pfold [] (L.take (i + 1))).length ((Gs.pfold [] (L.take (i + 1))).map S) Hs' ∧ Sub [(3, sv'), (4, .bool sl2), (9, .slice (some ⟨lb, 0, none⟩) L.length cpl), (10, I (L.length : Nat)), (11, I ((i : Nat) : Int))] fr' ∧ (∀ w1, HF w (fun _ => False) H' w1 → HF w (fun _ => False) (Hs' ++ [⟨lb, true, .row (L.map S ++ lsp) 9 (0, 0)⟩]) w1)) (fun J2 => ?_) ?_
    · refine GC.block ?_
      refine GC.seq ?_
      refine GC.seq ?_
      refine GC.reg ?_  -- region 9, ginmore.go:94
      refine G.v (V.eqS rfl rfl) rfl ?_
      refine G.v (V.asg rfl) rfl ?_
      refine G.nil ?_
      refine GC.condD rfl (fun h31 => ?_) (fun h31 => ?_)
      · refine GC.skip ?_
        refine GC.condD rfl (fun h31 => ?_) (fun h31 => by contradiction)
        refine GC.skip ?_
        refine GC.inBlock ?_
        have hpe : p = [] := by assumption
        have hst : Gs.pstep (Gs.pfold [] (L.take i)) p = (Gs.pfold [] (L.take i)) := by
          unfold Gs.pstep
          rw [if_pos (.inl hpe)]
        rw [hst] at hpf
        exact J2 _ _ ⟨_, Hs, by rw [hpf]; exact hown, .cons rfl (.cons rfl (.cons rfl (.cons rfl (.cons rfl .nil)))), fun w1 h => h⟩
      refine GC.reg ?_  -- region 10, ginmore.go:94
      refine G.v (V.eqS rfl rfl) rfl ?_
      refine G.v (V.asg rfl) rfl ?_
      refine G.nil ?_
      refine GC.condD rfl (fun h31 => ?_) (fun h31 => ?_)
      · refine GC.skip ?_
        refine GC.inBlock ?_
        have hpe : p = [46] := by assumption
        have hst : Gs.pstep (Gs.pfold [] (L.take i)) p = (Gs.pfold [] (L.take i)) := by
          unfold Gs.pstep
          rw [if_pos (.inr hpe)]
        rw [hst] at hpf
        exact J2 _ _ ⟨_, Hs, by rw [hpf]; exact hown, .cons rfl (.cons rfl (.cons rfl (.cons rfl (.cons rfl .nil)))), fun w1 h => h⟩
      refine GC.seq ?_
      refine GC.reg ?_  -- region 11, ginmore.go:95
      refine G.v (V.eqS rfl rfl) rfl ?_
      refine G.v (V.asg rfl) rfl ?_
      refine G.nil ?_
      refine GC.condD rfl (fun h34 => ?_) (fun h34 => ?_)
      · refine GC.seq ?_
        refine GC.reg ?_  -- region 12, ginmore.go:96
        refine G.v (V.mv rfl) rfl ?_
        refine G.v (V.lenL Tryd.underlying32 rfl) rfl ?_
        refine G.v (V.gt rfl rfl) rfl ?_
        refine G.nil ?_
        refine GC.condD rfl (fun h38 => ?_) (fun h38 => ?_)
        · refine GC.reg ?_  -- region 13, ginmore.go:97
          refine G.v (V.mv rfl) rfl ?_
          refine G.v (V.mv rfl) rfl ?_
          refine G.v (V.lenL Tryd.underlying32 rfl) rfl ?_
          refine G.v (V.subI (r := (((Gs.pfold [] (L.take i)).length - 1 : Nat) : Int)) rfl rfl (by omega) (by omega) (by omega)) rfl ?_
          refine G.v (V.slTH (i := (Gs.pfold [] (L.take i)).length - 1) Tryd.underlying32 Tryd.sizeOf9 rfl rfl (by have := Own.le hown; omega)) rfl ?_
          refine G.v (V.asg rfl) rfl ?_
          refine G.nil ?_
          refine GC.inBlock ?_
          have hst : Gs.pstep (Gs.pfold [] (L.take i)) p = (Gs.pfold [] (L.take i)).dropLast := by
            unfold Gs.pstep
            rw [if_neg (by rw [h34]; decide), if_pos h34]
          rw [hst] at hpf
          have hcut := hown.cut (i := (Gs.pfold [] (L.take i)).length - 1) (by omega)
          have hown4 : Own 9 1 (.slice ads ((Gs.pfold [] (L.take i)).length - 1) cps) (Gs.pfold [] (L.take (i + 1))).length ((Gs.pfold [] (L.take (i + 1))).map S) Hs := by
            rw [hpf, List.length_dropLast, List.map_dropLast, List.dropLast_eq_take, List.length_map]
            simpa using hcut
          exact J2 _ _ ⟨_, Hs, hown4, .cons rfl (.cons rfl (.cons rfl (.cons rfl (.cons rfl .nil)))), fun w1 h => h⟩
        refine GC.skip ?_
        refine GC.inBlock ?_
        have he0 : (Gs.pfold [] (L.take i)) = [] := List.length_eq_zero_iff.1 (by omega)
        have hst : Gs.pstep (Gs.pfold [] (L.take i)) p = (Gs.pfold [] (L.take i)) := by
          unfold Gs.pstep
          rw [if_neg (by rw [h34]; decide), if_pos h34, he0]; rfl
        rw [hst] at hpf
        exact J2 _ _ ⟨_, Hs, by rw [hpf]; exact hown, .cons rfl (.cons rfl (.cons rfl (.cons rfl (.cons rfl .nil)))), fun w1 h => h⟩
      refine GC.reg ?_  -- region 8, ginmore.go:100
      refine G.v (V.mv rfl) rfl ?_
      refine G.v (V.mv rfl) rfl ?_
      refine G.bs (BS.one Tryd.underlying32 Tryd.sizeOf9 Tryd.zeroValue9 (v := S p) rfl) rfl rfl (fun tb htb => ?_)
      refine G.app (i := Tryd.t9) (sz := 1) (by_ := 16) Tryd.underlying32 rfl rfl rfl rfl rfl rfl rfl hown (H' := [⟨tb, true, .row [S p] 9 (0, 0)⟩, ⟨lb, true, .row (L.map S ++ lsp) 9 (0, 0)⟩]) ?_ (src_row (vs := [S p]) (r := []) (.head _)) rfl (by simp [Value.oneCell']) (by omega) (by omega) (by omega) rfl (fun sv3 Hs3 hown3 => ?_)
      · exact List.Perm.trans (.of_eq (by simp)) ((perm_idx [([⟨tb, true, .row [S p] 9 (0, 0)⟩] : SH), Hs, [⟨lb, true, .row (L.map S ++ lsp) 9 (0, 0)⟩]] [0, 1, 2] [1, 0, 2] (by decide)).trans (.of_eq (by simp)))
      refine G.v (V.asg rfl) rfl ?_
      refine G.nil ?_
      refine GC.inBlock ?_
      have hst : Gs.pstep (Gs.pfold [] (L.take i)) p = (Gs.pfold [] (L.take i)) ++ [p] := by
        unfold Gs.pstep
        rw [if_neg (by rintro (e | e); contradiction; contradiction), if_neg h34]
      rw [hst] at hpf
      have hown4 : Own 9 1 sv3 (Gs.pfold [] (L.take (i + 1))).length ((Gs.pfold [] (L.take (i + 1))).map S) Hs3 := by
        rw [hpf]; simpa using hown3
      exact J2 _ _ ⟨_, Hs3, hown4, .cons rfl (.cons rfl (.cons rfl (.cons rfl (.cons rfl .nil)))), fun w1 h => (h.sub (List.sublist_cons_self _ _)).perm List.perm_append_comm⟩
    rintro fr' H' ⟨sv2, Hs2, hown2, hs2, hH⟩
    refine GC.weak hs2 ?_
    clear hs2
    refine GC.turn hH ?_
    refine GC.inBlock ?_
    refine GC.reg ?_  -- region 14, ginmore.go:91
    refine G.v (V.addI (r := ((i + 1 : Nat) : Int)) rfl rfl rfl (by omega) (by omega)) rfl ?_
    refine G.v (V.mv rfl) rfl ?_
    refine G.nil ?_
    refine ih (N - 1) _ _ (by omega) ⟨i + 1, sl2, sv2, Hs2, by omega, fun hlast => ?_, hown2, .cons rfl (.cons rfl (.cons rfl (.cons rfl (.cons rfl .nil)))), rfl⟩
    rw [hsl3]
    have hgl : L.getLast? = some p := by rw [List.getLast?_eq_getElem?, show L.length - 1 = i by omega]; exact hp
    simp only [Gs.tr, hgl, decide_eq_true_eq]
    constructor
    · rintro (⟨h, h2⟩ | h)
      · exact .inr ⟨h, by omega⟩
      · exact .inl h
    · rintro (h | ⟨h, h2⟩)
      · exact .inr h
      · exact .inl ⟨h, by omega⟩
  refine GC.exit rfl ?_
  refine GC.seq ?_
  have hie : i = L.length := by omega
  subst hie
  rw [List.take_length] at hown hpi ⊢
  clear ih
  have hse := hsl2 rfl
  have hbt : ∀ x ∈ Gs.pfold [] L, x.length ≤ 3000 := pf_bytes 3000 L [] (by simp) fun x hx => by rw [← hL] at hx; have := Gs.secs_bytes hx; omega
  obtain ⟨ps, hps⟩ : ∃ ps, Gs.pfold [] L = ps := ⟨_, rfl⟩
  rw [hps] at hown hpi hbt ⊢
  have hclean : Gs.clean s = Gs.pout ps ++ (if Gs.tr L = true ∧ ps ≠ [] then [47] else []) := by unfold Gs.clean; rw [hL, hps]
  have hpj : ([47] : List UInt8) ++ Lib.join ps [47] = Gs.pout ps := pout_join ps
  have hjl : (Gs.pout ps).length ≤ 9100000 := by
    unfold Gs.pout
    split
    · simp
    · have h2 := join_len 3000 ps hbt
      have h3 : ps.length * 3001 ≤ 2001 * 3001 := Nat.mul_le_mul_right _ (by omega)
      omega
  have hjl2 : (Lib.join ps [47]).length + 1 = (Gs.pout ps).length := by rw [← hpj]; simp
  refine GC.reg ?_  -- region 15, ginmore.go:103
  refine G.v (V.mv rfl) rfl ?_
  refine G.callW (fun v H2 => v = S (Lib.join ps [47]) ∧ H2 = Hs ++ HL) Tryd.call22 rfl rfl (fun w1 hw1 => ?_) ?_
  · exact (join_any w1 _ ps Hs hown w (fun _ => False) HL hw1 (by omega) hbt).mono fun e w' ⟨h1, h2⟩ => ⟨_, _, h1, h2, rfl, rfl⟩
  rintro v H2 ⟨rfl, rfl⟩
  refine G.v (V.cat (l := [47]) (m := Lib.join ps [47]) rfl rfl (by simp only [List.length_singleton]; omega)) rfl ?_
  rw [hpj]
  refine G.v (V.asg rfl) rfl ?_
  refine G.nil ?_
  refine GC.seq ?_
  refine GC.seq ?_
  refine GC.reg ?_  -- region 16, ginmore.go:104
  refine G.v (V.mv rfl) rfl ?_
  refine G.v (V.mv rfl) rfl ?_
  refine G.bc 49 rfl (fun h49 => ?_) (fun h49 => ?_)
  · refine G.vg rfl rfl (V.mv rfl) rfl ?_
    refine G.vg rfl rfl (V.lenL Tryd.underlying32 rfl) rfl ?_
    refine G.vg rfl rfl (V.gt rfl rfl) rfl ?_
    refine G.v (V.pickT rfl rfl) rfl ?_
    refine G.nil ?_
    refine GC.cond rfl (fun h53 => ?_) (fun h53 => ?_)
    · refine GC.reg ?_  -- region 17, ginmore.go:105
      refine G.v (V.mv rfl) rfl ?_
      refine G.v (V.cat (l := Gs.pout ps) (m := [47]) rfl rfl (by simp only [List.length_singleton]; omega)) rfl ?_
      refine G.v (V.asg rfl) rfl ?_
      refine G.nil ?_
      refine GC.seq ?_
      refine GC.reg ?_  -- region 18, ginmore.go:107
      refine G.v (V.mv rfl) rfl ?_
      refine G.v (V.asg rfl) rfl ?_
      refine G.nil ?_
      have hne : ps ≠ [] := fun e => by rw [e] at h53; exact absurd h53 (by decide)
      exact GC.ret1 rfl rfl fun w' hw' => ⟨by rw [hclean, if_pos ⟨hse.1 h49, hne⟩], hw'.sub (List.nil_sublist _)⟩
    refine GC.skip ?_
    refine GC.seq ?_
    refine GC.reg ?_  -- region 18, ginmore.go:107
    refine G.v (V.mv rfl) rfl ?_
    refine G.v (V.asg rfl) rfl ?_
    refine G.nil ?_
    have he : ps = [] := List.length_eq_zero_iff.1 (by have := of_decide_eq_false h53; omega)
    exact GC.ret1 rfl rfl fun w' hw' => ⟨by rw [hclean, if_neg (fun h => h.2 he), List.append_nil], hw'.sub (List.nil_sublist _)⟩
  · refine G.sg rfl rfl rfl rfl rfl rfl ?_
    refine G.sg rfl rfl rfl rfl rfl rfl ?_
    refine G.sg rfl rfl rfl rfl rfl rfl ?_
    refine G.v (V.pickF rfl rfl) rfl ?_
    refine G.nil ?_
    refine GC.condF rfl ?_
    refine GC.skip ?_
    refine GC.seq ?_
    refine GC.reg ?_  -- region 18, ginmore.go:107
    refine G.v (V.mv rfl) rfl ?_
    refine G.v (V.asg rfl) rfl ?_
    refine G.nil ?_
    exact GC.ret1 rfl rfl fun w' hw' => ⟨by rw [hclean, if_neg (fun h => by rw [hse.2 h.1] at h49; cases h49), List.append_nil], hw'.sub (List.nil_sublist _)⟩

end Go.Proofs
