/- Lists of methods, parted and sorted; routes without parameters. -/
import Derived.Test.YtekclaobeccbdaaDoorBj
import Derived.Test.YtekclaobeccbdaaDoorShelf
import Derived.Sort.OwnSorted
import Derived.Test.YtekclaobeccbdaaDoorBm
/- Lists of methods: parted at comma and space, and sorted. No program in sight. -/
namespace Bw
open Go Go.Proofs

def srt (l : List (List UInt8)) : List (List UInt8) := l.mergeSort fun x y => decide (x ≤ y)
theorem srt_perm (l : List (List UInt8)) : (srt l).Perm l := List.mergeSort_perm _ _
theorem srt_sorted (l : List (List UInt8)) : (srt l).Pairwise fun a b => decide (a ≤ b) = true :=
  List.pairwise_mergeSort (le := fun x y : List UInt8 => decide (x ≤ y)) (fun a b c h1 h2 => decide_eq_true (List.le_trans (of_decide_eq_true h1) (of_decide_eq_true h2)))
    (fun a b => by rcases List.le_total a b with h | h
                   · rw [decide_eq_true h]; rfl
                   · rw [decide_eq_true h, Bool.or_true]) l
theorem srt_eq {l l' : List (List UInt8)} (h : l.Perm l') : srt l = srt l' :=
  List.Perm.eq_of_pairwise (fun _ _ _ _ h1 h2 => List.le_antisymm (of_decide_eq_true h1) (of_decide_eq_true h2)) (srt_sorted l) (srt_sorted l') ((srt_perm l).trans (h.trans (srt_perm l').symm))
theorem srt_len (l : List (List UInt8)) : (srt l).length = l.length := (srt_perm l).length_eq

/-- parted at comma and space -/
def spl : List UInt8 → List UInt8 → List (List UInt8)
  | [], cur => [cur]
  | [c], cur => [cur ++ [c]]
  | c :: d :: r, cur => if c = 44 ∧ d = 32 then cur :: spl r [] else spl (d :: r) (cur ++ [c])
/-- what echoAllow answers -/
def alw (al : List UInt8) : List (List UInt8) := if al = [] then [] else srt (spl al [])

theorem spl_hit {r cur : List UInt8} : spl (44 :: 32 :: r) cur = cur :: spl r [] := by rw [spl, if_pos ⟨rfl, rfl⟩]
theorem spl_no {c : UInt8} {r cur : List UInt8} (h : ¬ (c = 44 ∧ r.head? = some 32)) : spl (c :: r) cur = spl r (cur ++ [c]) := by
  cases r with
  | nil => rfl
  | cons d r => rw [spl, if_neg fun hh => h ⟨hh.1, by rw [hh.2]; rfl⟩]
theorem spl_len (l cur : List UInt8) : (spl l cur).length ≤ l.length + 1 := by
  induction l, cur using spl.induct with
  | case1 => simp [spl]
  | case2 => simp [spl]
  | case3 cur r c d hcd ih =>
    rw [spl, if_pos hcd]
    simp only [List.length_cons] at *; omega
  | case4 cur r c d hcd ih =>
    rw [spl, if_neg hcd]
    simp only [List.length_cons] at *; omega
theorem spl_plain {l cur : List UInt8} (h : (44 : UInt8) ∉ l) : spl l cur = [cur ++ l] := by
  induction l generalizing cur with
  | nil => simp [spl]
  | cons c l ih =>
    rw [spl_no (fun hh => h (by rw [hh.1]; exact .head _)), ih fun hh => h (.tail _ hh)]
    simp
/-- a list that is followed by comma and space -/
theorem spl_sep {r : List UInt8} : ∀ {l cur : List UInt8}, spl (l ++ 44 :: 32 :: r) cur = spl l cur ++ spl r [] := by
  intro l cur
  induction l, cur using spl.induct with
  | case1 cur => rw [List.nil_append, spl_hit]; rfl
  | case2 cur c =>
    rw [List.cons_append, List.nil_append, spl_no (by simp), spl_hit]; rfl
  | case3 cur r2 c d hcd ih =>
    obtain ⟨rfl, rfl⟩ := hcd
    rw [List.cons_append, List.cons_append, spl_hit, spl_hit, ih]; rfl
  | case4 cur r2 c d hcd ih =>
    rw [spl, if_neg hcd, ← ih, List.cons_append, spl_no]
    rw [List.cons_append]; intro hh; exact hcd ⟨hh.1, by simpa using hh.2⟩
theorem spl_ms (ms : List (List UInt8)) : ∀ (l : List UInt8), spl (l ++ ms.flatMap fun k => [44, 32] ++ k) [] = spl l [] ++ ms.flatMap fun k => spl k [] := by
  induction ms with
  | nil => intro l; simp
  | cons k ms ih =>
    intro l
    rw [List.flatMap_cons, List.flatMap_cons, List.append_assoc, show [44, 32] ++ (k ++ ms.flatMap fun k => [44, 32] ++ k) = 44 :: 32 :: (k ++ ms.flatMap fun k => [44, 32] ++ k) from rfl, spl_sep, ih k]
/-- the methods told for a place, parted and sorted -/
theorem alw_of {α : Type} {K K' : Kn α} {p p' : List Tok} {al al' : List UInt8} (h : AlOf K p al) (h' : AlOf K' p' al') (he : ∀ x, (K.look x p).isSome = (K'.look x p').isSome) : alw al = alw al' := by
  obtain ⟨ms, h1, h2, rfl⟩ := h
  obtain ⟨ms', h1', h2', rfl⟩ := h'
  have hp : ms.Perm ms' := (List.perm_ext_iff_of_nodup h1 h1').2 fun x => by rw [h2, h2', he]
  have hne : ∀ m : List UInt8, ¬ optNm ++ m = [] := fun m h => by cases h
  unfold alw
  rw [if_neg (hne _), if_neg (hne _), spl_ms, spl_ms]
  exact srt_eq ((List.Perm.refl _).append (hp.flatMap_right _))
end Bw

/- slices.Sort of strings that the call owns. -/
namespace Bw
open Go Go.Proofs Go.Sort

theorem HF.grow {w0 : World} {D : Nat → Prop} {H : SH} {w : World} (h : HF w0 D H w) (os : Array Obj) : HF w0 D H (Go.Sort.grow w os) := by
  refine ⟨Nat.le_trans h.size (by simp), fun b hlt hD => ?_, fun e he => ?_, h.wr, h.nd, h.tape, h.os, h.output⟩
  · rw [← h.frame b hlt hD, heap_grow_old _ _ (by have := h.size; omega)]
  · rw [heap_grow_old _ _ (h.lt he)]; exact h.has e he
theorem putCells_own (xs ts : List (List UInt8)) (spare : List Value) (hl : ts.length = xs.length) : putCells encStr 0 ts.toArray (xs.map S ++ spare).toArray = (ts.map S ++ spare).toArray := by
  apply Array.ext_getElem?
  intro j
  simp only [putCells, Array.getElem?_mapIdx, List.getElem?_toArray, List.size_toArray, Nat.zero_le, true_and, Nat.zero_add, Nat.sub_zero]
  by_cases hj : j < ts.length
  · rw [List.getElem?_append_left (by simp; omega), List.getElem?_append_left (by simpa using hj), List.getElem?_map, List.getElem?_map, List.getElem?_eq_getElem (by omega : j < xs.length), List.getElem?_eq_getElem hj]
    simp [hj]
  · rw [List.getElem?_append_right (by simp; omega), List.getElem?_append_right (by simp; omega)]
    simp only [List.length_map, hl]
    cases spare[j - xs.length]? <;> simp [hl ▸ hj]
theorem HF.sorted {w0 : World} {D : Nat → Prop} {H : SH} {w : World} {b : Nat} {xs ts : List (List UInt8)} {spare : List Value} (h : HF w0 D (⟨b, true, .row (xs.map S ++ spare) 9 (0, 0)⟩ :: H) w) (hl : ts.length = xs.length) (n : Nat) (os : Array Obj) :
    HF w0 D (⟨b, true, .row (ts.map S ++ spare) 9 (0, 0)⟩ :: H) (Go.Sort.grow (putRow encStr (Sort.ahead w n) b 0 ts.toArray) os) := by
  refine HF.grow ?_ os
  have hb := h.has _ (.head _)
  simp only [Blk.den] at hb
  have := h.upd (w' := putRow encStr (Sort.ahead w n) b 0 ts.toArray) (e := ⟨b, true, .row (xs.map S ++ spare) 9 (0, 0)⟩) .z rfl (.row (ts.map S ++ spare) 9 (0, 0)) (by simp [putRow, mapBlock, Sort.ahead])
    (by simp only [Blk.den]; rw [← putCells_own xs ts spare hl]; simp [putRow, mapBlock, Sort.ahead, Array.getElem?_modify, hb, onCells])
    (fun x hx => by simp only at hx; simp only [putRow, mapBlock, Sort.ahead]; rw [Array.getElem?_modify, if_neg (fun e => hx e.symm)]) rfl rfl rfl
  simpa [putE] using this
end Bw
namespace Go.Proofs
open Go Bw
theorem f34_any (w : World) (v : Value) (xs : List (List UInt8)) (Hs : SH) (hown : Own 9 1 v xs.length (xs.map S) Hs) (hh : ∀ e ∈ Hs, w.heap[e.b]? = some e.k.den) (hlen : xs.length ≤ 1000000000) :
    Calls Tryd.prog 34 #[v] w fun e w' => e = .returned (.tuple #[]) ∧ ∃ Hs', Own 9 1 v xs.length ((srt xs).map S) Hs' ∧ ∀ w0 D H, HF w0 D (Hs ++ H) w → HF w0 D (Hs' ++ H) w' := by
  generalize hn : xs.length = n at *
  generalize hc : xs.map S = cs at *
  cases hown with
  | nil =>
    have : xs = [] := List.length_eq_zero_iff.1 hn
    subst this
    refine (Tryd.slices_Sort_string_none none 0 w).mono fun e w' ⟨h1, h2⟩ => ⟨h1, [], ?_, fun w0 D H h => by rw [h2]; exact h⟩
    rw [show srt [] = [] by simp [srt]]
    exact .nil
  | @row b n cap xs' spare hn' hc' hle =>
    subst hc
    have hb := hh _ (.head _)
    simp only [Blk.den] at hb
    have hlt : b < w.heap.size := (Array.getElem?_eq_some_iff.1 hb).1
    have hH : Go.Sort.Holds encStr w b 0 xs.toArray := fun j hj => by
      have hj' : j < xs.length := by simpa using hj
      refine ⟨?_, by simp [World.frozen?, hb]⟩
      simp only [World.cell?, hb, Nat.zero_add, List.getElem?_toArray, Option.isSome_none, Bool.false_eq_true, if_false]
      rw [List.getElem?_append_left (by simpa using hj'), List.getElem?_map, List.getElem?_eq_getElem hj']
      simp [hj']
    have hs := Tryd.slices_Sort_string b 0 cap xs w hH hlt (by omega)
    rw [hn] at hs
    refine hs.mono fun e w' ⟨h1, m, os, h2⟩ => ⟨h1, [⟨b, true, .row ((srt xs).map S ++ spare) 9 (0, 0)⟩], ?_, fun w0 D H h => ?_⟩
    · refine .row ?_ ?_ hle
      · rw [List.length_map, srt_len, hn]; omega
      · rw [List.length_append, List.length_map, srt_len] at *; simpa using hc'
    · rw [h2]
      exact HF.sorted h (srt_len xs) m os
end Go.Proofs

/- echoAllow. Printed by wip/mk_j1.py. -/
namespace Go.Proofs
open Go Bw
set_option maxRecDepth 20000

def ASt (al : List UInt8) (i f : Nat) (ms : List (List UInt8)) : Prop :=
  (f ≤ i ∧ i ≤ al.length ∧ ms ++ spl (al.drop i) ((al.take i).drop f) = spl al []) ∨ (f = i + 1 ∧ i < al.length ∧ al[i]? = some 32 ∧ ms ++ spl (al.drop (i + 1)) [] = spl al []) ∨ (i = al.length + 1 ∧ f ≤ al.length + 2 ∧ ms = spl al [])
def AHit (al : List UInt8) (i : Nat) : Prop := i = al.length ∨ (i + 1 < al.length ∧ al.getD i 0 = 44 ∧ al.getD (i + 1) 0 = 32)
theorem ASt.hit {al : List UInt8} {i f : Nat} {ms : List (List UInt8)} (h : ASt al i f ms) (hi : i ≤ al.length) (hh : AHit al i) : f ≤ i ∧ ASt al (i + 1) (i + 2) (ms ++ [(al.take i).drop f]) := by
  rcases h with ⟨h1, h2, h3⟩ | ⟨h1, h2, h3, h4⟩ | ⟨h1, _⟩
  · refine ⟨h1, ?_⟩
    rcases hh with rfl | ⟨h4, h5, h6⟩
    · rw [List.drop_eq_nil_of_le (Nat.le_refl _)] at h3
      exact .inr (.inr ⟨rfl, by omega, h3⟩)
    · have g1 := getD_some (l := al) (i := i) (by omega)
      have g2 := getD_some h4
      rw [h5] at g1
      rw [h6] at g2
      rw [drop_cons g1, drop_cons g2, spl_hit] at h3
      refine .inr (.inl ⟨rfl, h4, g2, ?_⟩)
      rw [← h3]; simp
  · exfalso
    rcases hh with rfl | ⟨h5, h6, h7⟩
    · omega
    · rw [getD_some h2, h6] at h3
      cases h3
  · omega
theorem ASt.no {al : List UInt8} {i f : Nat} {ms : List (List UInt8)} (h : ASt al i f ms) (hi : i ≤ al.length) (hh : ¬ AHit al i) : ASt al (i + 1) f ms := by
  rcases h with ⟨h1, h2, h3⟩ | ⟨h1, h2, h3, h4⟩ | ⟨h1, _⟩
  · have hne : i ≠ al.length := fun e => hh (.inl e)
    have hlt : i < al.length := by omega
    refine .inl ⟨by omega, by omega, ?_⟩
    have g1 := getD_some hlt
    rw [← h3, drop_cons g1, spl_no, List.take_add_one, g1, List.drop_append_of_le_length (by simp; omega)]
    · rfl
    · rintro ⟨e1, e2⟩
      refine hh (.inr ?_)
      rw [List.head?_drop] at e2
      have hlt2 := (List.getElem?_eq_some_iff.1 e2).1
      rw [getD_some hlt2] at e2
      exact ⟨hlt2, e1, Option.some.inj e2⟩
  · refine .inl ⟨by omega, by omega, ?_⟩
    rw [h1, List.drop_of_length_le (by rw [List.length_take]; omega : (al.take (i + 1)).length ≤ i + 1)]
    exact h4
  · omega
theorem ASt.fin {al : List UInt8} {i f : Nat} {ms : List (List UInt8)} (h : ASt al i f ms) (hi : ¬ i ≤ al.length) : ms = spl al [] := by
  rcases h with ⟨_, h, _⟩ | ⟨_, h, _⟩ | ⟨_, _, h⟩
  · omega
  · omega
  · exact h
theorem ASt.len {al : List UInt8} {i f : Nat} {ms : List (List UInt8)} (h : ASt al i f ms) : ms.length ≤ al.length + 1 := by
  have hs := spl_len al []
  rcases h with ⟨_, _, h⟩ | ⟨_, _, _, h⟩ | ⟨_, _, h⟩
  · rw [← h, List.length_append] at hs; omega
  · rw [← h, List.length_append] at hs; omega
  · rw [h]; exact hs
theorem ASt.fr {al : List UInt8} {i f : Nat} {ms : List (List UInt8)} (h : ASt al i f ms) : f ≤ al.length + 2 := by
  rcases h with ⟨_, _, h⟩ | ⟨_, _, _, h⟩ | ⟨_, _, h⟩ <;> omega

theorem f35_any (w : World) (al : List UInt8) (hl : al.length ≤ 1000000) : Calls Tryd.prog 35 #[S al] w fun e w' => ∃ v Hs, e = .returned v ∧ Own 9 1 v (alw al).length ((alw al).map S) Hs ∧ HF w (fun _ => False) Hs w' := by
  refine enter (fun _ => False) [] Tryd.func35 rfl Tryd.ntmps35 rfl rfl (HF.start w _) fun c hc => ?_
  subst hc
  refine GC.seq ?_
  refine GC.reg ?_  -- region 0, echo.go:38
  refine G.v (V.asg rfl) rfl ?_
  refine G.nil ?_
  refine GC.seq ?_
  refine GC.reg ?_  -- region 1, echo.go:39
  refine G.v (V.asg rfl) rfl ?_
  refine G.nil ?_
  refine GC.seq ?_
  refine GC.reg ?_  -- region 2, echo.go:40
  refine G.v (V.asg rfl) rfl ?_
  refine G.nil ?_
  refine GC.seq ?_
  refine GC.seq ?_
  refine GC.reg ?_  -- region 3, echo.go:41
  refine G.v (V.asg rfl) rfl ?_
  refine G.nil ?_
  refine GC.block ?_
  refine GC.loopJ (fun N fr' H' => ∃ i f ms sv, i + N = al.length + 1 ∧ ASt al i f ms ∧ (al = [] → i = 0 ∧ ms = []) ∧ Own 9 1 sv ms.length (ms.map S) H' ∧ Sub [(0, S al), (3, sv), (4, I ((f : Nat) : Int)), (5, I ((i : Nat) : Int))] fr') (al.length + 1)
    ⟨0, 0, [], _, by omega, .inl ⟨Nat.le_refl _, Nat.zero_le _, rfl⟩, fun _ => ⟨rfl, rfl⟩, .nil, .cons rfl (.cons rfl (.cons rfl (.cons rfl .nil)))⟩ ?_
  rintro N fr' H' ⟨i, f, ms, sv, hi, hst, hemp, howns, hs⟩ ih
  refine GC.weak hs ?_
  clear hs
  obtain ⟨ad, cp, rfl⟩ := howns.slice
  have hml := hst.len
  have hfl := hst.fr
  refine GC.seq ?_
  refine GC.seq ?_
  refine GC.join (fun fr' H2 => ∃ b : Bool, (b = true ↔ i ≤ al.length ∧ al ≠ []) ∧ Sub [(0, S al), (3, .slice ad ms.length cp), (4, I ((f : Nat) : Int)), (5, I ((i : Nat) : Int)), (13, .bool b)] fr' ∧ H' = H2) (fun J4 => ?_) ?_
  · refine GC.reg ?_  -- region 4, echo.go:41
    refine G.v (V.mv rfl) rfl ?_
    refine G.v (V.mv rfl) rfl ?_
    refine G.v (V.lenS Tryd.underlying9 rfl) rfl ?_
    refine G.v (V.le rfl rfl) rfl ?_
    refine G.v (V.mv rfl) rfl ?_
    refine G.bc 10 rfl (fun h10 => ?_) (fun h10 => ?_)
    · refine G.vg rfl rfl (V.mv rfl) rfl ?_
      refine G.vg rfl rfl (V.neS rfl rfl) rfl ?_
      refine G.v (V.pickT rfl rfl) rfl ?_
      refine G.nil ?_
      exact J4 _ _ ⟨_, ⟨fun h => ⟨by have := of_decide_eq_true h10; omega, by simpa using h⟩, fun h => by simpa using h.2⟩, .cons rfl (.cons rfl (.cons rfl (.cons rfl (.cons rfl .nil)))), rfl⟩
    · refine G.sg rfl rfl rfl rfl rfl rfl ?_
      refine G.sg rfl rfl rfl rfl rfl rfl ?_
      refine G.v (V.pickF rfl rfl) rfl ?_
      refine G.nil ?_
      exact J4 _ _ ⟨false, ⟨fun h => (by cases h), fun h => by have := of_decide_eq_false h10; omega⟩, .cons rfl (.cons rfl (.cons rfl (.cons rfl (.cons rfl .nil)))), rfl⟩
  rintro fr' H2 ⟨b4, hb4, hs4, rfl⟩
  refine GC.weak hs4 ?_
  clear hs4
  refine GC.cond rfl (fun h13 => ?_) (fun h13 => ?_)
  · refine GC.skip ?_
    refine GC.seq ?_
    refine GC.block ?_
    refine GC.seq ?_
    refine GC.join (fun fr' H2 => ∃ b : Bool, (b = true ↔ AHit al i) ∧ Sub [(0, S al), (3, .slice ad ms.length cp), (4, I ((f : Nat) : Int)), (5, I ((i : Nat) : Int)), (39, .bool b)] fr' ∧ H' = H2) (fun J6 => ?_) ?_
    · obtain ⟨hile, hane⟩ := hb4.1 h13
      refine GC.reg ?_  -- region 6, echo.go:42
      refine G.v (V.mv rfl) rfl ?_
      refine G.v (V.mv rfl) rfl ?_
      refine G.v (V.lenS Tryd.underlying9 rfl) rfl ?_
      refine G.v (V.eqI rfl rfl) rfl ?_
      refine G.v (V.mv rfl) rfl ?_
      refine G.bc 20 rfl (fun h20 => ?_) (fun h20 => ?_)
      · refine G.sg rfl rfl rfl rfl rfl rfl ?_
        refine G.sg rfl rfl rfl rfl rfl rfl ?_
        refine G.sg rfl rfl rfl rfl rfl rfl ?_
        refine G.sg rfl rfl rfl rfl rfl rfl ?_
        refine G.sg rfl rfl rfl rfl rfl rfl ?_
        refine G.sg rfl rfl rfl rfl rfl rfl ?_
        refine G.sgU rfl rfl rfl rfl rfl ?_
        refine G.sgU rfl rfl rfl rfl rfl ?_
        refine G.sgU rfl rfl rfl rfl rfl ?_
        refine G.sgU rfl rfl rfl rfl rfl ?_
        refine G.sg rfl rfl rfl rfl rfl rfl ?_
        refine G.sg rfl rfl rfl rfl rfl rfl ?_
        refine G.sgU rfl rfl rfl rfl rfl ?_
        refine G.sgU rfl rfl rfl rfl rfl ?_
        refine G.sgU rfl rfl rfl rfl rfl ?_
        refine G.sgU rfl rfl rfl rfl rfl ?_
        refine G.sgU rfl rfl rfl rfl rfl ?_
        refine G.sg rfl rfl rfl rfl rfl rfl ?_
        refine G.v (V.pickT rfl rfl) rfl ?_
        refine G.nil ?_
        exact J6 _ _ ⟨true, ⟨fun _ => .inl (by have := of_decide_eq_true h20; omega), fun _ => rfl⟩, .cons rfl (.cons rfl (.cons rfl (.cons rfl (.cons rfl .nil)))), rfl⟩
      · refine G.vg rfl rfl (V.mv rfl) rfl ?_
        refine G.vg rfl rfl (V.addI (r := ((i + 1 : Nat) : Int)) rfl rfl rfl (by omega) (by omega)) rfl ?_
        refine G.vg rfl rfl (V.mv rfl) rfl ?_
        refine G.vg rfl rfl (V.lenS Tryd.underlying9 rfl) rfl ?_
        refine G.vg rfl rfl (V.lt rfl rfl) rfl ?_
        refine G.vg rfl rfl (V.mv rfl) rfl ?_
        refine G.bc 26 rfl (fun h26 => ?_) (fun h26 => ?_)
        · refine G.vg rfl rfl (V.mv rfl) rfl ?_
          refine G.vg rfl rfl (V.mv rfl) rfl ?_
          have hi1 : i + 1 < al.length := by have := of_decide_eq_true h26; omega
          refine G.vg rfl rfl (V.idx (i := i) (b := al.getD (i) 0) Tryd.underlying9 rfl rfl (getD_some (by omega))) rfl ?_
          refine G.vg rfl rfl (V.eqI rfl rfl) rfl ?_
          refine G.vg rfl rfl (V.pickT rfl rfl) rfl ?_
          refine G.vg rfl rfl (V.mv rfl) rfl ?_
          refine G.bc 32 rfl (fun h32 => ?_) (fun h32 => ?_)
          · refine G.vg rfl rfl (V.mv rfl) rfl ?_
            refine G.vg rfl rfl (V.mv rfl) rfl ?_
            refine G.vg rfl rfl (V.addI (r := ((i + 1 : Nat) : Int)) rfl rfl rfl (by omega) (by omega)) rfl ?_
            refine G.vg rfl rfl (V.idx (i := i + 1) (b := al.getD (i + 1) 0) Tryd.underlying9 rfl rfl (getD_some (by omega))) rfl ?_
            refine G.vg rfl rfl (V.eqI rfl rfl) rfl ?_
            refine G.vg rfl rfl (V.pickT rfl rfl) rfl ?_
            refine G.v (V.pickF rfl rfl) rfl ?_
            refine G.nil ?_
            have hine : i ≠ al.length := by have := of_decide_eq_false h20; omega
            have e44 : al.getD i 0 = 44 := UInt8.toNat_inj.1 (show (al.getD i 0).toNat = 44 by have := of_decide_eq_true h32; omega)
            refine J6 _ _ ⟨_, ⟨fun h => .inr ⟨hi1, e44, UInt8.toNat_inj.1 (show (al.getD (i + 1) 0).toNat = 32 by have := of_decide_eq_true h; omega)⟩, fun h => ?_⟩, .cons rfl (.cons rfl (.cons rfl (.cons rfl (.cons rfl .nil)))), rfl⟩
            rcases h with h | ⟨_, _, h⟩
            · exact absurd h hine
            · rw [h]; rfl
          · refine G.sg rfl rfl rfl rfl rfl rfl ?_
            refine G.sg rfl rfl rfl rfl rfl rfl ?_
            refine G.sg rfl rfl rfl rfl rfl rfl ?_
            refine G.sg rfl rfl rfl rfl rfl rfl ?_
            refine G.sg rfl rfl rfl rfl rfl rfl ?_
            refine G.vg rfl rfl (V.pickF rfl rfl) rfl ?_
            refine G.v (V.pickF rfl rfl) rfl ?_
            refine G.nil ?_
            have hine : i ≠ al.length := by have := of_decide_eq_false h20; omega
            refine J6 _ _ ⟨false, ⟨fun h => (by cases h), fun h => ?_⟩, .cons rfl (.cons rfl (.cons rfl (.cons rfl (.cons rfl .nil)))), rfl⟩
            rcases h with h | ⟨_, h, _⟩
            · exact absurd h hine
            · rw [h] at h32; cases h32
        · refine G.sg rfl rfl rfl rfl rfl rfl ?_
          refine G.sg rfl rfl rfl rfl rfl rfl ?_
          refine G.sg rfl rfl rfl rfl rfl rfl ?_
          refine G.sg rfl rfl rfl rfl rfl rfl ?_
          refine G.vg rfl rfl (V.pickF rfl rfl) rfl ?_
          refine G.vg rfl rfl (V.mv rfl) rfl ?_
          refine G.sg rfl rfl rfl rfl rfl rfl ?_
          refine G.sg rfl rfl rfl rfl rfl rfl ?_
          refine G.sg rfl rfl rfl rfl rfl rfl ?_
          refine G.sg rfl rfl rfl rfl rfl rfl ?_
          refine G.sg rfl rfl rfl rfl rfl rfl ?_
          refine G.vg rfl rfl (V.pickF rfl rfl) rfl ?_
          refine G.v (V.pickF rfl rfl) rfl ?_
          refine G.nil ?_
          have hine : i ≠ al.length := by have := of_decide_eq_false h20; omega
          refine J6 _ _ ⟨false, ⟨fun h => (by cases h), fun h => ?_⟩, .cons rfl (.cons rfl (.cons rfl (.cons rfl (.cons rfl .nil)))), rfl⟩
          rcases h with h | ⟨h, _, _⟩
          · exact absurd h hine
          · have := of_decide_eq_false h26; omega
    rintro fr' H2 ⟨b6, hb6, hs6, rfl⟩
    obtain ⟨hile, hane⟩ := hb4.1 h13
    refine GC.weak hs6 ?_
    clear hs6
    refine GC.cond rfl (fun h39 => ?_) (fun h39 => ?_)
    · obtain ⟨hfi, hst2⟩ := hst.hit hile (hb6.1 h39)
      refine GC.reg ?_  -- region 7, echo.go:43
      refine G.v (V.mv rfl) rfl ?_
      refine G.v (V.mv rfl) rfl ?_
      refine G.v (V.mv rfl) rfl ?_
      refine G.v (V.mv rfl) rfl ?_
      refine G.v (V.slLH Tryd.underlying9 rfl rfl rfl hfi hile) rfl ?_
      refine G.bs (BS.one Tryd.underlying24 Tryd.sizeOf9 Tryd.zeroValue9 (v := S ((al.take i).drop f)) rfl) rfl rfl (fun tb htb => ?_)
      refine G.app (i := Tryd.t9) (sz := 1) (by_ := 16) Tryd.underlying24 rfl rfl rfl rfl rfl rfl rfl howns (H' := [⟨tb, true, .row [S ((al.take i).drop f)] 9 (0, 0)⟩]) (List.perm_append_singleton _ _).symm (src_row (vs := [S ((al.take i).drop f)]) (r := []) (.head _)) rfl (by simp [Value.oneCell']) (by omega) (by omega) (by omega) rfl (fun sv2 Hs2 hown5 => ?_)
      have hown6 : Own 9 1 sv2 (ms ++ [((al.take i).drop f)]).length ((ms ++ [((al.take i).drop f)]).map S) Hs2 := by
        rw [List.length_append, List.map_append]; exact hown5
      obtain ⟨ad2, cp2, rfl⟩ := hown6.slice
      refine G.v (V.mv rfl) rfl ?_
      refine G.v (V.addI (r := ((i + 2 : Nat) : Int)) rfl rfl rfl (by omega) (by omega)) rfl ?_
      refine G.v (V.asg rfl) rfl ?_
      refine G.v (V.asg rfl) rfl ?_
      refine G.nil ?_
      refine GC.inBlock ?_
      refine GC.reg ?_  -- region 5, echo.go:41
      refine G.v (V.mv rfl) rfl ?_
      refine G.v (V.addI (r := ((i + 1 : Nat) : Int)) rfl rfl rfl (by omega) (by omega)) rfl ?_
      refine G.v (V.asg rfl) rfl ?_
      refine G.nil ?_
      refine GC.weakH (List.sublist_append_right [⟨tb, true, .row [S ((al.take i).drop f)] 9 (0, 0)⟩] Hs2) (ih (N - 1) _ _ (by omega) ⟨i + 1, i + 2, ms ++ [((al.take i).drop f)], _, by omega, hst2, fun h => absurd h hane, hown6, .cons rfl (.cons rfl (.cons rfl (.cons rfl .nil)))⟩)
    refine GC.skip ?_
    refine GC.inBlock ?_
    refine GC.reg ?_  -- region 5, echo.go:41
    refine G.v (V.mv rfl) rfl ?_
    refine G.v (V.addI (r := ((i + 1 : Nat) : Int)) rfl rfl rfl (by omega) (by omega)) rfl ?_
    refine G.v (V.asg rfl) rfl ?_
    refine G.nil ?_
    exact ih (N - 1) _ _ (by omega) ⟨i + 1, f, ms, _, by omega, hst.no hile (fun h => by rw [hb6.2 h] at h39; cases h39), fun h => absurd h hane, howns, .cons rfl (.cons rfl (.cons rfl (.cons rfl .nil)))⟩
  refine GC.exit rfl ?_
  refine GC.seq ?_
  have hres : srt ms = alw al := by
    by_cases hal : al = []
    · rw [(hemp hal).2]; unfold alw; rw [if_pos hal]; simp [srt]
    · have : ¬ i ≤ al.length := fun h => by rw [hb4.2 ⟨h, hal⟩] at h13; cases h13
      rw [hst.fin this]; unfold alw; rw [if_neg hal]
  refine GC.reg ?_  -- region 8, echo.go:46
  refine G.v (V.mv rfl) rfl ?_
  refine G.callW (fun v H2 => v = .tuple #[] ∧ Own 9 1 (.slice ad ms.length cp) ms.length ((srt ms).map S) H2) Tryd.call34 rfl rfl (fun w1 hw1 => ?_) ?_
  · refine (f34_any w1 _ ms _ howns (fun e he => hw1.has e he) (by omega)).mono fun e w' ⟨h1, Hs', h2, h3⟩ => ⟨_, Hs', h1, ?_, rfl, h2⟩
    have := h3 w _ [] (by simpa using hw1)
    simpa using this
  rintro v H2 ⟨rfl, hown2⟩
  have hown3 : Own 9 1 (.slice ad ms.length cp) (alw al).length ((alw al).map S) H2 := by
    rw [← hres, srt_len]; exact hown2
  refine G.nil ?_
  refine GC.seq ?_
  refine GC.reg ?_  -- region 9, echo.go:47
  refine G.v (V.mv rfl) rfl ?_
  refine G.v (V.asg rfl) rfl ?_
  refine G.nil ?_
  exact GC.ret1 rfl rfl fun w' hw' => ⟨_, _, rfl, hown3, hw'⟩
end Go.Proofs

/- Routes without parameters: what the search tells of their methods. No program in sight. -/
namespace Bw
open Go Go.Proofs

open Classical in
theorem visK_miss {α : Type} {K : Kn α} {meth : List UInt8} (htx : ∀ q, K.has q → ∀ t ∈ q, ∃ c, t = Tok.b c) (hpre : ∀ q q', K.has (q ++ q') → K.has q) (hH : ∀ q, K.hasH q → K.has q) :
    ∀ (f : Nat) (s : List UInt8) (p : List Tok) (b : Option (List Tok)), K.look1 meth (p ++ bs s) = none → K.look nfName (p ++ bs s) = none →
      visK K meth f p s [] b = .back (if s.length < f ∧ K.hasH (p ++ bs s) ∧ b = none then some (p ++ bs s) else b) := by
  have hnP : ∀ p, ¬ K.has (p ++ [Tok.P]) := fun p h => by obtain ⟨c, hc⟩ := htx _ h .P (by simp); cases hc
  have hnA : ∀ p, ¬ K.has (p ++ [Tok.A]) := fun p h => by obtain ⟨c, hc⟩ := htx _ h .A (by simp); cases hc
  intro f
  induction f with
  | zero => intro s p b _ _; rw [if_neg (by omega)]; rfl
  | succ f ih =>
    intro s p b h1 h2
    have hrest : ∀ b1, ((K.par (fun p' s' v => visK K meth f p' s' ([] ++ [v]) b1) p s b1).then fun b2 => K.any meth p s [] b2) = .back b1 := by
      intro b1
      unfold Kn.par
      rw [if_neg (fun h => hnP p h.2)]
      show K.any meth p s [] b1 = _
      unfold Kn.any
      rw [if_neg (hnA p)]
    cases s with
    | nil =>
      have e : p ++ bs [] = p := by simp [bs]
      rw [e] at h1 h2 ⊢
      have hown : K.own meth p [] [] = none := by
        unfold Kn.own
        rw [if_pos rfl]
        split
        · rw [h1]; rfl
        · rw [h2]; rfl
      rw [visK_parts, hown]
      refine (hrest (K.bst p [] b)).trans ?_
      unfold Kn.bst
      by_cases h : K.hasH p ∧ b = none
      · rw [if_pos ⟨rfl, h⟩, if_pos ⟨by simp, h⟩]
      · rw [if_neg (fun hh => h hh.2), if_neg (fun hh => h hh.2)]
    | cons c s =>
      have e : p ++ bs (c :: s) = p ++ [Tok.b c] ++ bs s := by simp [bs]
      rw [e] at h1 h2 ⊢
      have hown : K.own meth p (c :: s) [] = none := by unfold Kn.own; rw [if_neg (by simp)]
      have hb : K.bst p (c :: s) b = b := by unfold Kn.bst; rw [if_neg (by simp)]
      rw [visK_parts, hown, hb]
      by_cases hc : K.has (p ++ [Tok.b c])
      · have ht : K.text (fun p' s' => visK K meth f p' s' [] b) p (c :: s) b = visK K meth f (p ++ [Tok.b c]) s [] b := by simp only [Kn.text]; rw [if_pos hc]
        simp only
        rw [ht, ih s _ b h1 h2]
        refine (hrest _).trans ?_
        simp only [List.length_cons, Nat.add_lt_add_iff_right]
      · have ht : K.text (fun p' s' => visK K meth f p' s' [] b) p (c :: s) b = .back b := by simp only [Kn.text]; rw [if_neg hc]
        simp only
        rw [ht]
        refine (hrest b).trans ?_
        rw [if_neg (fun h => hc (hpre _ _ (hH _ h.2.1)))]

/-- the number that the law counts -/
def NT (l : List RB) (meth path : List UInt8) (n : Int) : Prop :=
  (∃ (i : Nat) (a : RB), n = i ∧ l[i]? = some a ∧ a.p = path ∧ a.m = meth) ∨
  ((∀ a ∈ l, ¬ (a.p = path ∧ a.m = meth)) ∧ ((n = -2 ∧ ∃ a ∈ l, a.p = path) ∨ (n = -1 ∧ ∀ a ∈ l, a.p ≠ path)))
theorem NT.nil (meth path : List UInt8) : NT [] meth path (-1) := .inr ⟨fun a h => (by cases h), .inr ⟨rfl, fun a h => (by cases h)⟩⟩
theorem NT.hit {l : List RB} {meth path : List UInt8} {r : RB} (hp : r.p = path) (hm : r.m = meth) : NT (l ++ [r]) meth path (l.length : Nat) :=
  .inl ⟨l.length, r, rfl, by simp, hp, hm⟩
theorem NT.keep {l : List RB} {meth path : List UInt8} {n : Int} {r : RB} (h : NT l meth path n) (hn : 0 ≤ n) : NT (l ++ [r]) meth path n := by
  rcases h with ⟨i, a, h1, h2, h3, h4⟩ | ⟨_, ⟨rfl, _⟩ | ⟨rfl, _⟩⟩
  · exact .inl ⟨i, a, h1, by rw [List.getElem?_append_left (List.getElem?_eq_some_iff.1 h2).1]; exact h2, h3, h4⟩
  · omega
  · omega
theorem NT.other {l : List RB} {meth path : List UInt8} {n : Int} {r : RB} (h : NT l meth path n) (hp : r.p ≠ path) : NT (l ++ [r]) meth path n := by
  by_cases hn : 0 ≤ n
  · exact h.keep hn
  · rcases h with ⟨i, a, h1, _⟩ | ⟨h1, h2⟩
    · omega
    · refine .inr ⟨fun a ha => ?_, ?_⟩
      · rcases List.mem_append.1 ha with ha | ha
        · exact h1 a ha
        · rw [List.mem_singleton.1 ha]; exact fun h => hp h.1
      · rcases h2 with ⟨rfl, a, ha, h3⟩ | ⟨rfl, h3⟩
        · exact .inl ⟨rfl, a, List.mem_append_left _ ha, h3⟩
        · refine .inr ⟨rfl, fun a ha => ?_⟩
          rcases List.mem_append.1 ha with ha | ha
          · exact h3 a ha
          · rw [List.mem_singleton.1 ha]; exact hp
theorem NT.two {l : List RB} {meth path : List UInt8} {n : Int} {r : RB} (h : NT l meth path n) (hn : n < 0) (hp : r.p = path) (hm : r.m ≠ meth) : NT (l ++ [r]) meth path (-2) := by
  rcases h with ⟨i, a, h1, _⟩ | ⟨h1, h2⟩
  · omega
  · refine .inr ⟨fun a ha => ?_, .inl ⟨rfl, r, by simp, hp⟩⟩
    rcases List.mem_append.1 ha with ha | ha
    · exact h1 a ha
    · rw [List.mem_singleton.1 ha]; exact fun h => hm h.2
theorem NT.lo {l : List RB} {meth path : List UInt8} {n : Int} (h : NT l meth path n) (hl : l.length ≤ 1000) : -2 ≤ n ∧ n ≤ 1000 := by
  rcases h with ⟨i, a, rfl, h2, _⟩ | ⟨_, ⟨rfl, _⟩ | ⟨rfl, _⟩⟩
  · have := (List.getElem?_eq_some_iff.1 h2).1; omega
  · omega
  · omega

/-- the methods that the law gathers -/
def msT (path : List UInt8) (l : List RB) : List (List UInt8) := (l.filter fun r => decide (r.p = path ∧ r.m ≠ optNm)).map (·.m)

theorem fres_miss {Rs : List RB} {meth : List UInt8} {pl : List Tok} {num : Int} {p al : List UInt8} {ns vs : List (List UInt8)} (h : FRes Rs meth (.back (some pl)) num p ns vs al) (hl : (KS Rs).look nfName pl = none) :
    num = (if meth = optM then -3 else -2) ∧ ns = [] ∧ vs = [] ∧ AlOf (KS Rs) pl al := by
  generalize ho' : (VOk.back (some pl) : VOk (RB × Nat)) = o' at h
  cases h with
  | hit h hl => cases ho'
  | missNf ho h1 _ _ =>
    subst ho'
    rcases ho with ho | ⟨ho, _⟩
    · cases ho
    · cases ho; rw [hl] at h1; cases h1
  | miss ho _ ha =>
    subst ho'
    rcases ho with ho | ⟨ho, _⟩
    · cases ho
    · cases ho; exact ⟨rfl, rfl, rfl, ha⟩
  | none => cases ho'
theorem sub_len : ∀ {l l2 : List (List UInt8)}, l.Nodup → (∀ x ∈ l, x ∈ l2) → l.length ≤ l2.length
  | [], _, _, _ => Nat.zero_le _
  | a :: l, l2, hn, hs => by
    have ha := hs a (.head _)
    have h1 := List.length_erase_of_mem ha
    have hp := List.length_pos_of_mem ha
    have := sub_len (l := l) (l2 := l2.erase a) (List.nodup_cons.1 hn).2 fun x hx =>
      (List.mem_erase_of_ne (fun e => by subst e; exact (List.nodup_cons.1 hn).1 hx)).2 (hs x (.tail _ hx))
    simp only [List.length_cons]; omega
theorem flat_le {k : Nat} : ∀ (l : List (List UInt8)), (∀ x ∈ l, x.length ≤ k) → (l.flatMap fun x => [44, 32] ++ x).length ≤ l.length * (k + 2)
  | [], _ => by simp
  | a :: l, h => by
    have := flat_le l fun x hx => h x (.tail _ hx)
    have h1 := h a (.head _)
    rw [List.flatMap_cons, List.length_append, List.length_append]
    simp only [List.length_cons, List.length_nil, Nat.add_mul]; omega
/-- what is told of methods is not long -/
theorem fres_al {Rs : List RB} (hR : Right Rs) {meth : List UInt8} {o : VOk (RB × Nat)} {num : Int} {p al : List UInt8} {ns vs : List (List UInt8)} (h : FRes Rs meth o num p ns vs al) : al.length ≤ 10000 := by
  cases h with
  | hit _ _ => simp
  | missNf _ _ _ _ => simp
  | none => simp
  | miss _ _ ha =>
    obtain ⟨ms, h1, h2, rfl⟩ := ha
    have hin : ∀ x ∈ ms, x ∈ Rs.map (·.m) := fun x hx => by
      obtain ⟨_, _, h3⟩ := (h2 x).1 hx
      obtain ⟨k, hk⟩ := Option.isSome_iff_exists.1 h3
      obtain ⟨g1, _, g2⟩ := lookO_some hk
      exact List.mem_map.2 ⟨k.1, List.mem_of_getElem? (mem_KS.1 g1), g2⟩
    have hl := sub_len h1 hin
    rw [List.length_map] at hl
    have hb : ∀ x ∈ ms, x.length ≤ 40 := fun x hx => by
      obtain ⟨r, hr, rfl⟩ := List.mem_map.1 (hin x hx)
      exact (hR.2 r hr).ml
    have := flat_le ms hb
    have h60 := hR.1
    rw [List.length_append]
    have : optNm.length = 7 := rfl
    omega
theorem bs_inj {a b : List UInt8} (h : bs a = bs b) : a = b := by
  have := congrArg tb h
  rwa [tb_bs, tb_bs] at this

theorem textRes {Rs : List RB} (hR : Right Rs) (hn : (Rs.map ekey).Nodup) (ht : ∀ r ∈ Rs, (prs r.p none).2 = []) (hnf : ∀ r ∈ Rs, r.m ≠ nfName) (hc : ∀ r ∈ Rs, (44 : UInt8) ∉ r.m)
    {meth path : List UInt8} (hm : meth ≠ nfName) (hmo : meth ≠ optM) {num : Int} {p al : List UInt8} {ns vs : List (List UInt8)} (h : FRes Rs meth (visK (KS Rs) meth 202 [] path [] none) num p ns vs al) {n : Int} (hN : NT Rs meth path n) :
    num = n ∧ vs = [] ∧ (n = -2 → alw al = srt (optNm :: msT path Rs)) := by
  have hin : ∀ k : RB × Nat, k ∈ Rs.zipIdx.reverse → k.1 ∈ Rs := fun k hk => List.mem_of_getElem? (mem_KS.1 hk)
  have htk : ∀ k : RB × Nat, k ∈ Rs.zipIdx.reverse → tkk k = bs k.1.p := fun k hk => bs_of (ht _ (hin k hk))
  have hlook : ∀ x, (KS Rs).look x (bs path) = none ↔ ∀ r ∈ Rs, ¬ (r.p = path ∧ r.m = x) := by
    intro x
    show lookO tkk mk' Rs.zipIdx.reverse x (bs path) = none ↔ _
    rw [lookO_none]
    constructor
    · intro h r hr hh
      obtain ⟨i, hi⟩ := List.getElem?_of_mem hr
      exact h (r, i) (mem_KS.2 hi) ⟨by rw [htk _ (mem_KS.2 hi), hh.1], hh.2⟩
    · intro h k hk hh
      rw [htk k hk] at hh
      exact h _ (hin k hk) ⟨bs_inj hh.1, hh.2⟩
  rcases hN with ⟨i, a, rfl, hi, rfl, rfl⟩ | ⟨h1, h2⟩
  · have hf := textFound hR hn hi hm (ht a (List.mem_of_getElem? hi))
    rw [hf] at h
    obtain ⟨rfl, _, _, rfl, _⟩ := fres_hit h
    exact ⟨rfl, rfl, fun hh => by omega⟩
  · have hl0 := (hlook nfName).2 fun r hr hh => hnf r hr hh.2
    have hl1 : (KS Rs).look1 meth ([] ++ bs path) = none := by
      unfold Kn.look1
      rw [if_neg hm, List.nil_append]
      exact (hlook meth).2 h1
    have hv := visK_miss (K := KS Rs) (meth := meth) (fun q ⟨k, hk, hq⟩ t ht' => by
      rw [htk k hk] at hq
      have := hq.subset ht'
      obtain ⟨c, _, rfl⟩ := List.mem_map.1 this
      exact ⟨c, rfl⟩) (fun q q' ⟨k, hk, hq⟩ => ⟨k, hk, (List.prefix_append q q').trans hq⟩) (fun q ⟨k, hk, hq, _⟩ => ⟨k, hk, by rw [hq]; exact List.prefix_refl _⟩) 202 path [] none hl1 hl0
    rw [hv] at h
    rcases h2 with ⟨rfl, a, ha, hap⟩ | ⟨rfl, h3⟩
    · have hpl := (hR.2 a ha).pl
      rw [hap] at hpl
      obtain ⟨i, hi⟩ := List.getElem?_of_mem ha
      rw [if_pos ⟨by omega, ⟨(a, i), mem_KS.2 hi, by rw [htk _ (mem_KS.2 hi), hap, List.nil_append], hnf a ha⟩, rfl⟩] at h
      obtain ⟨h4, _, rfl, ms, h5, h6, rfl⟩ := fres_miss h hl0
      rw [if_neg hmo] at h4
      refine ⟨h4, rfl, fun _ => ?_⟩
      have hms : ms.Perm (msT path Rs) := by
        refine (List.perm_ext_iff_of_nodup h5 ?_).2 fun x => ?_
        · unfold msT List.Nodup
          rw [List.pairwise_map]
          have hp : (Rs.filter fun r => decide (r.p = path ∧ r.m ≠ optNm)).Pairwise fun a b => ekey a ≠ ekey b := (List.pairwise_map.1 hn).filter _
          refine hp.imp_of_mem fun {x y} hx hy hxy hm' => hxy ?_
          have hx2 := of_decide_eq_true (List.mem_filter.1 hx).2
          have hy2 := of_decide_eq_true (List.mem_filter.1 hy).2
          unfold ekey
          rw [hx2.1, hy2.1, hm']
        · rw [h6]
          unfold msT
          rw [List.mem_map]
          constructor
          · rintro ⟨g1, g2, g3⟩
            have : ¬ ∀ r ∈ Rs, ¬ (r.p = path ∧ r.m = x) := fun hh => by rw [List.nil_append, (hlook x).2 hh] at g3; cases g3
            simp only [Classical.not_forall, Classical.not_not] at this
            obtain ⟨r, hr, hp, rfl⟩ := this
            exact ⟨r, List.mem_filter.2 ⟨hr, decide_eq_true ⟨hp, g2⟩⟩, rfl⟩
          · rintro ⟨r, hr, rfl⟩
            obtain ⟨hr1, hr2⟩ := List.mem_filter.1 hr
            have hr3 := of_decide_eq_true hr2
            refine ⟨hnf r hr1, hr3.2, ?_⟩
            rw [List.nil_append]
            cases hh : (KS Rs).look r.m (bs path) with
            | some _ => rfl
            | none => exact absurd ⟨hr3.1, rfl⟩ ((hlook r.m).1 hh r hr1)
      have hcm : ∀ x ∈ ms, (44 : UInt8) ∉ x := fun x hx => by
        have := hms.mem_iff.1 hx
        unfold msT at this
        obtain ⟨r, hr, rfl⟩ := List.mem_map.1 this
        exact hc r (List.mem_filter.1 hr).1
      have hfm : (ms.flatMap fun k => spl k []) = ms := by
        have : ∀ l : List (List UInt8), (∀ x ∈ l, (44 : UInt8) ∉ x) → (l.flatMap fun k => spl k []) = l := by
          intro l hl
          induction l with
          | nil => rfl
          | cons x l ih => rw [List.flatMap_cons, spl_plain (hl x (.head _)), ih fun y hy => hl y (.tail _ hy)]; rfl
        exact this ms hcm
      unfold alw
      rw [if_neg (by unfold optNm; simp), spl_ms, hfm, spl_plain (by decide)]
      exact srt_eq (hms.cons _)
    · rw [if_neg] at h
      · obtain ⟨rfl, _, _, rfl, _⟩ := fres_none h
        exact ⟨rfl, rfl, fun hh => by omega⟩
      · rintro ⟨_, ⟨k, hk, hq, _⟩, _⟩
        rw [htk k hk, List.nil_append] at hq
        exact h3 _ (hin k hk) (bs_inj hq)
end Bw
