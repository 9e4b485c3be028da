/- A table of routes is added to a tree, or refused; prefixes and endings of texts; how percent signs are resolved. -/
import Derived.Test.YtnopecnbpflodaaEb
import Derived.Test.YtnopecnbpflodaaPa
import Derived.Test.YtnopecnbpflodaaKa
import Derived.Tactics2
import Derived.Defers
import Derived.Recover
import Derived.Laws.Pointers
import Derived.WalkKit
import Derived.ProofKit
import Derived.Test.YtnopecnbpflodaaKb
import Derived.Laws.CopyRow
import Derived.Laws.MakeOwn
/- addRoute does what walkT says. -/
set_option maxRecDepth 20000
namespace Go.Proofs
open Go Bw Gt
/-- a way down that goes on as it should -/
def GoW (R : Ending → World → Prop) (w : World) (D : Nat → Prop) (hb num : Nat) (full : List UInt8) (k : T0) (p : List UInt8) (pfi : Nat) (r : Option T0) : Prop :=
 ∀ (cb : Nat) (Hk1 Hr' : SH) (fr' : SF), HT k cb Hk1 → Sub [(0, Pt cb 0), (1, S p), (2, .slice (some ⟨hb, 0, none⟩) 1 1), (6, S full), (7, I (pfi : Int))] fr' →
  (∀ t', r = some t' → ∀ Hn' w', HT t' cb Hn' → HF w D (Hn' ++ Hr') w' → R (.returned (.tuple #[])) w') → (r = none → ∀ e w', onePanic e → HF w D [] w' → R e w') →
  GC Try.prog ⟨72, Try.f72, R, w, D⟩ 377 K72 fr' (Hk1 ++ (⟨hb, true, .row [I (num : Int)] 3 (0, 0)⟩ :: Hr'))
theorem f72_step {R : Ending → World → Prop} {w : World} {D : Nat → Prop} {nb hb num pfi i : Nat} {p full tp idx : List UInt8} {wl : Bool} {nt pr : Nat} {h0 : Option Nat} {f0 : List UInt8} {kids : List T0} {bs : List Nat} {kv hv : Value} {Hs Hh Hk Hr : SH} {fr : SF} {rec : T0 → List UInt8 → Nat → Option (Option T0)} {res : Option T0}
  (hs : Own 89 1 kv kids.length (bs.map (Pt · 0)) Hs) (hh : HV h0 hv Hh) (hk : HTs kids bs Hk) (hpl : p.length ≤ 100000) (hfl : full.length ≤ 100000) (hpf : pfi + p.length ≤ full.length) (hip : i ≤ p.length) (hti : tp.length = i)
  (hsub : Sub [(0, Pt nb 0), (1, S p), (2, .slice (some ⟨hb, 0, none⟩) 1 1), (6, S full), (7, I (pfi : Int)), (8, I (i : Nat))] fr) (hsuf : p <:+ full)
  (F1 : kids.length ≤ 90000) (F2 : (∃ k, nt = 2 ∧ kids = [k] ∧ ∀ c, p[i]? = some c → c = 47) ∨ kids.length = idx.length + wl.toNat) (F3 : ∀ k ∈ kids, k.path.length ≤ 100000) (F4 : tp.length ≤ 100000)
  {s' : List Tok} {sl : Bool} (hok : Ok sl s') (hp' : p.drop i = txt s') (h92 : ∀ c ∈ txt s', c ≠ 92) (hst : stepN rec tp idx wl nt pr h0 f0 kids full pfi num (p.drop i) = some res)
  (hpar : ∀ k r, kids = [k] → nt = 2 → p[i]? = some 47 → rec k.incr (p.drop i) (pfi + tp.length) = some r → GoW R w D hb num full k.incr (p.drop i) (pfi + tp.length) r)
  (hidx : ∀ j c k r, p[i]? = some c → ¬ (nt = 2 ∧ c = 47 ∧ kids.length = 1) → idxOf c idx = some j → (bump idx kids j).2.1[(bump idx kids j).2.2]? = some k → rec k (p.drop i) (pfi + tp.length) = some r → GoW R w D hb num full k (p.drop i) (pfi + tp.length) r)
  (hwild : ∀ k0 r, wl = true → kids.getLast? = some k0 → k0.nt ≠ 3 → (p.drop i).take k0.path.length = k0.path → ((p.drop i).length ≤ k0.path.length ∨ (p.drop i)[k0.path.length]? = some 47) → rec k0.incr (p.drop i) pfi = some r → GoW R w D hb num full k0.incr (p.drop i) pfi r)
  (fin : ∀ t', res = some t' → ∀ Hn' w', HT t' nb Hn' → HF w D (Hn' ++ Hr) w' → R (.returned (.tuple #[])) w') (pan : res = none → ∀ e w', onePanic e → HF w D [] w' → R e w') :
  GC Try.prog ⟨72, Try.f72, R, w, D⟩ 377 K72m fr (⟨nb, true, .row (nodeR tp idx wl nt pr kv hv f0) 107 (0, 0)⟩ :: ((Hs ++ (Hh ++ Hk)) ++ (⟨hb, true, .row [I (num : Int)] 3 (0, 0)⟩ :: Hr))) := by
 have hdl : (p.drop i).length ≤ 100000 := by rw [List.length_drop]; omega
 cases hpd : p.drop i with
 | nil =>
  have hie : i = p.length := by have := congrArg List.length hpd; simp at this; omega
  rw [hpd] at hst
  simp only [stepN] at hst
  cases h0 with
  | none =>
   simp at hst
   exact f72_set hs hh hk hpl hfl hpf hip hti hsub hie rfl (fin _ hst.symm)
  | some k =>
   simp at hst
   exact f72_dup hs hh hk hpl hfl hpf hip hti hsub hie rfl (pan hst.symm)
 | cons c rest =>
  have hlt : i < p.length := by
   rcases Nat.lt_or_ge i p.length with h | h
   ·exact h
   ·rw [List.drop_eq_nil_of_le h] at hpd; cases hpd
  have hc : p[i]? = some c := by
   have : (p.drop i)[0]? = some c := by rw [hpd]; rfl
   rwa [List.getElem?_drop] at this
  rw [hpd] at hst
  simp only [stepN] at hst
  have hsf : (c :: rest) <:+ full := by rw [← hpd]; exact (List.drop_suffix _ _).trans hsuf
  split at hst
  ·rename_i hcase
   obtain ⟨e1, rfl, e3⟩ := hcase
   split at hst
   ·rename_i k
    obtain ⟨r, h1, h2⟩ := Option.map_eq_some_iff.1 hst
    refine f72_par hs hh hk hpl hfl hpf hip hti hsub hlt hc rfl e1 rfl fun cb Hk1 Hr' fr' hk1 back hsub' => ?_
    refine hpar k r rfl e1 hc (by rw [hpd]; exact h1) cb Hk1 Hr' fr' hk1 hsub' (fun t' ht Hn' w' hn' hw' => ?_) (fun hr => pan (by rw [← h2, hr]; rfl))
    obtain ⟨Hn2, h3, h4⟩ := back t' Hn' hn'
    exact fin _ (by rw [← h2, ht]; rfl) Hn2 w' h3 (hw'.perm h4)
   ·cases hst
  ·rename_i hnp
   have hF2 : kids.length = idx.length + wl.toNat := by
    rcases F2 with ⟨k, h1, h2, h3⟩ | h
    ·exact absurd ⟨h1, h3 c hc, by rw [h2]; rfl⟩ hnp
    ·exact h
   split at hst
   ·rename_i j hj
    split at hst
    ·rename_i k hkj
     obtain ⟨r, h1, h2⟩ := Option.map_eq_some_iff.1 hst
     refine f72_idx hs hh hk hpl hfl hpf hip hti hsub hlt hc hnp F1 (by omega) hj hkj fun cb Hk1 Hr' fr' hk1 back hsub' => ?_
     refine hidx j c k r hc hnp hj hkj (by rw [hpd]; exact h1) cb Hk1 Hr' fr' hk1 hsub' (fun t' ht Hn' w' hn' hw' => ?_) (fun hr => pan (by rw [← h2, hr]; rfl))
     obtain ⟨Hn2, h3, h4⟩ := back t' Hn' hn'
     exact fin _ (by rw [← h2, ht]; rfl) Hn2 w' h3 (hw'.perm h4)
    ·cases hst
   ·rename_i hj
    refine f72_none hs hh hk hpl hfl hpf hip hti hsub hlt hc hnp F1 (by omega) hj fun fr' hsub' => ?_
    rw [hpd] at hsub' hdl hp'
    split at hst
    ·rename_i hcase
     obtain ⟨c58, c42, n3⟩ := hcase
     have hpos : (idx ++ [c]).length - 1 = idx.length := by simp
     rw [hpos] at hst
     split at hst
     ·rename_i k hkj
      obtain ⟨r, h1, h2⟩ := Option.map_eq_some_iff.1 hst
      refine f72_new hs hh hk hdl hfl hsub' c58 c42 n3 F1 hF2 hkj fun cb Hk1 Hr' fr2 hk1 back hsub2 => ?_
      have hkk : k = .node () [] [] false 0 1 none full [] := by
       obtain ⟨np, hnp2, hb⟩ := bump_eq (idx ++ [c]) (addKid wl kids (.node () [] [] false 0 0 none full [])) (j := idx.length) (by simp)
       obtain ⟨g1, g2, g3, g4⟩ := addKid_get hF2 (.node () [] [] false 0 0 none full [])
       rw [hb] at hkj
       dsimp only at hkj
       rw [moveTo_get _ hnp2 (by rw [List.length_modify, g4]; omega), if_neg (by omega), if_pos rfl, List.getElem?_modify, g2] at hkj
       simp [Tr.incr, Tr.setPr, Tr.pr] at hkj
       exact hkj.symm
      subst hkk
      rw [hp'] at h1 hsub2
      refine f72_ins hfl _ sl s' _ r hok h92 (by rw [← hp']; exact hdl) (by simp [Tr.kids]) (by simp [Tr.path]) (by simp [Tr.kids]) hk1 h1 hsub2 (fun t' ht Hn' w' hn' hw' => ?_) (fun hr => pan (by rw [← h2, hr]; rfl))
      obtain ⟨Hn2, h3, h4⟩ := back t' Hn' hn'
      exact fin _ (by rw [← h2, ht]; rfl) Hn2 w' h3 (hw'.perm h4)
     ·cases hst
    ·rename_i hcase
     have hc3 : c = 58 ∨ c = 42 ∨ nt = 3 := by
      by_cases e1 : c = 58
      ·exact .inl e1
      ·by_cases e2 : c = 42
       ·exact .inr (.inl e2)
       ·exact .inr (.inr (Decidable.byContradiction fun e3 => hcase ⟨e1, e2, e3⟩))
     split at hst
     ·rename_i hwl
      split at hst
      ·rename_i k0 hk0
       have hk0' : kids[kids.length - 1]? = some k0 := by rw [← List.getLast?_eq_getElem?]; exact hk0
       have hk0m := List.mem_of_getLast? hk0
       rw [incr_path, incr_nt] at hst
       split at hst
       ·rename_i hcond
        obtain ⟨r, h1, h2⟩ := Option.map_eq_some_iff.1 hst
        refine f72_wdown hs hh hk hdl hfl hsub' hc3 hwl F1 hk0' (F3 k0 hk0m) hcond fun cb Hk1 Hr' fr2 hk1 back hsub2 => ?_
        have := hwild k0 r hwl hk0 hcond.2.2.1 (by rw [hpd]; exact hcond.2.1) (by rw [hpd]; exact hcond.2.2.2) (by rw [hpd]; exact h1)
        rw [hpd] at this
        refine this cb Hk1 Hr' fr2 hk1 hsub2 (fun t' ht Hn' w' hn' hw' => ?_) (fun hr => pan (by rw [← h2, hr]; rfl))
        obtain ⟨Hn2, h3, h4⟩ := back t' Hn' hn'
        have hkl : kids.length = kids.length - 1 + 1 := by
         have := (List.getElem?_eq_some_iff.1 hk0').1; omega
        refine fin _ (by rw [← h2, ht, Option.map_some, dropLast_set hkl]) Hn2 w' h3 (hw'.perm h4)
       ·rename_i hcond
        exact f72_wbad hs hh hk hdl hfl hsub' hc3 hwl F1 hk0' (F3 k0 hk0m) hcond hsf (pan (by cases hst; rfl))
      ·cases hst
     ·rename_i hwl
      have hwl' : wl = false := by simpa using hwl
      refine f72_same hs hh hk hdl hfl hsub' hc3 hwl' fun fr2 hsub2 => ?_
      rw [hp'] at hst hsub2
      refine f72_ins hfl _ sl s' (.node () tp idx wl nt pr h0 f0 kids) res hok h92 (by rw [← hp']; exact hdl) F1 F4 F3 (HT.mk hs hh hk) hst hsub2 fin pan
/-! ### what a tree's nodes are, by the routes -/
theorem nodup_256 {l : List UInt8} (h : l.Nodup) : l.length ≤ 256 := by
 have := h.length_le_of_subset (l₂ := (List.range 256).map UInt8.ofNat) fun x _ => by
  rw [List.mem_map]
  exact ⟨x.toNat, by rw [List.mem_range]; exact x.toNat_lt, by simp⟩
 simpa using this
/-- the texts of routes are not long -/
def Bd (f : F) : Prop := ∀ s v, f s = some v → (txt s).length ≤ 100000
theorem txt_bs_len (p : List UInt8) (s : List Tok) : (txt (bs p ++ s)).length = p.length + (txt s).length := by rw [txt_app, txt_bs, List.length_append]
theorem Bd.at {f : F} (h : Bd f) (p : List UInt8) (c : UInt8) : Bd (at_ f p c) := fun s v hs => by
 unfold at_ at hs
 split at hs
 ·have := h _ v hs
  rw [txt_bs_len] at this; omega
 ·cases hs
theorem Bd.P {f : F} (h : Bd f) (p wn : List UInt8) : Bd (fun s => f (bs p ++ .P wn :: s)) := fun s v hs => by
 have := h _ v hs
 rw [txt_bs_len] at this
 simp [txt] at this
 omega
theorem _root_.Gt.Rep.ex {t : T0} {f : F} (x : Rep true t f) (hn : t.nt ≠ 2) : ∃ s v, f s = some v := by
 cases x with
 | pa => exact absurd rfl hn
 | pk => exact absurd rfl hn
 | ca => exact ⟨_, _, one_self _ _⟩
 | st wn wk hp hnt hpre hh hnd hpl hlen hk hkn hne hno hw hwr hnw hA hmin =>
  rcases hmin rfl with h1 | h1 | h1 | ⟨k0, h1, h2, h3⟩
  ·obtain ⟨k, rfl⟩ := Option.isSome_iff_exists.1 h1
   exact ⟨_, _, hh⟩
  ·obtain ⟨_, _, _, _, ⟨s, v, h5⟩, _⟩ := hw h1
   exact ⟨_, v, h5⟩
  ·obtain ⟨d, l, rfl⟩ := List.exists_cons_of_length_pos (Nat.lt_of_lt_of_le Nat.zero_lt_two h1)
   obtain ⟨s, v, h5⟩ := hne d (.head _)
   exact ⟨_, v, h5⟩
  ·subst h1
   obtain ⟨s, v, h5⟩ := hne 47 (.head _)
   exact ⟨_, v, h5⟩
theorem _root_.Gt.Rep.path_len {t : T0} {f : F} (x : Rep true t f) (hn : t.nt ≠ 2) (hb : Bd f) : t.path.length ≤ 100000 := by
 obtain ⟨s, v, hs⟩ := x.ex hn
 cases x with
 | pa => exact absurd rfl hn
 | pk => exact absurd rfl hn
 | ca => simp [Tr.path]
 | st wn wk hp hnt hpre =>
  obtain ⟨r, rfl⟩ := hpre s v hs
  have := hb _ v hs
  rw [txt_bs_len] at this
  simp only [n_path]; omega
theorem _root_.Gt.St.kid_len {path idx : List UInt8} {wild : Bool} {nt : Nat} {h0 : Option Nat} {f0 : List UInt8} {kids : List T0} {f : F} (x : St true path idx wild nt h0 f0 kids f) (hb : Bd f) : ∀ k ∈ kids, k.path.length ≤ 100000 := fun k hk => by
 obtain ⟨j, hj⟩ := List.getElem?_of_mem hk
 have hjl := (List.getElem?_eq_some_iff.1 hj).1
 rcases Nat.lt_or_ge j idx.length with h | h
 ·have := x.hkn j k h hj
  exact Rep.path_len (x.hk j _ k (List.getElem?_eq_getElem h) hj) (by omega) (hb.at _ _)
 ·cases wild with
  | false => have := x.hlen; simp at this; omega
  | true =>
   have hl := x.hlen
   simp at hl
   obtain ⟨wn, wk, h1, h2, h3, h4, ⟨s, v, h5⟩, _⟩ := x.hw rfl
   have e : j = idx.length := by omega
   subst e
   rw [h1] at hj
   cases hj
   rw [h4]
   have := hb _ v h5
   rw [txt_bs_len] at this
   simp [txt] at this
   simp; omega
theorem walkT_node (n : Nat) (tp idx : List UInt8) (wl : Bool) (nt pr : Nat) (h0 : Option Nat) (f0 : List UInt8) (kids : List T0) (p full : List UInt8) (pfi h : Nat) : walkT (n + 1) (.node () tp idx wl nt pr h0 f0 kids) p full pfi h = Gt.stepT (fun k p q => walkT n k p full q h) (if Gs.lcp p tp < tp.length then Gt.split (.node () tp idx wl nt pr h0 f0 kids) () (Gs.lcp p tp) (full.take (pfi + Gs.lcp p tp)) else .node () tp idx wl nt pr h0 f0 kids) full pfi h (p.drop (Gs.lcp p tp)) := walkT_step _ _ _ _ _ _
/-- the loop -/
theorem f72_loop {R : Ending → World → Prop} {w : World} {D : Nat → Prop} {hb num : Nat} {full : List UInt8} (hfl : full.length ≤ 100000) (hf92 : ∀ c ∈ full, c ≠ 92) : ∀ (g : Nat),
  (∀ (t : T0) (f : F) (sl : Bool) (c : UInt8) (q : List Tok) (pfi : Nat) (res : Option T0), Rep true t f → t.nt ≠ 2 → Ok sl (.b c :: q) → (∀ s v, f s = some v → ∃ r, s = .b c :: r) → Bd f → txt (.b c :: q) <:+ full → pfi + (txt (.b c :: q)).length ≤ full.length → walkT g t (txt (.b c :: q)) full pfi num = some res → GoW R w D hb num full t (txt (.b c :: q)) pfi res) ∧
  (∀ (t : T0) (f : F) (n : List UInt8) (q : List Tok) (pfi : Nat) (res : Option T0), Rep true t f → t.nt = 2 → t.path = 58 :: n → word n → (q = [] ∨ ∃ r, q = .b 47 :: r) → Ok false q → Bd f → (58 :: (n ++ txt q)) <:+ full → pfi + (58 :: (n ++ txt q)).length ≤ full.length → walkT g t (58 :: (n ++ txt q)) full pfi num = some res → GoW R w D hb num full t (58 :: (n ++ txt q)) pfi res)
 | 0 => ⟨fun _ _ _ _ _ _ _ _ _ _ _ _ _ _ h => (by cases h), fun _ _ _ _ _ _ _ _ _ _ _ _ _ _ _ h => (by cases h)⟩
 | g + 1 => by
  obtain ⟨ihS, ihP⟩ := f72_loop (R := R) (w := w) (D := D) (hb := hb) (num := num) hfl hf92 g
  constructor
  ·intro t f sl c q pfi res hr hn2 hok hhd hb hsuf hpf hwk nb Hn Hr fr ht hsub fin pan
   have hpl : (txt (.b c :: q)).length ≤ 100000 := Nat.le_trans hsuf.length_le hfl
   cases ht with
   | @mk path idx wild nt pr h0 full0 kids _ bks kv hv Hs Hh Hk hs hh hk =>
   refine f72_split hs hh hk hpl hfl hpf hsub fun Hn1 fr1 hn1 hsub1 => ?_
   rw [walkT_node] at hwk
   have h92 : ∀ c' ∈ txt (.b c :: q), c' ≠ 92 := fun c' hc' => hf92 c' (hsuf.subset hc')
   cases hr with
   | pa => exact absurd rfl hn2
   | pk => exact absurd rfl hn2
   | @ca _ _ pr2 num2 _ full2 n hn =>
    obtain ⟨r, e⟩ := hhd _ _ (one_self _ _)
    simp at e
    have hc : c = 47 := e.1.symm
    subst hc
    have hl : Gs.lcp (txt (.b 47 :: q)) [] = 0 := Gs.lcp_nil' _
    rw [hl, List.length_nil, if_neg (Nat.lt_irrefl _)] at hwk hn1
    rw [hl] at hsub1
    rw [stepT_node] at hwk
    have hbl := hb _ _ (one_self _ _)
    simp [txt] at hbl
    cases hn1 with
    | @mk _ _ _ _ _ _ _ _ _ bks1 kv1 hv1 Hs1 Hh1 Hk1 hs1 hh1 hk1 =>
    refine f72_step hs1 hh1 hk1 hpl hfl hpf (Nat.zero_le _) rfl hsub1 hsuf (by simp) (.inr rfl) (fun k hk => by rw [List.mem_singleton.1 hk]; simp [Tr.path]; omega) (by simp) (s' := .b 47 :: q) hok rfl h92 hwk (fun _ _ _ e => by cases e) (fun j c k r _ _ hj => by cases hj) (fun k0 r _ hk0 hk3 => by
     simp at hk0; subst hk0; exact absurd rfl hk3) fin pan
   | @st _ _ _ _ _ _ _ _ _ _ wn wk hp hnt hpre hh2 hnd hpl2 hlen hk2 hkn hne hno hw hwr hnw hA hmin =>
    have X : St true path idx wild nt h0 full0 kids f := (Rep.st (pr := pr) wn wk hp hnt hpre hh2 hnd hpl2 hlen hk2 hkn hne hno hw hwr hnw hA hmin).toSt hnt
    obtain ⟨i, s', hi, hss, hl, hd, hnx⟩ := lcp_tok path (.b c :: q) hp
    obtain ⟨sl', hok'⟩ := Ok_bs (hss ▸ hok)
    have hil : i ≤ (txt (.b c :: q)).length := by have := (Gs.lcp_le (txt (.b c :: q)) path).1; omega
    rw [hl] at hwk hn1 hsub1
    have hd92 : ∀ c' ∈ txt s', c' ≠ 92 := fun c' hc' => h92 c' (List.mem_of_mem_drop (hd ▸ hc'))
    have hfirst : ∀ c', (txt (.b c :: q))[i]? = some c' → ∀ d q', s' = .b d :: q' → c' = d := fun c' hc' d q' e => by
     have : ((txt (.b c :: q)).drop i)[0]? = some c' := by rw [List.getElem?_drop]; exact hc'
     rw [hd, e] at this
     simpa [txt] using this.symm
    have hbyte : ∀ c', (txt (.b c :: q))[i]? = some c' → ∀ j, idxOf c' idx = some j → ∃ q', s' = .b c' :: q' := fun c' hc' j hj => by
     have h1 : (txt s')[0]? = some c' := by rw [← hd, List.getElem?_drop]; exact hc'
     have h2 := hpl2 c' (List.mem_of_getElem? (idxOf_mem hj))
     match s', h1 with
     | .b d :: q', h1 => exact ⟨q', by simp [txt] at h1; rw [h1]⟩
     | .P m :: q', h1 => simp [txt] at h1; exact absurd h1.symm h2.1
     | .A m :: q', h1 => simp [txt] at h1; exact absurd h1.symm h2.2
    by_cases hlt : i < path.length
    ·obtain ⟨x, hx⟩ : ∃ x, path[i]? = some x := ⟨_, List.getElem?_eq_getElem hlt⟩
     have e0 : Gt.split (.node () path idx wild nt pr h0 full0 kids) () i (full.take (pfi + i)) = .node () (path.take i) [x] false nt pr none (full.take (pfi + i)) [.node () (path.drop i) idx wild 0 (pr + 4294967295) h0 full0 kids] := by
      unfold Gt.split
      simp only [n_h, n_path, n_idx, n_wild, n_nt, n_pr, n_kids, n_full, take_one hx]
     rw [if_pos hlt, e0] at hwk hn1
     rw [stepT_node] at hwk
     have hpll := X.rep (pr := pr) |>.path_len (by simp only [n_nt]; omega) hb
     simp only [n_path] at hpll
     cases hn1 with
     | @mk _ _ _ _ _ _ _ _ _ bks1 kv1 hv1 Hs1 Hh1 Hk1 hs1 hh1 hk1 =>
     refine f72_step hs1 hh1 hk1 hpl hfl hpf hil (by simp; omega) hsub1 hsuf (by simp) (.inr rfl) (fun k hk => by rw [List.mem_singleton.1 hk]; simp [Tr.path]; omega) (by simp; omega) (s' := s') hok' hd hd92 hwk (fun _ _ _ e => by omega) (fun j c' k r hc' _ hj => by
       have hxc : c' = x := by
        have := List.mem_of_getElem? (idxOf_mem hj)
        simpa using this
       subst hxc
       have h1 : (txt s')[0]? = some c' := by rw [← hd, List.getElem?_drop]; exact hc'
       have hpc := hp c' (List.mem_of_getElem? hx)
       have hnx2 := hnx c' hx
       exfalso
       match s', h1, hnx2 with
       | .b d :: q', h1, hnx2 => simp [txt] at h1; exact hnx2 (by rw [h1]; rfl)
       | .P m :: q', h1, _ => simp [txt] at h1; exact hpc.1 h1.symm
       | .A m :: q', h1, _ => simp [txt] at h1; exact hpc.2 h1.symm) (fun k0 r e => by cases e) fin pan
    ·have hie : i = path.length := by omega
     subst hie
     rw [if_neg hlt] at hwk hn1
     rw [stepT_node] at hwk
     rw [List.take_length] at hss
     have htl : (txt (.b c :: q)).length = path.length + (txt s').length := by rw [hss, txt_bs_len]
     have hks := nodup_256 hnd
     have hwb : wild.toNat ≤ 1 := by cases wild <;> simp
     have hpll := X.rep (pr := pr) |>.path_len (by simp only [n_nt]; omega) hb
     simp only [n_path] at hpll
     cases hn1 with
     | @mk _ _ _ _ _ _ _ _ _ bks1 kv1 hv1 Hs1 Hh1 Hk1 hs1 hh1 hk1 =>
     refine f72_step hs1 hh1 hk1 hpl hfl hpf hil rfl hsub1 hsuf (by omega) (.inr hlen) (X.kid_len hb) hpll (s' := s') hok' hd hd92 hwk (fun _ _ _ e => by omega) (fun j c' k r hc' _ hj hkj hrec => ?_) (fun k0 r hwl hk0 hk3 htk hlk hrec => ?_) fin pan
     ·obtain ⟨q', rfl⟩ := hbyte c' hc' j hj
      have hjd := idxOf_mem hj
      have hjl := (List.getElem?_eq_some_iff.1 hjd).1
      obtain ⟨np, hnp, hbm⟩ := bump_eq idx kids hjl
      rw [hbm] at hkj
      dsimp only at hkj
      rw [moveTo_get _ hnp (by rw [List.length_modify]; omega), if_neg (by omega), if_pos rfl, List.getElem?_modify] at hkj
      obtain ⟨k1, hk1', e1⟩ := Option.map_eq_some_iff.1 hkj
      simp at e1
      subst e1
      have hkr := hk2 j c' k1 hjd hk1'
      have hkn2 := hkn j k1 hjl hk1'
      rw [hd] at hrec ⊢
      exact ihS k1.incr (at_ f path c') sl' c' q' (pfi + path.length) r hkr.incr (by rw [incr_nt]; omega) hok' at_head (hb.at _ _) (by rw [← hd]; exact (List.drop_suffix _ _).trans hsuf) (by omega) hrec
     ·subst hwl
      obtain ⟨wn2, wk2, h1, h2, h3, h4, h5, h6, h7⟩ := X.hw rfl
      have hl1 : kids.length = idx.length + 1 := by simpa using hlen
      have hlast : kids.getLast? = some wk2 := by rw [List.getLast?_eq_getElem?, hl1]; exact h1
      rw [hlast] at hk0
      cases hk0
      rw [h4] at htk hlk
      rw [hd] at hrec htk hlk ⊢
      match s', hok' with
      | [], _ => simp [txt] at htk
      | .b d :: q', hok' => simp [txt] at htk; exact absurd htk.1 hok'.1.1
      | .A m :: q', _ => simp [txt] at htk
      | .P m :: q', hok' =>
       obtain ⟨_, hmw, hq, hq2⟩ := hok'
       have e := word_eq hmw h2 hq htk hlk
       subst e
       exact ihP k0.incr _ m q' pfi r h7.incr (by rw [incr_nt]; exact h3) (by rw [incr_path]; exact h4) h2 hq hq2 (hb.P _ _) (by
        have : (58 :: (m ++ txt q')) = (txt (.b c :: q)).drop path.length := hd.symm
        rw [this]; exact (List.drop_suffix _ _).trans hsuf) (by
        have : (txt (.P m :: q')).length = (58 :: (m ++ txt q')).length := rfl
        omega) hrec
  ·intro t f n q pfi res hr hn2 hpth hw hq hok hb hsuf hpf hwk nb Hn Hr fr ht hsub fin pan
   have hpl : (58 :: (n ++ txt q)).length ≤ 100000 := Nat.le_trans hsuf.length_le hfl
   have hl : Gs.lcp (58 :: (n ++ txt q)) (58 :: n) = n.length + 1 := by
    have := Gs.lcp_front (58 :: n) (txt q) []
    rw [List.append_nil, Gs.lcp_nil'] at this
    exact this
   have hd : (58 :: (n ++ txt q)).drop (n.length + 1) = txt q := by simp
   have hnl : ¬ (n.length + 1 < (58 :: n : List UInt8).length) := by simp
   have hgl : (58 :: (n ++ txt q)).length = n.length + 1 + (txt q).length := by simp; omega
   have hd92 : ∀ c' ∈ txt q, c' ≠ 92 := fun c' hc' => hf92 c' (hsuf.subset (by simp [hc']))
   have hil : n.length + 1 ≤ (58 :: (n ++ txt q)).length := by omega
   cases ht with
   | @mk path idx wild nt pr h0 full0 kids _ bks kv hv Hs Hh Hk hs hh hk =>
   simp only [n_path] at hpth
   subst hpth
   refine f72_split hs hh hk hpl hfl hpf hsub fun Hn1 fr1 hn1 hsub1 => ?_
   rw [walkT_node] at hwk
   rw [hl] at hwk hn1 hsub1
   rw [if_neg hnl] at hwk hn1
   rw [stepT_node] at hwk
   cases hn1 with
   | @mk _ _ _ _ _ _ _ _ _ bks1 kv1 hv1 Hs1 Hh1 Hk1 hs1 hh1 hk1 =>
   cases hr with
   | st wn wk hp hnt => simp only [n_nt] at hn2; omega
   | pa hh2 hno =>
    refine f72_step hs1 hh1 hk1 hpl hfl hpf hil (by simp) hsub1 hsuf (by simp) (.inr rfl) (by simp) (by simp; omega) (s' := q) hok hd hd92 hwk (fun _ _ e => by cases e) (fun j c' k r _ _ hj => by cases hj) (fun k0 r e => by cases e) fin pan
   | @pk _ _ _ _ _ _ k _ hh2 hidx hkr hkn h47 hne =>
    have hfst : ∀ c', (58 :: (n ++ txt q))[n.length + 1]? = some c' → c' = 47 := fun c' hc' => by
     have : ((58 :: (n ++ txt q)).drop (n.length + 1))[0]? = some c' := by rw [List.getElem?_drop]; exact hc'
     rw [hd] at this
     rcases hq with rfl | ⟨r, rfl⟩
     ·simp [txt] at this
     ·simp [txt] at this; exact this.symm
    have hkl : k.path.length ≤ 100000 := Rep.path_len hkr (by omega) fun s v hs => by
     split at hs
     ·cases hs
     ·exact hb s v hs
    refine f72_step hs1 hh1 hk1 hpl hfl hpf hil (by simp) hsub1 hsuf (by simp) (.inl ⟨k, rfl, rfl, hfst⟩) (fun k2 hk2 => by rw [List.mem_singleton.1 hk2]; exact hkl) (by simp; omega) (s' := q) hok hd hd92 hwk (fun k2 r e _ hc' hrec => ?_) (fun j c' k r hc' hnp => absurd ⟨rfl, hfst c' hc', rfl⟩ hnp) (fun k0 r e => by cases e) fin pan
    cases e
    rw [hd] at hrec ⊢
    rcases hq with rfl | ⟨r2, rfl⟩
    ·rw [List.getElem?_eq_none (by simp [txt])] at hc'; cases hc'
    ·refine ihS k.incr _ false 47 r2 (pfi + (58 :: n).length) r hkr.incr (by rw [incr_nt]; omega) hok (fun s v hs => ?_) (fun s v hs => ?_) (by rw [← hd]; exact (List.drop_suffix _ _).trans hsuf) (by rw [hgl] at hpf; simp; omega) hrec
     ·split at hs
      ·cases hs
      ·rename_i e
       rcases h47 s v hs with rfl | h
       ·exact absurd rfl e
       ·exact h
     ·split at hs
      ·cases hs
      ·exact hb s v hs
end Go.Proofs

/- addRoute. Printed by wip/mk_gu15.py. -/
set_option maxRecDepth 20000
namespace Go.Proofs
open Go Bw
open Gt
theorem f72_first (w : World) (D : Nat → Prop) {nb hb num cap : Nat} {ad : Option Addr} {Hs Hr : SH} (hs : Own 89 1 (.slice ad 0 cap) 0 [] Hs) {r : List Tok} {res : Option T0} (hr : Gt.Good r) (hl : (txt r).length ≤ 100000) (h92 : ∀ c ∈ txt r, c ≠ 92) (hres : addT new (txt r) num = some res) (hH : HF w D ((⟨nb, true, .row (nodeR [] [] false 0 0 (.slice ad 0 cap) (.slice none 0 0) [47]) 107 (0, 0)⟩ :: (Hs ++ ([] ++ []))) ++ (⟨hb, true, .row [I (num : Int)] 3 (0, 0)⟩ :: Hr)) w) :
  Calls Try.prog 72 #[Pt nb 0, S (txt r), (.slice (some ⟨hb, 0, none⟩) 1 1)] w fun e w' => (∃ t' Hn', res = some t' ∧ e = .returned (.tuple #[]) ∧ HT t' nb Hn' ∧ HF w D (Hn' ++ Hr) w') ∨ (res = none ∧ onePanic e ∧ HF w D [] w') := by
 refine enter D ((⟨nb, true, .row (nodeR [] [] false 0 0 (.slice ad 0 cap) (.slice none 0 0) [47]) 107 (0, 0)⟩ :: (Hs ++ ([] ++ []))) ++ (⟨hb, true, .row [I (num : Int)] 3 (0, 0)⟩ :: Hr)) Try.func72 rfl Try.ntmps72 rfl rfl hH fun c hc => ?_
 subst hc
 obtain ⟨hok, q, rfl⟩ := hr
 unfold addT at hres
 have e2 : (new : T0).incr = .node () [] [] false 0 1 none [47] [] := rfl
 simp only [e2, n_path, n_kids, and_self, if_true] at hres
 obtain ⟨r1, hi, hres2⟩ := Option.map_eq_some_iff.1 hres
 refine GC.scope ?_
 refine GC.seq ?_
 refine GC.reg ?_
 refine G.m1 ?_
 refine G.m2 ?_
 refine G.nil ?_
 refine GC.seq ?_
 refine GC.reg ?_
 refine G.m1 ?_
 refine G.v (V.nc rfl) rfl ?_
 refine G.v (V.fa F107_4 rfl) rfl ?_
 refine G.v (V.ld (b := nb) (off := 0 + 4) (wf := true) (l := nodeR [] [] false 0 0 (.slice ad 0 cap) (.slice none 0 0) [47]) (T := 107) (fz := (0, 0)) (v := .int .u32 ((0 % 4294967296 : Nat) : Int)) Try.isAgg104 rfl (.head _) rfl) rfl ?_
 refine G.v (V.add rfl rfl) rfl ?_
 rw [wrapU32]
 refine G.v (V.nc rfl) rfl ?_
 refine G.v (V.fa F107_4 rfl) rfl ?_
 refine G.st (b := nb) (off := 0 + 4) (l := nodeR [] [] false 0 0 (.slice ad 0 cap) (.slice none 0 0) [47]) (T := 107) (fz := (0, 0)) (v := .int .u32 (((0 + 1) % 4294967296 : Nat) : Int)) Try.sizeOf104 rfl rfl rfl (.z) rfl rfl ?_
 refine G.nil ?_
 refine GC.seq ?_
 refine GC.seq ?_
 refine GC.turn (H' := (⟨nb, true, .row (nodeR [] [] false 0 1 (.slice ad 0 cap) (.slice none 0 0) [47]) 107 (0, 0)⟩ :: (Hs ++ ([] ++ []))) ++ (⟨hb, true, .row [I (num : Int)] 3 (0, 0)⟩ :: Hr)) (fun w1 h1 => h1) ?_
 refine GC.reg ?_
 refine G.m1 ?_
 refine G.v (V.nc rfl) rfl ?_
 refine G.v (V.fa F107_0 rfl) rfl ?_
 refine G.v (V.ld (b := nb) (off := 0 + 0) (wf := true) (l := nodeR [] [] false 0 1 (.slice ad 0 cap) (.slice none 0 0) [47]) (T := 107) (fz := (0, 0)) (v := S []) Try.isAgg9 rfl (.head _) rfl) rfl ?_
 refine G.v (V.lenS Try.underlying9 rfl) rfl ?_
 refine G.v (V.eqI rfl rfl) rfl ?_
 refine G.m1 ?_
 refine G.bc 30 rfl (fun h30 => ?_) (fun h30 => ?_)
 ·refine G.m5 ?_
  refine G.vg rfl rfl (V.nc rfl) rfl ?_
  refine G.vg rfl rfl (V.fa F107_5 rfl) rfl ?_
  refine G.vg rfl rfl (V.ld (b := nb) (off := 0 + 5) (wf := true) (l := nodeR [] [] false 0 1 (.slice ad 0 cap) (.slice none 0 0) [47]) (T := 107) (fz := (0, 0)) (v := .slice ad 0 cap) Try.isAgg105 rfl (.head _) rfl) rfl ?_
  refine G.vg rfl rfl (V.lenL Try.underlying105 rfl) rfl ?_
  refine G.vg rfl rfl (V.eqI rfl rfl) rfl ?_
  refine G.m3 ?_
  refine G.nil ?_
  refine GC.cond rfl (fun h37 => ?_) (fun h37 => absurd h37 (by decide))
  refine GC.seq ?_
  refine GC.reg ?_
  refine G.m1 ?_
  refine G.m1 ?_
  refine G.m1 ?_
  refine G.m1 ?_
  refine G.callE (H1 := (⟨nb, true, .row (nodeR [] [] false 0 1 (.slice ad 0 cap) (.slice none 0 0) [47]) 107 (0, 0)⟩ :: (Hs ++ ([] ++ []))) ++ [⟨hb, true, .row [I (num : Int)] 3 (0, 0)⟩]) (Hk := Hr) (fun v H1' => v = .tuple #[] ∧ ∃ t', r1 = some t' ∧ HT t' nb H1') (fun H1' => r1 = none) (by simp) (fun e0 he0 => ?_) Try.call79 rfl rfl (fun w1 hw1 => ?_) ?_ (fun H1' e w' h1 h2 h3 => .inr ⟨by rw [← hres2, h1]; rfl, h2, h3.sub (List.nil_sublist _)⟩)
  ·simp only [List.append_nil, List.cons_append, List.mem_cons, List.mem_append, List.not_mem_nil, or_false] at he0
   rcases he0 with rfl | he0 | rfl
   ·rfl
   ·exact hs.w e0 he0
   ·rfl
  ·refine (f79_any w1 _ hl _ false (.b 47 :: q) (.node () [] [] false 0 1 none [47] []) nb _ [] r1 hok h92 hl (by simp [Tr.kids]) (by simp [Tr.path]) (by simp [Tr.kids]) (HT.mk (bs := []) hs HV.nil HTs.nil) hi hw1).mono fun e w' h => ?_
   rcases h with ⟨t', Hn', h1, h2, h3, h4⟩ | ⟨h1, h2, h3⟩
   ·rw [List.append_nil Hn'] at h4
    exact ⟨Hn', h3.w, h4, .inl ⟨_, h2, rfl, t', h1, h3⟩⟩
   ·exact ⟨[], by simp, h3, .inr ⟨h2, h1⟩⟩
  rintro v H1' ⟨rfl, t', ht1, ht2⟩
  refine G.nil ?_
  refine GC.seq ?_
  cases ht2 with
  | @mk tp idx wl nt pr h0 f0 kids _ bks kv hv Hs2 Hh Hk hs2 hh hk =>
  refine GC.reg ?_
  refine G.m1 ?_
  refine G.v (V.nc rfl) rfl ?_
  refine G.v (V.fa F107_3 rfl) rfl ?_
  refine G.st (b := nb) (off := 0 + 3) (l := nodeR tp idx wl nt pr kv hv f0) (T := 107) (fz := (0, 0)) (v := .int .u8 ((1 : Nat) : Int)) Try.sizeOf103 rfl rfl rfl (.z) rfl rfl ?_
  refine G.nil ?_
  exact GC.ret0 rfl fun w' hw' => .inl ⟨_, _, by rw [← hres2, ht1]; rfl, rfl, HT.mk (nt := 1) hs2 hh hk, hw'⟩
 ·exact absurd h30 (by decide)
theorem f72_more (w : World) (D : Nat → Prop) {nb hb num : Nat} {Hn Hr : SH} {r : List Tok} {t : T0} {f : F} {res : Option T0} (hr : Gt.Good r) (hl : (txt r).length ≤ 100000) (h92 : ∀ c ∈ txt r, c ≠ 92) (hrep : Rep true t f) (hn1 : t.nt = 1) (hhd : ∀ s v, f s = some v → ∃ r, s = .b 47 :: r) (hbd : Bd f) (hres : addT t (txt r) num = some res) (ht : HT t nb Hn) (hH : HF w D (Hn ++ (⟨hb, true, .row [I (num : Int)] 3 (0, 0)⟩ :: Hr)) w) :
  Calls Try.prog 72 #[Pt nb 0, S (txt r), (.slice (some ⟨hb, 0, none⟩) 1 1)] w fun e w' => (∃ t' Hn', res = some t' ∧ e = .returned (.tuple #[]) ∧ HT t' nb Hn' ∧ HF w D (Hn' ++ Hr) w') ∨ (res = none ∧ onePanic e ∧ HF w D [] w') := by
 refine enter D (Hn ++ (⟨hb, true, .row [I (num : Int)] 3 (0, 0)⟩ :: Hr)) Try.func72 rfl Try.ntmps72 rfl rfl hH fun c hc => ?_
 subst hc
 have hnot : ¬ (t.incr.path = [] ∧ t.incr.kids = []) := by
  rintro ⟨h1, h2⟩
  rw [incr_path] at h1
  rw [incr_kids] at h2
  cases t with
  | node a =>
  obtain ⟨k, _, e, _⟩ := (hrep.toSt (.inr hn1)).head hhd h1
  simp only [n_kids] at h2
  rw [h2] at e; cases e
 obtain ⟨hok, q, rfl⟩ := hr
 unfold addT at hres
 simp only [hnot, if_false] at hres
 have hrep2 := hrep.incr
 have hn2 : t.incr.nt = 1 := by rw [incr_nt]; exact hn1
 cases ht with
 | @mk tp idx wl nt pr h0 f0 kids _ bks kv hv Hs Hh Hk hs hh hk =>
 rw [incr_path, incr_kids] at hnot
 simp only [n_path, n_kids] at hnot
 obtain ⟨ad, cap, rfl⟩ := hs.slice
 refine GC.scope ?_
 refine GC.seq ?_
 refine GC.reg ?_
 refine G.m1 ?_
 refine G.m2 ?_
 refine G.nil ?_
 refine GC.seq ?_
 refine GC.reg ?_
 refine G.m1 ?_
 refine G.v (V.nc rfl) rfl ?_
 refine G.v (V.fa F107_4 rfl) rfl ?_
 refine G.v (V.ld (b := nb) (off := 0 + 4) (wf := true) (l := nodeR tp idx wl nt pr (.slice ad kids.length cap) hv f0) (T := 107) (fz := (0, 0)) (v := .int .u32 ((pr % 4294967296 : Nat) : Int)) Try.isAgg104 rfl (.head _) rfl) rfl ?_
 refine G.v (V.add rfl rfl) rfl ?_
 rw [wrapU32]
 refine G.v (V.nc rfl) rfl ?_
 refine G.v (V.fa F107_4 rfl) rfl ?_
 refine G.st (b := nb) (off := 0 + 4) (l := nodeR tp idx wl nt pr (.slice ad kids.length cap) hv f0) (T := 107) (fz := (0, 0)) (v := .int .u32 (((pr + 1) % 4294967296 : Nat) : Int)) Try.sizeOf104 rfl rfl rfl (.z) rfl rfl ?_
 refine G.nil ?_
 refine GC.seq ?_
 refine GC.seq ?_
 refine GC.turn (H' := (⟨nb, true, .row (nodeR tp idx wl nt (pr + 1) (.slice ad kids.length cap) hv f0) 107 (0, 0)⟩ :: (Hs ++ (Hh ++ Hk))) ++ (⟨hb, true, .row [I (num : Int)] 3 (0, 0)⟩ :: Hr)) (fun w1 h1 => ?_) ?_
 ·exact h1
 refine GC.join (fun fr' H' => Sub [(0, Pt nb 0), (1, S (txt (.b 47 :: q))), (2, (.slice (some ⟨hb, 0, none⟩) 1 1)), (6, S (txt (.b 47 :: q))), (37, .bool false)] fr' ∧ H' = (⟨nb, true, .row (nodeR tp idx wl nt (pr + 1) (.slice ad kids.length cap) hv f0) 107 (0, 0)⟩ :: (Hs ++ (Hh ++ Hk))) ++ (⟨hb, true, .row [I (num : Int)] 3 (0, 0)⟩ :: Hr)) (fun J2 => ?_) ?_
 ·refine GC.reg ?_
  refine G.m1 ?_
  refine G.v (V.nc rfl) rfl ?_
  refine G.v (V.fa F107_0 rfl) rfl ?_
  refine G.v (V.ld (b := nb) (off := 0 + 0) (wf := true) (l := nodeR tp idx wl nt (pr + 1) (.slice ad kids.length cap) hv f0) (T := 107) (fz := (0, 0)) (v := S tp) Try.isAgg9 rfl (.head _) rfl) rfl ?_
  refine G.v (V.lenS Try.underlying9 rfl) rfl ?_
  refine G.v (V.eqI rfl rfl) rfl ?_
  refine G.m1 ?_
  refine G.bc 30 rfl (fun h30 => ?_) (fun h30 => ?_)
  ·refine G.m5 ?_
   refine G.vg rfl rfl (V.nc rfl) rfl ?_
   refine G.vg rfl rfl (V.fa F107_5 rfl) rfl ?_
   refine G.vg rfl rfl (V.ld (b := nb) (off := 0 + 5) (wf := true) (l := nodeR tp idx wl nt (pr + 1) (.slice ad kids.length cap) hv f0) (T := 107) (fz := (0, 0)) (v := .slice ad kids.length cap) Try.isAgg105 rfl (.head _) rfl) rfl ?_
   refine G.vg rfl rfl (V.lenL Try.underlying105 rfl) rfl ?_
   refine G.vg rfl rfl (V.eqI rfl rfl) rfl ?_
   refine G.m3 ?_
   refine G.nil ?_
   have hp0 : tp = [] := List.length_eq_zero_iff.1 (by have := of_decide_eq_true h30; omega)
   have e : decide (((kids.length : Nat) : Int) = 0) = false := decide_eq_false fun e => hnot ⟨hp0, List.length_eq_zero_iff.1 (by omega)⟩
   refine J2 _ _ ⟨?_, rfl⟩
   rw [e]
   exact .of rfl
  ·refine G.s1 ?_
   refine G.s1 ?_
   refine G.s1 ?_
   refine G.s1 ?_
   refine G.s1 ?_
   refine G.s1 ?_
   refine G.m4 ?_
   refine G.nil ?_
   exact J2 _ _ ⟨.of rfl, rfl⟩
 rintro fr' H' ⟨hs2, rfl⟩
 refine GC.weak hs2 ?_
 clear hs2
 refine GC.condF rfl ?_
 refine GC.skip ?_
 refine GC.seq ?_
 refine GC.reg ?_
 refine G.m2 ?_
 refine G.nil ?_
 refine GC.seq ?_
 refine GC.label ?_
 refine GC.block ?_
 refine GC.loop ?_
 refine (f72_loop hl h92 _).1 _ f false 47 q 0 res hrep2 (by rw [hn2]; decide) hok hhd hbd (List.suffix_refl _) (by omega) hres nb _ Hr _ (HT.mk hs hh hk) (.of rfl) (fun t' h1 Hn' w' h2 h3 => .inl ⟨t', Hn', h1, rfl, h2, h3⟩) (fun h1 e w' h2 h3 => .inr ⟨h1, h2, h3⟩)
/-- addRoute -/
theorem f72_any (w : World) (D : Nat → Prop) {nb hb num : Nat} {Hn Hr : SH} {r : List Tok} {t : T0} {f : F} {res : Option T0} (hr : Gt.Good r) (hl : (txt r).length ≤ 100000) (h92 : ∀ c ∈ txt r, c ≠ 92) (hts : TS t f) (hbd : Bd f) (hres : addT t (txt r) num = some res) (ht : HT t nb Hn) (hH : HF w D (Hn ++ (⟨hb, true, .row [I (num : Int)] 3 (0, 0)⟩ :: Hr)) w) :
  Calls Try.prog 72 #[Pt nb 0, S (txt r), (.slice (some ⟨hb, 0, none⟩) 1 1)] w fun e w' => (∃ t' Hn', res = some t' ∧ e = .returned (.tuple #[]) ∧ HT t' nb Hn' ∧ HF w D (Hn' ++ Hr) w') ∨ (res = none ∧ onePanic e ∧ HF w D [] w') := by
 rcases hts with ⟨rfl, rfl⟩ | ⟨h1, h2, h3⟩
 ·cases ht with
  | mk hs hh hk =>
  cases hk
  cases hh
  obtain ⟨ad, cap, rfl⟩ := hs.slice
  exact f72_first w D hs hr hl h92 hres hH
 ·exact f72_more w D hr hl h92 h1 h2 h3 hbd hres ht hH
end Go.Proofs

/- impl.thrown: whether a function panics. -/
set_option maxRecDepth 100000
namespace Go.Proofs
open Go
theorem Try.catch_idle (p : Addr) (x : Bool) (w : World) (hc : w.cell? p = some (.bool x)) (hz : w.frozen? p = false) :
  CallsD Try.prog 67 #[.pointer (some p)] .returning w fun e u' w' => e = .returned (.tuple #[]) ∧ u' = .returning ∧ w' = w.setCell p (.bool false) := by
 refine callsD_of_wpS Try.func67 rfl fun c₀ cs hu => ?_
 apply wpS_region
 simp [wpOpsS, go_sem, recoverD, hu, Try.ntmps67, hc, hz]
 cases c₀
 simp_all [bodyPostS, results, Try.results67]
theorem Try.catch_panicking (p : Addr) (x : Bool) (u : TypeId) (pv : Value) (older : List PanicEntry) (w : World) (hc : w.cell? p = some (.bool x)) (hz : w.frozen? p = false) :
  CallsD Try.prog 67 #[.pointer (some p)] (.panicking ({ v := .iface u pv, recovered := false } :: older)) w fun e u' w' => e = .returned (.tuple #[]) ∧ u' = .panicking ({ v := .iface u pv, recovered := true } :: older) ∧ w' = w.setCell p (.bool true) := by
 refine callsD_of_wpS Try.func67 rfl fun c₀ cs hu => ?_
 apply wpS_region
 simp [wpOpsS, go_sem, recoverD, hu, Try.ntmps67, hc, hz, bodyPostS, results, Try.results67]
theorem Try.thrown_any (g : Nat) (caps : Array Value) (eg : ∀ args w, (callFunc g args).run Try.prog w = .ok (.enter g args) w) (w : World) (K : Bool → World → Prop)
  (hf : Calls Try.prog g caps (w.alloc (.cells #[.bool false] 4)) fun e w1 => w1.cell? ⟨w.heap.size, 0, none⟩ = some (.bool false) ∧ w1.frozen? ⟨w.heap.size, 0, none⟩ = false ∧
   ((∃ v, e = .returned v ∧ K false ((w1.setCell ⟨w.heap.size, 0, none⟩ (.bool false)).setCell ⟨w.heap.size, 0, none⟩ (.bool false))) ∨ (∃ u pv, e = .panicked [{ v := .iface u pv, recovered := false }] ∧ K true (w1.setCell ⟨w.heap.size, 0, none⟩ (.bool true))))) :
  Calls Try.prog 42 #[.func (.func g) #[] caps] w fun e w' => ∃ b, e = .returned (.bool b) ∧ K b w' := by
 have hmf : ∀ (fn : Fn) (first cap : Array Value) (w : World), (Instr.makeFunc fn first cap).run Try.prog w = .ok (.func fn first cap) w := fun _ _ _ _ => rfl
 go_enter_defers Try.func42, Try.ntmps42
 go_wp2
 refine hf.mono ?_
 rintro e w1 ⟨hc, hz, ⟨v, rfl, hK⟩ | ⟨u, pv, rfl, hK⟩⟩
 ·go_wp2
  refine leaves_cons (f := 67) (args := #[.pointer (some ⟨w.heap.size, 0, none⟩)]) (by simp) (by simp [go_sem]) ?_
  refine (Try.catch_idle ⟨w.heap.size, 0, none⟩ false _ ?_ ?_).mono ?_
  ·simp [go_sem, hc]
  ·simp [go_sem, hz]
  rintro e u' w'' ⟨rfl, rfl, rfl⟩
  simp [Leaves, settle, results, Try.results42, go_sem, hc]
  exact hK
 ·go_wp2
  refine leaves_cons (f := 67) (args := #[.pointer (some ⟨w.heap.size, 0, none⟩)]) (by simp) (by simp [go_sem]) ?_
  refine (Try.catch_panicking ⟨w.heap.size, 0, none⟩ false u pv [] _ hc hz).mono ?_
  rintro e u' w'' ⟨rfl, rfl, rfl⟩
  simp [Leaves, settle, results, Try.results42, go_sem, hc]
  exact hK
theorem f42_any (g : Nat) (caps : Array Value) (eg : ∀ args w, (callFunc g args).run Try.prog w = .ok (.enter g args) w) (w w0 : World) (D : Nat → Prop) (H : Bw.SH) (hw : Bw.HF w0 D H w) (J : Bool → Bw.SH → Prop)
  (hf : ∀ b w1, w0.heap.size ≤ b → Bw.HF w0 D (⟨b, true, .row [.bool false] 4 (0, 0)⟩ :: H) w1 → Calls Try.prog g caps w1 fun e w2 => ∃ H2, Bw.HF w0 D (⟨b, true, .row [.bool false] 4 (0, 0)⟩ :: H2) w2 ∧
   ((∃ v, e = .returned v ∧ J false H2) ∨ (∃ u pv, e = .panicked [{ v := .iface u pv, recovered := false }] ∧ J true H2))) :
  Calls Try.prog 42 #[.func (.func g) #[] caps] w fun e w' => ∃ t H2, e = .returned (.bool t) ∧ J t H2 ∧ Bw.HF w0 D H2 w' := by
 refine (Try.thrown_any g caps eg w (fun t w' => ∃ H2, J t H2 ∧ Bw.HF w0 D H2 w') ?_).mono fun e w' ⟨t, h1, H2, h2, h3⟩ => ⟨t, H2, h1, h2, h3⟩
 refine (hf w.heap.size _ hw.size (hw.push (.row [.bool false] 4 (0, 0)))).mono fun e w2 ⟨H2, h1, h2⟩ => ?_
 have hc := Bw.cell_row h1 (b := w.heap.size) (off := 0) (.head _) rfl
 have hz := Bw.frozen_row h1 (b := w.heap.size) (off := 0) (.head _)
 refine ⟨hc, by simpa using hz, ?_⟩
 rcases h2 with ⟨v, rfl, h2⟩ | ⟨u, pv, rfl, h2⟩
 ·exact .inl ⟨v, rfl, H2, h2, ((h1.setCell .z (.bool false)).setCell .z (.bool false)).sub (List.sublist_cons_self _ _)⟩
 ·exact .inr ⟨u, pv, rfl, H2, h2, (h1.setCell .z (.bool true)).sub (List.sublist_cons_self _ _)⟩
end Go.Proofs

/- A tree made, a route added. Printed by wip/mk_gu17.py. -/
set_option maxRecDepth 20000
namespace Go.Proofs
open Go Bw
open Gt
def treeR (nb : Nat) (m s : Nat) : List Value := [Pt nb 0, .int .u16 (m : Int), .int .u16 (s : Int)]
theorem full92 (nb : Nat) (w : World) : (Instr.build 92 #[(0, Pt nb 0)]).run Try.prog w = .ok (.agg (treeR nb 0 0).toArray) w := by
 simp [Instr.build, Try.zeroValue92, Try.runUnderlying92, Try.sizeOf89, Try.sizeOf90, cells_agg, Instr.fill, cells_ptr, treeR]
theorem _root_.Bw.V.maxU {P : Program} {c : Cx} {n : Nat} {fr : SF} {H : SH} {ty t u : TypeId} {x y : Operand} {i j : Nat} (hx : ev fr x = some (.int .u16 (i : Int))) (hy : ev fr y = some (.int .u16 (j : Int))) : Val P c n (.call ⟨.builtin .max, #[x, y], #[t, u]⟩) ty fr H (.int .u16 ((max i j : Nat) : Int)) := V.maxI hx hy
theorem f63_any (w : World)  : Calls Try.prog 63 #[] w fun e w' => ∃ nb tb, e = .returned (Pt tb 0) ∧ HF w (fun _ => False) [⟨tb, true, .row (treeR nb 0 0) 92 (0, 0)⟩, ⟨nb, true, .row (nodeR [] [] false 0 0 (.slice none 0 0) (.slice none 0 0) [47]) 107 (0, 0)⟩] w' := by
 refine enter (fun _ => False) [] Try.func63 rfl Try.ntmps63 rfl rfl (HF.start w _) fun c hc => ?_
 subst hc
 refine GC.seq ?_
 refine GC.reg ?_
 refine G.m2 ?_
 refine G.nil ?_
 refine GC.seq ?_
 refine GC.reg ?_
 refine G.v (V.bd (vs := [(7, S [47])]) rfl (fun w1 => bd_new _ w1)) rfl ?_
 refine G.bx (l := nodeR [] [] false 0 0 (.slice none 0 0) (.slice none 0 0) [47]) rfl (by simp [cells_agg, nodeR]) rfl (fun nb hnb => ?_)
 refine G.v (V.bd (vs := [(0, Pt nb 0)]) rfl (fun w1 => full92 nb w1)) rfl ?_
 refine G.bx (l := treeR nb 0 0) rfl (by simp [cells_agg, treeR]) rfl (fun tb htb => ?_)
 refine G.m2 ?_
 refine G.nil ?_
 exact GC.ret1 rfl rfl fun w' hw' => ⟨nb, tb, rfl, hw'⟩
theorem f65_any (w : World) (D : Nat → Prop) {tb nb m s num : Nat} {Hn : SH} {r : List Tok} {t : T0} {f : F} {res : Option T0} (hr : Gt.Good r) (hl : (txt r).length ≤ 20000) (h92 : ∀ c ∈ txt r, c ≠ 92) (hts : TS t f) (hbd : Bd f) (hres : addT t (txt r) num = some res) (ht : HT t nb Hn) (hH : HF w D (⟨tb, true, .row (treeR nb m s) 92 (0, 0)⟩ :: Hn) w) : Calls Try.prog 65 #[Pt tb 0, S (txt r), I (num : Int)] w fun e w' => (∃ t' Hn', res = some t' ∧ e = .returned (.tuple #[]) ∧ HT t' nb Hn' ∧ HF w D (⟨tb, true, .row (treeR nb (max m ((txt r).count 58 + (txt r).count 42)) (max s ((txt r).count 47))) 92 (0, 0)⟩ :: Hn') w') ∨ (res = none ∧ onePanic e ∧ HF w D [] w') := by
 refine enter D (⟨tb, true, .row (treeR nb m s) 92 (0, 0)⟩ :: Hn) Try.func65 rfl Try.ntmps65 rfl rfl hH fun c hc => ?_
 subst hc
 have h47 : (txt r)[0]? = some 47 := by
  obtain ⟨_, q, rfl⟩ := hr
  rfl
 generalize hp : txt r = p at *
 refine GC.seq ?_
 refine GC.seq ?_
 refine GC.reg ?_
 refine G.m1 ?_
 refine G.v (V.idx (i := 0) (b := 47) Try.underlying9 rfl rfl h47) rfl ?_
 refine G.v (V.neI rfl rfl) rfl ?_
 refine G.nil ?_
 refine GC.cond rfl (fun h8 => absurd h8 (by decide)) (fun h8 => ?_)
 refine GC.skip ?_
 refine GC.seq ?_
 refine GC.reg ?_
 refine G.m1 ?_
 refine G.v (V.nc rfl) rfl ?_
 refine G.v (V.fa F92_0 rfl) rfl ?_
 refine G.v (V.ld (b := tb) (off := 0 + 0) (wf := true) (l := treeR nb m s) (T := 92) (fz := (0, 0)) (v := Pt nb 0) Try.isAgg89 rfl (.head _) rfl) rfl ?_
 refine G.m1 ?_
 refine G.m1 ?_
 refine G.bs (BS.one Try.underlying94 Try.sizeOf3 Try.zeroValue3 (v := I (num : Int)) rfl) rfl rfl (fun hb hhb => ?_)
 refine G.callE (H1 := Hn ++ [⟨hb, true, .row [I (num : Int)] 3 (0, 0)⟩]) (Hk := [⟨tb, true, .row (treeR nb m s) 92 (0, 0)⟩]) (fun v H1' => v = .tuple #[] ∧ ∃ t', res = some t' ∧ HT t' nb H1') (fun H1' => res = none) ?_ (fun e0 he0 => ?_) Try.call72 rfl rfl (fun w1 hw1 => ?_) ?_ (fun H1' e w' h1 h2 h3 => .inr ⟨h1, h2, h3.sub (List.nil_sublist _)⟩)
 ·have p1 := perm_idx [[⟨hb, true, .row [I (num : Int)] 3 (0, 0)⟩], [⟨tb, true, .row (treeR nb m s) 92 (0, 0)⟩], Hn] [0, 1, 2] [2, 0, 1] (by decide)
  simpa using p1
 ·rcases List.mem_append.1 he0 with he0 | he0
  ·exact ht.w e0 he0
  ·rw [List.mem_singleton.1 he0]
 ·subst hp
  refine (f72_any w1 _ hr (by omega) h92 hts hbd hres ht hw1).mono fun e w' h => ?_
  rcases h with ⟨t', Hn', h1, h2, h3, h4⟩ | ⟨h1, h2, h3⟩
  ·rw [List.append_nil Hn'] at h4
   exact ⟨Hn', h3.w, h4, .inl ⟨_, h2, rfl, t', h1, h3⟩⟩
  ·exact ⟨[], by simp, h3, .inr ⟨h2, h1⟩⟩
 rintro v Hn2 ⟨rfl, t', ht1, ht2⟩
 refine G.turn (H' := ⟨tb, true, .row (treeR nb m s) 92 (0, 0)⟩ :: Hn2) (fun w1 h1 => h1.perm List.perm_append_comm) ?_
 refine G.nil ?_
 refine GC.seq ?_
 refine GC.join (fun fr' H' => Sub [(0, Pt tb 0), (1, S p)] fr' ∧ ⟨tb, true, .row (treeR nb (max m (p.count 58 + p.count 42)) s) 92 (0, 0)⟩ :: Hn2 = H') (fun J3 => ?_) ?_
 ·refine GC.regA (fun _ => True) mixed ?_
  refine GA.p 0 rfl (by kernel_rfl) (fun _ _ => trivial) (fun _ => V.mv rfl) rfl ?_
  refine GA.p 1 rfl (by kernel_rfl) (fun _ _ => trivial) (fun _ => V.mv rfl) rfl ?_
  refine GA.p 2 rfl (by kernel_rfl) (fun _ _ => trivial) (fun _ => V.nc rfl) rfl ?_
  refine GA.p 3 rfl (by kernel_rfl) (fun _ _ => trivial) (fun _ => V.fa F92_1 rfl) rfl ?_
  refine GA.p 5 rfl (by kernel_rfl) (fun _ _ => trivial) (fun _ => V.mv rfl) rfl ?_
  refine GA.two 4 6 rfl rfl (by kernel_rfl) ?_ ?_
  ·refine GB.v (V.ld (b := tb) (off := 0 + 1) (wf := true) (l := treeR nb m s) (T := 92) (fz := (0, 0)) (v := .int .u16 ((m : Nat) : Int)) Try.isAgg90 rfl (.head _) rfl) (fun _ _ => trivial) rfl ?_
   refine GA.one 6 rfl (by kernel_rfl) ?_
   refine GB.callW (xs := [.tmp 23]) (vs := [S p]) (fun v H2 => v = .int .u16 ((p.count 58 + p.count 42 : Nat) : Int) ∧ H2 = ⟨tb, true, .row (treeR nb m s) 92 (0, 0)⟩ :: Hn2) Try.call73 rfl rfl (fun _ _ _ _ _ => trivial) (fun w1 hw1 => (f73_any w1 p hl).mono fun e w' ⟨h1, h2⟩ => ⟨_, _, h1, hw1.after0 h2 (fun e he => by cases he), rfl, rfl⟩) ?_
   rintro v H2 ⟨rfl, rfl⟩
   refine GA.p 7 rfl (by kernel_rfl) (fun _ _ => trivial) (fun _ => V.maxU rfl rfl) rfl ?_
   refine GA.p 8 rfl (by kernel_rfl) (fun _ _ => trivial) (fun _ => V.nc rfl) rfl ?_
   refine GA.p 9 rfl (by kernel_rfl) (fun _ _ => trivial) (fun _ => V.fa F92_1 rfl) rfl ?_
   refine GA.one 10 rfl (by kernel_rfl) ?_
   refine GB.st (b := tb) (off := 0 + 1) (l := treeR nb m s) (T := 92) (fz := (0, 0)) Try.sizeOf90 rfl rfl rfl (.z) rfl rfl (fun _ _ => trivial) ?_
   refine GA.done (by kernel_rfl) ?_
   exact J3 _ _ ⟨.of rfl, rfl⟩
  ·refine GB.callW (xs := [.tmp 23]) (vs := [S p]) (fun v H2 => v = .int .u16 ((p.count 58 + p.count 42 : Nat) : Int) ∧ H2 = ⟨tb, true, .row (treeR nb m s) 92 (0, 0)⟩ :: Hn2) Try.call73 rfl rfl (fun _ _ _ _ _ => trivial) (fun w1 hw1 => (f73_any w1 p hl).mono fun e w' ⟨h1, h2⟩ => ⟨_, _, h1, hw1.after0 h2 (fun e he => by cases he), rfl, rfl⟩) ?_
   rintro v H2 ⟨rfl, rfl⟩
   refine GA.one 4 rfl (by kernel_rfl) ?_
   refine GB.v (V.ld (b := tb) (off := 0 + 1) (wf := true) (l := treeR nb m s) (T := 92) (fz := (0, 0)) (v := .int .u16 ((m : Nat) : Int)) Try.isAgg90 rfl (.head _) rfl) (fun _ _ => trivial) rfl ?_
   refine GA.p 7 rfl (by kernel_rfl) (fun _ _ => trivial) (fun _ => V.maxU rfl rfl) rfl ?_
   refine GA.p 8 rfl (by kernel_rfl) (fun _ _ => trivial) (fun _ => V.nc rfl) rfl ?_
   refine GA.p 9 rfl (by kernel_rfl) (fun _ _ => trivial) (fun _ => V.fa F92_1 rfl) rfl ?_
   refine GA.one 10 rfl (by kernel_rfl) ?_
   refine GB.st (b := tb) (off := 0 + 1) (l := treeR nb m s) (T := 92) (fz := (0, 0)) Try.sizeOf90 rfl rfl rfl (.z) rfl rfl (fun _ _ => trivial) ?_
   refine GA.done (by kernel_rfl) ?_
   exact J3 _ _ ⟨.of rfl, rfl⟩
 rintro fr' H' ⟨hsj, rfl⟩
 refine GC.weak hsj ?_
 clear hsj
 refine GC.join (fun fr' H' => Sub [(0, Pt tb 0), (1, S p)] fr' ∧ ⟨tb, true, .row (treeR nb (max m (p.count 58 + p.count 42)) (max s (p.count 47))) 92 (0, 0)⟩ :: Hn2 = H') (fun J4 => ?_) ?_
 ·refine GC.regA (fun _ => True) mixed ?_
  refine GA.p 0 rfl (by kernel_rfl) (fun _ _ => trivial) (fun _ => V.mv rfl) rfl ?_
  refine GA.p 1 rfl (by kernel_rfl) (fun _ _ => trivial) (fun _ => V.mv rfl) rfl ?_
  refine GA.p 2 rfl (by kernel_rfl) (fun _ _ => trivial) (fun _ => V.nc rfl) rfl ?_
  refine GA.p 3 rfl (by kernel_rfl) (fun _ _ => trivial) (fun _ => V.fa F92_2 rfl) rfl ?_
  refine GA.p 5 rfl (by kernel_rfl) (fun _ _ => trivial) (fun _ => V.mv rfl) rfl ?_
  refine GA.two 4 6 rfl rfl (by kernel_rfl) ?_ ?_
  ·refine GB.v (V.ld (b := tb) (off := 0 + 2) (wf := true) (l := treeR nb (max m (p.count 58 + p.count 42)) s) (T := 92) (fz := (0, 0)) (v := .int .u16 ((s : Nat) : Int)) Try.isAgg90 rfl (.head _) rfl) (fun _ _ => trivial) rfl ?_
   refine GA.one 6 rfl (by kernel_rfl) ?_
   refine GB.callW (xs := [.tmp 33]) (vs := [S p]) (fun v H2 => v = .int .u16 ((p.count 47 : Nat) : Int) ∧ H2 = ⟨tb, true, .row (treeR nb (max m (p.count 58 + p.count 42)) s) 92 (0, 0)⟩ :: Hn2) Try.call74 rfl rfl (fun _ _ _ _ _ => trivial) (fun w1 hw1 => (f74_any w1 p hl).mono fun e w' ⟨h1, h2⟩ => ⟨_, _, h1, hw1.after0 h2 (fun e he => by cases he), rfl, rfl⟩) ?_
   rintro v H2 ⟨rfl, rfl⟩
   refine GA.p 7 rfl (by kernel_rfl) (fun _ _ => trivial) (fun _ => V.maxU rfl rfl) rfl ?_
   refine GA.p 8 rfl (by kernel_rfl) (fun _ _ => trivial) (fun _ => V.nc rfl) rfl ?_
   refine GA.p 9 rfl (by kernel_rfl) (fun _ _ => trivial) (fun _ => V.fa F92_2 rfl) rfl ?_
   refine GA.one 10 rfl (by kernel_rfl) ?_
   refine GB.st (b := tb) (off := 0 + 2) (l := treeR nb (max m (p.count 58 + p.count 42)) s) (T := 92) (fz := (0, 0)) Try.sizeOf90 rfl rfl rfl (.z) rfl rfl (fun _ _ => trivial) ?_
   refine GA.done (by kernel_rfl) ?_
   exact J4 _ _ ⟨.of rfl, rfl⟩
  ·refine GB.callW (xs := [.tmp 33]) (vs := [S p]) (fun v H2 => v = .int .u16 ((p.count 47 : Nat) : Int) ∧ H2 = ⟨tb, true, .row (treeR nb (max m (p.count 58 + p.count 42)) s) 92 (0, 0)⟩ :: Hn2) Try.call74 rfl rfl (fun _ _ _ _ _ => trivial) (fun w1 hw1 => (f74_any w1 p hl).mono fun e w' ⟨h1, h2⟩ => ⟨_, _, h1, hw1.after0 h2 (fun e he => by cases he), rfl, rfl⟩) ?_
   rintro v H2 ⟨rfl, rfl⟩
   refine GA.one 4 rfl (by kernel_rfl) ?_
   refine GB.v (V.ld (b := tb) (off := 0 + 2) (wf := true) (l := treeR nb (max m (p.count 58 + p.count 42)) s) (T := 92) (fz := (0, 0)) (v := .int .u16 ((s : Nat) : Int)) Try.isAgg90 rfl (.head _) rfl) (fun _ _ => trivial) rfl ?_
   refine GA.p 7 rfl (by kernel_rfl) (fun _ _ => trivial) (fun _ => V.maxU rfl rfl) rfl ?_
   refine GA.p 8 rfl (by kernel_rfl) (fun _ _ => trivial) (fun _ => V.nc rfl) rfl ?_
   refine GA.p 9 rfl (by kernel_rfl) (fun _ _ => trivial) (fun _ => V.fa F92_2 rfl) rfl ?_
   refine GA.one 10 rfl (by kernel_rfl) ?_
   refine GB.st (b := tb) (off := 0 + 2) (l := treeR nb (max m (p.count 58 + p.count 42)) s) (T := 92) (fz := (0, 0)) Try.sizeOf90 rfl rfl rfl (.z) rfl rfl (fun _ _ => trivial) ?_
   refine GA.done (by kernel_rfl) ?_
   exact J4 _ _ ⟨.of rfl, rfl⟩
 rintro fr' H' ⟨hsj, rfl⟩
 refine GC.weak hsj ?_
 clear hsj
 exact GC.end0 rfl fun w' hw' => .inl ⟨t', Hn2, ht1, rfl, ht2, hw'⟩
end Go.Proofs

/- ginTree, GinAdd. Printed by wip/mk_gu18.py. -/
set_option maxRecDepth 20000
namespace Go.Proofs
open Go Bw
open Gt
theorem f64_any (w : World) (D : Nat → Prop) {ca cb cc : Nat} {tb nb m s i : Nat} {Hn : SH} {r : List Tok} {t : T0} {f : F} {res : Option T0} (hr : Gt.Good r) (hl : (txt r).length ≤ 20000) (h92 : ∀ c ∈ txt r, c ≠ 92) (hts : TS t f) (hbd : Bd f) (hres : addT t (txt r) (i + 1) = some res) (ht : HT t nb Hn) (hi : i ≤ 1000000000) (hH : HF w D (⟨tb, true, .row (treeR nb m s) 92 (0, 0)⟩ :: (Hn ++ [⟨ca, true, .row [Pt tb 0] 63 (0, 0)⟩, ⟨cb, true, .row [S (txt r)] 9 (0, 0)⟩, ⟨cc, true, .row [I (i : Nat)] 3 (0, 0)⟩])) w) : Calls Try.prog 64 #[Pt ca 0, Pt cb 0, Pt cc 0] w fun e w' => (∃ t' Hn', res = some t' ∧ e = .returned (.tuple #[]) ∧ HT t' nb Hn' ∧ HF w D (⟨tb, true, .row (treeR nb (max m ((txt r).count 58 + (txt r).count 42)) (max s ((txt r).count 47))) 92 (0, 0)⟩ :: (Hn' ++ [⟨ca, true, .row [Pt tb 0] 63 (0, 0)⟩, ⟨cb, true, .row [S (txt r)] 9 (0, 0)⟩, ⟨cc, true, .row [I (i : Nat)] 3 (0, 0)⟩])) w') ∨ (res = none ∧ onePanic e ∧ HF w D [⟨ca, true, .row [Pt tb 0] 63 (0, 0)⟩, ⟨cb, true, .row [S (txt r)] 9 (0, 0)⟩, ⟨cc, true, .row [I (i : Nat)] 3 (0, 0)⟩] w') := by
 refine enter D (⟨tb, true, .row (treeR nb m s) 92 (0, 0)⟩ :: (Hn ++ [⟨ca, true, .row [Pt tb 0] 63 (0, 0)⟩, ⟨cb, true, .row [S (txt r)] 9 (0, 0)⟩, ⟨cc, true, .row [I (i : Nat)] 3 (0, 0)⟩])) Try.func64 rfl Try.ntmps64 rfl rfl hH fun c hc => ?_
 subst hc
 refine GC.reg ?_
 refine G.v (V.ld (b := ca) (off := 0) (wf := true) (l := [Pt tb 0]) (T := 63) (fz := (0, 0)) (v := Pt tb 0) Try.isAgg63 rfl (by simp) rfl) rfl ?_
 refine G.v (V.ld (b := cb) (off := 0) (wf := true) (l := [S (txt r)]) (T := 9) (fz := (0, 0)) (v := S (txt r)) Try.isAgg9 rfl (by simp) rfl) rfl ?_
 refine G.v (V.ld (b := cc) (off := 0) (wf := true) (l := [I (i : Nat)]) (T := 3) (fz := (0, 0)) (v := I (i : Nat)) Try.isAgg3 rfl (by simp) rfl) rfl ?_
 refine G.v (V.addI (r := ((i + 1 : Nat) : Int)) rfl rfl rfl (by omega) (by omega)) rfl ?_
 refine G.callE (H1 := ⟨tb, true, .row (treeR nb m s) 92 (0, 0)⟩ :: Hn) (Hk := [⟨ca, true, .row [Pt tb 0] 63 (0, 0)⟩, ⟨cb, true, .row [S (txt r)] 9 (0, 0)⟩, ⟨cc, true, .row [I (i : Nat)] 3 (0, 0)⟩]) (fun v H1' => v = .tuple #[] ∧ ∃ t' Hn', res = some t' ∧ HT t' nb Hn' ∧ H1' = ⟨tb, true, .row (treeR nb (max m ((txt r).count 58 + (txt r).count 42)) (max s ((txt r).count 47))) 92 (0, 0)⟩ :: Hn') (fun H1' => res = none) (.of_eq rfl) (fun e0 he0 => ?_) Try.call65 rfl rfl (fun w1 hw1 => ?_) ?_ (fun H1' e w' h1 h2 h3 => .inr ⟨h1, h2, h3.sub (List.sublist_append_right _ _)⟩)
 ·rcases List.mem_cons.1 he0 with rfl | he0
  ·rfl
  ·exact ht.w e0 he0
 ·refine (f65_any w1 _ hr hl h92 hts hbd hres ht hw1).mono fun e w' h => ?_
  rcases h with ⟨t', Hn', h1, h2, h3, h4⟩ | ⟨h1, h2, h3⟩
  ·refine ⟨_, fun e0 he0 => ?_, h4, .inl ⟨_, h2, rfl, t', Hn', h1, h3, rfl⟩⟩
   rcases List.mem_cons.1 he0 with rfl | he0
   ·rfl
   ·exact h3.w e0 he0
  ·exact ⟨[], by simp, h3, .inr ⟨h2, h1⟩⟩
 rintro v H1' ⟨rfl, t', Hn', ht1, ht2, rfl⟩
 refine G.nil ?_
 exact GC.end0 rfl fun w' hw' => .inl ⟨t', Hn', ht1, rfl, ht2, hw'⟩
theorem HT_new (nb : Nat) : HT new nb [⟨nb, true, .row (nodeR [] [] false 0 0 (.slice none 0 0) (.slice none 0 0) [47]) 107 (0, 0)⟩] := HT.mk (path := []) (idx := []) (wild := false) (nt := 0) (pr := 0) (h := none) (full := [47]) (kids := []) (bs := []) Own.nil HV.nil HTs.nil
/-- the greatest count -/
def mxP (l : List (List Tok)) : Nat := l.foldl (fun m r => max m ((txt r).count 58 + (txt r).count 42)) 0
def mxS (l : List (List Tok)) : Nat := l.foldl (fun m r => max m ((txt r).count 47)) 0
theorem take_snoc {α : Type} {l : List α} {k : Nat} {x : α} (h : l[k]? = some x) : l.take (k + 1) = l.take k ++ [x] := by
 rw [List.take_add_one, h]; rfl
theorem mxP_snoc {l : List (List Tok)} {k : Nat} {r : List Tok} (h : l[k]? = some r) : mxP (l.take (k + 1)) = max (mxP (l.take k)) ((txt r).count 58 + (txt r).count 42) := by
 rw [take_snoc h]; simp [mxP]
theorem mxS_snoc {l : List (List Tok)} {k : Nat} {r : List Tok} (h : l[k]? = some r) : mxS (l.take (k + 1)) = max (mxS (l.take k)) ((txt r).count 47) := by
 rw [take_snoc h]; simp [mxS]
theorem Bd.upd {f : F} (h : Bd f) {r : List Tok} (hl : (txt r).length ≤ 100000) (v) : Bd (Gt.upd f r v) := fun s u hs => by
 rcases upd_some hs with rfl | hs
 ·exact hl
 ·exact h s u hs
/-- a slice of texts that lies in memory -/
def Txts (w : World) (sv : Value) (l : List (List UInt8)) : Prop := ∃ ad cp, sv = .slice ad l.length cp ∧ ∀ (j : Nat) p, l[j]? = some p → ∃ b o, ad = some ⟨b, o, none⟩ ∧ w.cell? ⟨b, o + j, none⟩ = some (S p)
theorem f40_any (w : World) (rs : List (List Tok)) (sv : Value) (hg : ∀ r ∈ rs, Gt.Good r) (hl : ∀ r ∈ rs, (txt r).length ≤ 20000) (h92 : ∀ r ∈ rs, ∀ c ∈ txt r, c ≠ 92) (hn : rs.length ≤ 1000000) (hsv : Txts w sv (rs.map txt)) : Calls Try.prog 40 #[sv] w fun e w' => (∃ t tb nb Hn, addAll new (rs.map txt) 0 = .inl t ∧ e = .returned (.tuple #[Pt tb 0, I (-1)]) ∧ HT t nb Hn ∧ HF w (fun _ => False) (⟨tb, true, .row (treeR nb (mxP rs) (mxS rs)) 92 (0, 0)⟩ :: Hn) w') ∨ (∃ j tb, addAll new (rs.map txt) 0 = .inr j ∧ e = .returned (.tuple #[Pt tb 0, I (j : Nat)]) ∧ HF w (fun _ => False) [] w') := by
 refine enter (fun _ => False) [] Try.func40 rfl Try.ntmps40 rfl rfl (HF.start w _) fun c hc => ?_
 subst hc
 obtain ⟨ad, cp, rfl, hcell⟩ := hsv
 rw [List.length_map]
 refine GC.seq ?_
 refine GC.reg ?_
 refine G.m2 ?_
 refine G.m2 ?_
 refine G.nil ?_
 refine GC.seq ?_
 refine GC.reg ?_
 refine G.callW (fun v H2 => ∃ nb tb, v = Pt tb 0 ∧ H2 = [⟨tb, true, .row (treeR nb 0 0) 92 (0, 0)⟩, ⟨nb, true, .row (nodeR [] [] false 0 0 (.slice none 0 0) (.slice none 0 0) [47]) 107 (0, 0)⟩]) Try.call63 rfl rfl (fun w1 hw1 => (f63_any w1).mono fun e w' ⟨nb, tb, h1, h2⟩ => ⟨_, _, h1, hw1.after0 h2 (fun e0 he0 => by simp only [List.mem_cons, List.not_mem_nil, or_false] at he0; rcases he0 with rfl | rfl <;> rfl), nb, tb, rfl, rfl⟩) ?_
 rintro v H2 ⟨nb, tb, rfl, rfl⟩
 refine G.al Try.zeroValue63 rfl rfl (fun ca hca => ?_)
 refine G.st Try.sizeOf63 rfl rfl rfl .z rfl rfl ?_
 refine G.nil ?_
 refine GC.seq ?_
 refine GC.seq ?_
 refine GC.turn (H' := [⟨ca, true, .row [Pt tb 0] 63 (0, 0)⟩, ⟨tb, true, .row (treeR nb 0 0) 92 (0, 0)⟩, ⟨nb, true, .row (nodeR [] [] false 0 0 (.slice none 0 0) (.slice none 0 0) [47]) 107 (0, 0)⟩]) (fun w1 hw1 => hw1) ?_
 refine GC.reg ?_
 refine G.m1 ?_
 refine G.v (V.lenL Try.underlying26 rfl) rfl ?_
 refine G.m1 ?_
 refine G.nil ?_
 refine GC.block ?_
 refine GC.loopJ (fun N fr' H' => ∃ k t f Hn, k + N = rs.length ∧ addAll new (rs.map txt) 0 = addAll t ((rs.drop k).map txt) k ∧ TS t f ∧ Bd f ∧ HT t nb Hn ∧ Sub [(8, .slice ad rs.length cp), (4, Pt ca 0), (9, I (rs.length : Nat)), (10, I (k : Nat))] fr' ∧ H' = ⟨ca, true, .row [Pt tb 0] 63 (0, 0)⟩ :: ⟨tb, true, .row (treeR nb (mxP (rs.take k)) (mxS (rs.take k))) 92 (0, 0)⟩ :: Hn) rs.length
  ⟨0, new, fun _ => none, [⟨nb, true, .row (nodeR [] [] false 0 0 (.slice none 0 0) (.slice none 0 0) [47]) 107 (0, 0)⟩], by omega, rfl, .inl ⟨rfl, rfl⟩, fun s v h => (by cases h), HT_new nb, .of rfl, rfl⟩ ?_
 rintro N fr' H' ⟨k, t, f, Hn, hk, hadd, hts, hbd, ht, hs, rfl⟩ ih
 refine GC.weak hs ?_
 clear hs
 refine GC.seq ?_
 refine GC.reg ?_
 refine G.v (V.lt rfl rfl) rfl ?_
 refine G.nil ?_
 refine GC.seq ?_
 refine GC.condD rfl (fun h11 => ?_) (fun h11 => ?_)
 ·refine GC.skip ?_
  refine GC.seq ?_
  refine GC.block ?_
  refine GC.seq ?_
  have hkl : k < rs.length := by omega
  obtain ⟨r, hrk⟩ : ∃ r, rs[k]? = some r := ⟨_, List.getElem?_eq_getElem hkl⟩
  have hrm := List.mem_of_getElem? hrk
  obtain ⟨lb, lo, rfl, hcr⟩ := hcell k (txt r) (by rw [List.getElem?_map, hrk]; rfl)
  obtain ⟨res, hres⟩ : ∃ res, addT t (txt r) (k + 1) = some res := by
   by_cases ha : Ap f r
   ·obtain ⟨t', h1, _⟩ := (add_ok hts (hg r hrm) (k + 1)).1 ha; exact ⟨_, h1⟩
   ·exact ⟨_, (add_ok hts (hg r hrm) (k + 1)).2 ha⟩
  have hdrop : (rs.drop k).map txt = txt r :: (rs.drop (k + 1)).map txt := by rw [List.drop_eq_getElem_cons hkl, (List.getElem?_eq_some_iff.1 hrk).2]; rfl
  refine GC.reg ?_
  refine G.m1 ?_
  refine G.v (V.ia (i := k) Try.underlying26 Try.sizeOf9 rfl rfl hkl) rfl ?_
  rw [Nat.mul_one]
  refine G.v (V.ldC (v := S (txt r)) Try.isAgg9 rfl hcr id) rfl ?_
  refine G.al Try.zeroValue3 rfl rfl (fun cc hcc => ?_)
  refine G.al Try.zeroValue9 rfl rfl (fun cb hcb => ?_)
  refine G.st Try.sizeOf3 rfl rfl rfl (.s .z) rfl rfl ?_
  refine G.st Try.sizeOf9 rfl rfl rfl .z rfl rfl ?_
  refine G.nil ?_
  refine GC.seq ?_
  refine GC.turn (H' := ⟨tb, true, .row (treeR nb (mxP (rs.take k)) (mxS (rs.take k))) 92 (0, 0)⟩ :: (Hn ++ [⟨ca, true, .row [Pt tb 0] 63 (0, 0)⟩, ⟨cb, true, .row [S (txt r)] 9 (0, 0)⟩, ⟨cc, true, .row [I (k : Nat)] 3 (0, 0)⟩])) (fun w1 hw1 => ?_) ?_
  ·have h1 : HF w (fun _ => False) (⟨cb, true, .row [S (txt r)] 9 (0, 0)⟩ :: ⟨cc, true, .row [I (k : Nat)] 3 (0, 0)⟩ :: ⟨ca, true, .row [Pt tb 0] 63 (0, 0)⟩ :: ⟨tb, true, .row (treeR nb (mxP (rs.take k)) (mxS (rs.take k))) 92 (0, 0)⟩ :: Hn) w1 := hw1
   have p1 := perm_idx [[⟨cb, true, .row [S (txt r)] 9 (0, 0)⟩], [⟨cc, true, .row [I (k : Nat)] 3 (0, 0)⟩], [⟨ca, true, .row [Pt tb 0] 63 (0, 0)⟩], [⟨tb, true, .row (treeR nb (mxP (rs.take k)) (mxS (rs.take k))) 92 (0, 0)⟩], Hn] [0, 1, 2, 3, 4] [3, 4, 2, 0, 1] (by decide)
   exact h1.perm (by simpa using p1)
  refine GC.reg ?_
  refine G.v (V.mkF (vs := [Pt ca 0, Pt cb 0, Pt cc 0]) rfl) rfl ?_
  refine G.callW (fun v H2 => ∃ t1, v = .bool t1 ∧ ((t1 = false ∧ ∃ t' Hn', res = some t' ∧ HT t' nb Hn' ∧ H2 = ⟨tb, true, .row (treeR nb (max (mxP (rs.take k)) ((txt r).count 58 + (txt r).count 42)) (max (mxS (rs.take k)) ((txt r).count 47))) 92 (0, 0)⟩ :: (Hn' ++ [⟨ca, true, .row [Pt tb 0] 63 (0, 0)⟩, ⟨cb, true, .row [S (txt r)] 9 (0, 0)⟩, ⟨cc, true, .row [I (k : Nat)] 3 (0, 0)⟩])) ∨ (t1 = true ∧ res = none ∧ H2 = [⟨ca, true, .row [Pt tb 0] 63 (0, 0)⟩, ⟨cb, true, .row [S (txt r)] 9 (0, 0)⟩, ⟨cc, true, .row [I (k : Nat)] 3 (0, 0)⟩]))) Try.call42 rfl rfl (fun w1 hw1 => ?_) ?_
  ·refine (f42_any 64 #[Pt ca 0, Pt cb 0, Pt cc 0] Try.call64 w1 w (fun _ => False) _ hw1 (fun t1 H2 => ((t1 = false ∧ ∃ t' Hn', res = some t' ∧ HT t' nb Hn' ∧ H2 = ⟨tb, true, .row (treeR nb (max (mxP (rs.take k)) ((txt r).count 58 + (txt r).count 42)) (max (mxS (rs.take k)) ((txt r).count 47))) 92 (0, 0)⟩ :: (Hn' ++ [⟨ca, true, .row [Pt tb 0] 63 (0, 0)⟩, ⟨cb, true, .row [S (txt r)] 9 (0, 0)⟩, ⟨cc, true, .row [I (k : Nat)] 3 (0, 0)⟩])) ∨ (t1 = true ∧ res = none ∧ H2 = [⟨ca, true, .row [Pt tb 0] 63 (0, 0)⟩, ⟨cb, true, .row [S (txt r)] 9 (0, 0)⟩, ⟨cc, true, .row [I (k : Nat)] 3 (0, 0)⟩]))) (fun b w2 hb0 hw2 => ?_)).mono fun e w' ⟨t1, H2, h1, h2, h3⟩ => ⟨_, _, h1, h3, t1, rfl, h2⟩
   have hp2 : List.Perm ((⟨b, true, .row [.bool false] 4 (0, 0)⟩ :: (⟨tb, true, .row (treeR nb (mxP (rs.take k)) (mxS (rs.take k))) 92 (0, 0)⟩ :: (Hn ++ [⟨ca, true, .row [Pt tb 0] 63 (0, 0)⟩, ⟨cb, true, .row [S (txt r)] 9 (0, 0)⟩, ⟨cc, true, .row [I (k : Nat)] 3 (0, 0)⟩])) : SH)) ((⟨tb, true, .row (treeR nb (mxP (rs.take k)) (mxS (rs.take k))) 92 (0, 0)⟩ :: (Hn ++ [⟨ca, true, .row [Pt tb 0] 63 (0, 0)⟩, ⟨cb, true, .row [S (txt r)] 9 (0, 0)⟩, ⟨cc, true, .row [I (k : Nat)] 3 (0, 0)⟩])) ++ [⟨b, true, .row [.bool false] 4 (0, 0)⟩]) := List.perm_append_comm (l₁ := ([⟨b, true, .row [.bool false] 4 (0, 0)⟩] : SH))
   have hh := hw2.perm hp2
   have hnd := List.pairwise_append.1 hh.nd
   have hww : ∀ e0 ∈ (⟨tb, true, .row (treeR nb (mxP (rs.take k)) (mxS (rs.take k))) 92 (0, 0)⟩ :: (Hn ++ [⟨ca, true, .row [Pt tb 0] 63 (0, 0)⟩, ⟨cb, true, .row [S (txt r)] 9 (0, 0)⟩, ⟨cc, true, .row [I (k : Nat)] 3 (0, 0)⟩]) : SH), e0.w = true := fun e0 he0 => by
    rcases List.mem_cons.1 he0 with rfl | he0
    ·rfl
    ·rcases List.mem_append.1 he0 with he0 | he0
     ·exact ht.w e0 he0
     ·simp only [List.mem_cons, List.not_mem_nil, or_false] at he0; rcases he0 with rfl | rfl | rfl <;> rfl
   refine (f64_any w2 (fun b => ∃ e ∈ (⟨tb, true, .row (treeR nb (mxP (rs.take k)) (mxS (rs.take k))) 92 (0, 0)⟩ :: (Hn ++ [⟨ca, true, .row [Pt tb 0] 63 (0, 0)⟩, ⟨cb, true, .row [S (txt r)] 9 (0, 0)⟩, ⟨cc, true, .row [I (k : Nat)] 3 (0, 0)⟩]) : SH), e.b = b) (hg r hrm) (hl r hrm) (h92 r hrm) hts hbd hres ht (by omega) (hh.loc (fun e he => List.mem_append_left _ he) hnd.1)).mono fun e w' h => ?_
   rcases h with ⟨t', Hn', h1, h2, h3, h4⟩ | ⟨h1, ⟨tt, vv, h2⟩, h3⟩
   ·refine ⟨_, ?_, .inl ⟨_, h2, .inl ⟨rfl, t', Hn', h1, h3, rfl⟩⟩⟩
    have h5 := hw2.back hp2 hww (fun e0 he0 => by
     rcases List.mem_cons.1 he0 with rfl | he0
     ·rfl
     ·rcases List.mem_append.1 he0 with he0 | he0
      ·exact h3.w e0 he0
      ·simp only [List.mem_cons, List.not_mem_nil, or_false] at he0; rcases he0 with rfl | rfl | rfl <;> rfl) h4
    exact h5.perm (List.perm_append_comm (l₂ := ([⟨b, true, .row [.bool false] 4 (0, 0)⟩] : SH)))
   ·refine ⟨_, ?_, .inr ⟨tt, vv, h2, .inr ⟨rfl, h1, rfl⟩⟩⟩
    have h5 := hw2.back hp2 hww (fun e0 he0 => by simp only [List.mem_cons, List.not_mem_nil, or_false] at he0; rcases he0 with rfl | rfl | rfl <;> rfl) h3
    exact h5.perm (List.perm_append_comm (l₂ := ([⟨b, true, .row [.bool false] 4 (0, 0)⟩] : SH)))
  rintro v H2 ⟨t1, rfl, hJ⟩
  refine G.nil ?_
  refine GC.cond rfl (fun h16 => ?_) (fun h16 => ?_)
  ·refine GC.seq ?_
   obtain ⟨_, hres0, rfl⟩ : t1 = true ∧ res = none ∧ H2 = [⟨ca, true, .row [Pt tb 0] 63 (0, 0)⟩, ⟨cb, true, .row [S (txt r)] 9 (0, 0)⟩, ⟨cc, true, .row [I (k : Nat)] 3 (0, 0)⟩] := by
    rcases hJ with ⟨h, _⟩ | h
    ·rw [h16] at h; cases h
    ·exact h
   refine GC.regQ mixed (by kernel_rfl) ?_
   refine GQ.v (V.ld (b := ca) (off := 0) (wf := true) (l := [Pt tb 0]) (T := 63) (fz := (0, 0)) (v := Pt tb 0) Try.isAgg63 rfl (by simp) rfl) rfl ?_
   refine GQ.v (V.ld (b := cc) (off := 0) (wf := true) (l := [I (k : Nat)]) (T := 3) (fz := (0, 0)) (v := I (k : Nat)) Try.isAgg3 rfl (by simp) rfl) rfl ?_
   refine GQ.v (V.asg rfl) rfl ?_
   refine GQ.v (V.asg rfl) rfl ?_
   refine GQ.nil ?_
   refine GC.ret2 rfl rfl rfl fun w' hw' => .inr ⟨k, tb, ?_, rfl, hw'.sub (List.nil_sublist _)⟩
   rw [hadd, hdrop]
   simp only [addAll, hres, hres0]
  refine GC.skip ?_
  refine GC.inBlock ?_
  obtain ⟨_, t', Hn', hres1, ht', rfl⟩ : t1 = false ∧ ∃ t' Hn', res = some t' ∧ HT t' nb Hn' ∧ H2 = ⟨tb, true, .row (treeR nb (max (mxP (rs.take k)) ((txt r).count 58 + (txt r).count 42)) (max (mxS (rs.take k)) ((txt r).count 47))) 92 (0, 0)⟩ :: (Hn' ++ [⟨ca, true, .row [Pt tb 0] 63 (0, 0)⟩, ⟨cb, true, .row [S (txt r)] 9 (0, 0)⟩, ⟨cc, true, .row [I (k : Nat)] 3 (0, 0)⟩]) := by
   rcases hJ with h | ⟨h, _⟩
   ·exact h
   ·rw [h16] at h; cases h
  refine GC.reg ?_
  refine G.v (V.addI (r := ((k + 1 : Nat) : Int)) rfl rfl rfl (by omega) (by omega)) rfl ?_
  refine G.m1 ?_
  refine G.nil ?_
  have hap : Ap f r := Classical.byContradiction fun h => by
   have := (add_ok hts (hg r hrm) (k + 1)).2 h
   rw [hres, hres1] at this; cases this
  obtain ⟨t2, h5, h6⟩ := (add_ok hts (hg r hrm) (k + 1)).1 hap
  rw [hres, hres1] at h5
  cases h5
  refine GC.turn (H' := ⟨ca, true, .row [Pt tb 0] 63 (0, 0)⟩ :: ⟨tb, true, .row (treeR nb (mxP (rs.take (k + 1))) (mxS (rs.take (k + 1)))) 92 (0, 0)⟩ :: Hn') (fun w1 hw1 => ?_) (ih (N - 1) _ _ (by omega) ⟨k + 1, t', _, Hn', by omega, ?_, h6, hbd.upd (by have := hl r hrm; omega) _, ht', .of rfl, rfl⟩)
  ·rw [mxP_snoc hrk, mxS_snoc hrk]
   have p1 := perm_idx [[⟨tb, true, .row (treeR nb (max (mxP (rs.take k)) ((txt r).count 58 + (txt r).count 42)) (max (mxS (rs.take k)) ((txt r).count 47))) 92 (0, 0)⟩], Hn', [⟨ca, true, .row [Pt tb 0] 63 (0, 0)⟩], [⟨cb, true, .row [S (txt r)] 9 (0, 0)⟩], [⟨cc, true, .row [I (k : Nat)] 3 (0, 0)⟩]] [0, 1, 2, 3, 4] [3, 4, 2, 0, 1] (by decide)
   have h7 := hw1.perm (H' := [⟨cb, true, .row [S (txt r)] 9 (0, 0)⟩, ⟨cc, true, .row [I (k : Nat)] 3 (0, 0)⟩] ++ (⟨ca, true, .row [Pt tb 0] 63 (0, 0)⟩ :: ⟨tb, true, .row (treeR nb (max (mxP (rs.take k)) ((txt r).count 58 + (txt r).count 42)) (max (mxS (rs.take k)) ((txt r).count 47))) 92 (0, 0)⟩ :: Hn')) (by simpa using p1)
   exact h7.sub (List.sublist_append_right _ _)
  ·rw [hadd, hdrop]
   simp only [addAll, hres, hres1]
 refine GC.exit rfl ?_
 refine GC.seq ?_
 have hke : k = rs.length := by omega
 subst hke
 rw [List.drop_length] at hadd
 rw [List.take_length]
 refine GC.reg ?_
 refine G.v (V.ld (b := ca) (off := 0) (wf := true) (l := [Pt tb 0]) (T := 63) (fz := (0, 0)) (v := Pt tb 0) Try.isAgg63 rfl (by simp) rfl) rfl ?_
 refine G.m2 ?_
 refine G.m2 ?_
 refine G.nil ?_
 exact GC.ret2 rfl rfl rfl fun w' hw' => .inl ⟨t, tb, nb, Hn, hadd, rfl, ht, hw'.sub (List.sublist_cons_self _ _)⟩
theorem Txts.old {w w1 : World} {sv : Value} {l : List (List UInt8)} {H : SH} (h : Txts w sv l) (hw : HF w (fun _ => False) H w1) : Txts w1 sv l := by
 obtain ⟨ad, cp, rfl, hc⟩ := h
 refine ⟨ad, cp, rfl, fun j p hj => ?_⟩
 obtain ⟨b, o, e, h1⟩ := hc j p hj
 exact ⟨b, o, e, hw.cellOld h1 id⟩
theorem f22_any (w : World) (rs : List (List Tok)) (sv : Value) (hg : ∀ r ∈ rs, Gt.Good r) (hl : ∀ r ∈ rs, (txt r).length ≤ 20000) (h92 : ∀ r ∈ rs, ∀ c ∈ txt r, c ≠ 92) (hn : rs.length ≤ 1000000) (hsv : Txts w sv (rs.map txt)) : Calls Try.prog 22 #[sv] w fun e w' => e = .returned (I (match addAll new (rs.map txt) 0 with | .inl _ => -1 | .inr j => (j : Int))) ∧ HF w (fun _ => False) [] w' := by
 refine enter (fun _ => False) [] Try.func22 rfl Try.ntmps22 rfl rfl (HF.start w _) fun c hc => ?_
 subst hc
 refine GC.seq ?_
 refine GC.reg ?_
 refine G.m2 ?_
 refine G.nil ?_
 refine GC.seq ?_
 refine GC.reg ?_
 refine G.m1 ?_
 refine G.callW (fun v H2 => ∃ tb, v = .tuple #[Pt tb 0, I (match addAll new (rs.map txt) 0 with | .inl _ => -1 | .inr j => (j : Int))] ∧ H2 = []) Try.call40 rfl rfl (fun w1 hw1 => (f40_any w1 rs sv hg hl h92 hn (hsv.old hw1)).mono fun e w' h => ?_) ?_
 ·rcases h with ⟨t, tb, nb, Hn, h1, h2, h3, h4⟩ | ⟨j, tb, h1, h2, h3⟩
  ·rw [h1]; exact ⟨_, _, h2, hw1.after0 (h4.sub (List.nil_sublist _)) (by simp), tb, rfl, rfl⟩
  ·rw [h1]; exact ⟨_, _, h2, hw1.after0 h3 (by simp), tb, rfl, rfl⟩
 rintro v H2 ⟨tb, rfl, rfl⟩
 refine G.m1 ?_
 refine G.v (V.ex rfl rfl) rfl ?_
 refine G.v (V.ex rfl rfl) rfl ?_
 refine G.m2 ?_
 refine G.nil ?_
 refine GC.seq ?_
 refine GC.reg ?_
 refine G.m1 ?_
 refine G.m2 ?_
 refine G.nil ?_
 exact GC.ret1 rfl rfl fun w' hw' => ⟨rfl, hw'⟩
end Go.Proofs

/- More rules: a text put behind no bytes; bytes read as a text. No program in sight. -/
set_option maxRecDepth 20000
namespace Bw
open Go Go.Proofs
variable {P : Program} {c : Cx} {n : Nat} {k : List Item} {fr : SF} {H : SH} {ops : Array Oper} {rest : List Oper} {ty t : TypeId} {pos : String} {aft : Array Edge}
/-- append(nil, s...) -/
theorem G.app0S {T U e : TypeId} {i : TypeInfo} {z : Value} {x y : Operand} {d : Nat} {s : List UInt8} (hT : P.underlying T = some (.slice e)) (hU : P.underlying U = some .string) (hi : P.info? e = some i) (hz : i.zero = some z) (hzs : z.cells.size = 1) (hb1 : i.bytes = 1) (_hs1 : i.size = 1)
  (hx : ev fr x = some (.slice none 0 0)) (hy : ev fr y = some (S s)) (hl : s.length ≤ 1000000000) (hd : Nat.blt d n = true)
  (hk : ∀ sv Hs, Own e 1 sv s.length (bC s) Hs → G P c n k ops rest ((d, sv) :: fr) (H ++ Hs)) :
  G P c n k ops (⟨some d, .call ⟨.builtin .append, #[x, y], #[T, U]⟩, ty, pos, aft, none⟩ :: rest) fr H := by
 intro hf a w ha hw
 refine wpList_step fun K hK => ?_
 simp only [Region.wanted, if_true, Oper.wp]
 have hsz : (⟨s.toArray⟩ : ByteArray).size = s.length := List.size_toArray
 have hex : ∀ v w', (Builtin.append_ #[T, U] ty #[.slice none 0 0, S s]).run P w = .ok v w' → (execOp a.eval ⟨some d, .call ⟨.builtin .append, #[x, y], #[T, U]⟩, ty, pos, aft, none⟩).run P w = .ok (.value v) w' := by
  intro v w' hr
  simp [execOp, resolve, invoke, builtin, ha.eval hx, ha.eval hy, hr]
 by_cases h0 : s = []
 ·subst h0
  have hr : (Builtin.append_ #[T, U] ty #[.slice none 0 0, S []]).run P w = .ok (.slice none 0 0) w := by
   change (Builtin.append_ #[T, U] ty #[.slice none 0 0, .string ByteArray.empty]).run P w = _
   simp [Builtin.append_, run_underlying hT, run_underlying hU, Go.sizeOf, typeInfo, zeroValue, hi, hz, Builtin.lenOf, Builtin.firstCells]
  rw [hex _ _ hr]
  simp only [Oper.upon]
  refine hK _ _ ((hk (.slice none 0 0) [] (by simpa [bC, Lib.byteCells] using Own.nil)) hf _ _ (ha.put hd _) ?_)
  rw [List.append_nil]; exact hw
 ·have hp : 0 < s.length := List.length_pos_iff.2 h0
  have hr := run_append_nil_string (P := P) (w := w) T U ty e i z hT hU hi hz ⟨s.toArray⟩ (by rw [hsz]; exact hp) (by rw [hsz]; omega) (by rw [hsz, hb1]; omega)
  rw [hsz] at hr
  rw [hex _ _ hr]
  simp only [Oper.upon]
  have hp2 := ((hw.drew (w.drawn + 1)).push (.row (bC s ++ (Builtin.zeroCells z.cells (grownCap w s.length 0 e - s.length)).toList) e (0, 0)))
  refine hK _ _ ((hk (.slice (some ⟨w.heap.size, 0, none⟩) s.length (grownCap w s.length 0 e)) [⟨w.heap.size, true, .row (bC s ++ (Builtin.zeroCells z.cells (grownCap w s.length 0 e - s.length)).toList) e (0, 0)⟩] ?_) hf _ _ (ha.put hd _) (HF.perm ?_ (List.perm_append_singleton _ _).symm))
  ·have hle : s.length ≤ grownCap w s.length 0 e := grownCap_ge w s.length 0 e
   refine .row (by simp [bC, Lib.byteCells]) ?_ hle
   simp [zeroCells_length, hzs, bC, Lib.byteCells]
   omega
  ·have e3 : (bC s ++ (Builtin.zeroCells z.cells (grownCap w s.length 0 e - s.length)).toList).toArray = s.toArray.map (fun b => Value.int .u8 b.toNat) ++ Builtin.zeroCells z.cells (grownCap w s.length 0 e - s.length) := by
    apply Array.ext'
    simp [bC, Lib.byteCells]
   simp only [Blk.den, e3] at hp2
   exact hp2
/-- string(bytes), the bytes a slice of the call's own -/
theorem V.cvOwn {src dst e : TypeId} {x : Operand} {l : List UInt8} {sv : Value} {Hs : SH} {m : Nat} (hs : P.underlying src = some (.slice e)) (he : P.underlying e = some (.int .u8)) (hd : P.underlying dst = some .string) (hx : ev fr x = some sv) (ho : Own e 1 sv m (bC l) Hs) (hsub : ∀ x ∈ Hs, x ∈ H) : Val P c n (.convert src dst x) ty fr H (S l) := by
 generalize hxs : bC l = xs at ho
 cases ho with
 | nil =>
  have hl : l = [] := by cases l with | nil => rfl | cons a r => simp [bC, Lib.byteCells] at hxs
  subst hl
  intro a w ha hw ds pos aft g
  have h := run_convert_bytes_nil (P := P) w src e hs he 0 0 dst hd
  simp [execOp, ha.eval hx, h]
  rfl
 | @row b m cap xs spare hn hc hle =>
  subst hxs
  have hml : l.length = m := by simpa [bC, Lib.byteCells] using hn
  have hm := hsub _ (.head _)
  intro a w ha hw ds pos aft g
  have hcell : ∀ i, i < m → w.cell? ⟨b, 0 + i, none⟩ = some (.int .u8 ((l.map fun x => (x.toNat : Int)).getD i 0)) := fun i hi => by
   refine cell_row hw hm ?_
   have hil : i < l.length := by omega
   rw [nth_eq, Nat.zero_add, List.getElem?_append_left (by simp [bC, Lib.byteCells]; exact hil)]
   simp only [bC, Lib.byteCells, List.getElem?_map, List.getElem?_eq_getElem hil, Option.map_some, List.getD_eq_getElem?_getD, Option.getD_some]
  have h := run_convert_bytes_arg (P := P) w src e hs he b 0 m cap (l.map fun x => (x.toNat : Int)) (by simp; exact hml) hcell dst hd
  have e2 : strOfNums (l.map fun x => (x.toNat : Int)) = ⟨l.toArray⟩ := by
   have h0 : ((fun n : Int => UInt8.ofNat n.toNat) ∘ fun x : UInt8 => (x.toNat : Int)) = id := by
    funext x; simp
   simp [strOfNums, List.map_map, h0]
  rw [e2] at h
  simp [execOp, ha.eval hx, h]
end Bw

/- The escapes are taken out, where there are none. Printed by wip/mk_gu19.py. -/
set_option maxRecDepth 20000
namespace Go.Proofs
open Go Bw
open Gt
theorem f75_id (w : World) (s p q : List UInt8) (hs : s.length ≤ 1000000000) (hp : p.length ≤ 1000) (hp0 : p.head? = some 92) (h92 : ∀ c ∈ s, c ≠ 92) : Calls Try.prog 75 #[S s, S p, S q] w fun e w' => e = .returned (S s) ∧ HF w (fun _ => False) [] w' := by
 refine enter (fun _ => False) [] Try.func75 rfl Try.ntmps75 rfl rfl (HF.start w _) fun c hc => ?_
 subst hc
 obtain ⟨p, rfl⟩ : ∃ p', p = 92 :: p' := by
  cases p with
  | nil => cases hp0
  | cons a p => simp at hp0; exact ⟨p, by rw [hp0]⟩
 have hidx : ∀ r, Idx s (92 :: p) r → r = -1 := fun r hr => by
  rcases hr with ⟨h, _⟩ | ⟨i, _, _, h, _⟩
  ·exact h
  ·have : (92 : UInt8) ∈ (s.take (i + (92 :: p).length)).drop i := by rw [h]; exact .head _
   exact absurd rfl (h92 92 (List.mem_of_mem_take (List.mem_of_mem_drop this)))
 refine GC.seq ?_
 refine GC.reg ?_
 refine G.m2 ?_
 refine G.nil ?_
 refine GC.seq ?_
 refine GC.reg ?_
 refine G.m2 ?_
 refine G.nil ?_
 refine GC.seq ?_
 refine GC.seq ?_
 refine GC.reg ?_
 refine G.m1 ?_
 refine G.v (V.lenS Try.underlying9 rfl) rfl ?_
 refine G.v (V.eqI rfl rfl) rfl ?_
 refine G.nil ?_
 refine GC.condD rfl (fun h13 => absurd h13 (by simp; omega)) (fun h13 => ?_)
 refine GC.skip ?_
 refine GC.block ?_
 refine GC.loop ?_
 refine GC.block ?_
 refine GC.seq ?_
 refine GC.reg ?_
 refine G.m1 ?_
 refine G.m1 ?_
 refine G.callP (v := I (-1)) Try.call84 rfl rfl (fun w1 hw1 => (f84_any w1 s (92 :: p) (by omega) (by omega)).mono fun e w' ⟨r, h1, h2, h3⟩ => ⟨by rw [h2, hidx r h1], h3⟩) ?_
 refine G.m2 ?_
 refine G.nil ?_
 refine GC.seq ?_
 refine GC.seq ?_
 refine GC.reg ?_
 refine G.m1 ?_
 refine G.v (V.lt rfl rfl) rfl ?_
 refine G.nil ?_
 refine GC.condD rfl (fun h49 => ?_) (fun h49 => absurd h49 (by decide))
 refine GC.seq ?_
 refine GC.reg ?_
 refine G.m1 ?_
 refine G.m1 ?_
 refine G.app0S (i := Try.t5) Try.underlying68 Try.underlying9 rfl rfl rfl rfl rfl rfl rfl hs rfl (fun sv Hs hown => ?_)
 refine G.v (V.cvOwn Try.underlying68 Try.underlying5 Try.underlying9 rfl hown (by simp)) rfl ?_
 refine G.m2 ?_
 refine G.nil ?_
 exact GC.ret1 rfl rfl fun w' hw' => ⟨rfl, hw'.sub (List.nil_sublist _)⟩
theorem f66_node (w : World) (D : Nat → Prop) {path idx full : List UInt8} {wild : Bool} {nt pr : Nat} {h : Option Nat} {kids : List T0} {nb : Nat} {bs : List Nat} {kv hv : Value} {Hs Hh Hk : SH} (hs : Own 89 1 kv kids.length (bs.map (Pt · 0)) Hs) (hh : HV h hv Hh) (hk : HTs kids bs Hk)
  (hpl : path.length ≤ 100000) (hil : idx.length ≤ 100000) (hfl : full.length ≤ 100000) (hp : ∀ c ∈ path, c ≠ 92) (hi : ∀ c ∈ idx, c ≠ 92) (hf : ∀ c ∈ full, c ≠ 92) (hkn : kids.length ≤ 100000)
  (ih : ∀ (j : Nat) k b H w1 D1, kids[j]? = some k → HT k b H → HF w1 D1 H w1 → Calls Try.prog 66 #[Pt b 0] w1 fun e w' => e = .returned (.tuple #[]) ∧ ∃ H', HT k b H' ∧ HF w1 D1 H' w')
  (hH : HF w D (⟨nb, true, .row (nodeR path idx wild nt pr kv hv full) 107 (0, 0)⟩ :: (Hs ++ (Hh ++ Hk))) w) : Calls Try.prog 66 #[Pt nb 0] w fun e w' => e = .returned (.tuple #[]) ∧ ∃ H', HT (.node () path idx wild nt pr h full kids) nb H' ∧ HF w D H' w' := by
 refine enter D (⟨nb, true, .row (nodeR path idx wild nt pr kv hv full) 107 (0, 0)⟩ :: (Hs ++ (Hh ++ Hk))) Try.func66 rfl Try.ntmps66 rfl rfl hH fun c hc => ?_
 subst hc
 obtain ⟨ad, cap, rfl⟩ := hs.slice
 have hkl2 := hk.len
 refine GC.seq ?_
 refine GC.reg ?_
 refine G.m1 ?_
 refine G.m1 ?_
 refine G.v (V.nc rfl) rfl ?_
 refine G.v (V.fa F107_0 rfl) rfl ?_
 refine G.v (V.ld (b := nb) (off := 0 + 0) (wf := true) (l := nodeR path idx wild nt pr (.slice ad kids.length cap) hv full) (T := 107) (fz := (0, 0)) (v := S path) Try.isAgg9 rfl (.head _) rfl) rfl ?_
 refine G.callP Try.call75 rfl rfl (fun w1 hw1 => f75_id w1 path _ _ (by omega) (by simp) rfl hp) ?_
 refine G.v (V.nc rfl) rfl ?_
 refine G.v (V.fa F107_0 rfl) rfl ?_
 refine G.st (b := nb) (off := 0 + 0) (l := nodeR path idx wild nt pr (.slice ad kids.length cap) hv full) (T := 107) (fz := (0, 0)) (v := S path) Try.sizeOf9 rfl rfl rfl (.z) rfl rfl ?_
 refine G.nil ?_
 refine GC.turn (H' := ⟨nb, true, .row (nodeR path idx wild nt pr (.slice ad kids.length cap) hv full) 107 (0, 0)⟩ :: (Hs ++ (Hh ++ Hk))) (fun w1 h1 => ?_) ?_
 ·exact h1
 refine GC.seq ?_
 refine GC.reg ?_
 refine G.m1 ?_
 refine G.m1 ?_
 refine G.v (V.nc rfl) rfl ?_
 refine G.v (V.fa F107_7 rfl) rfl ?_
 refine G.v (V.ld (b := nb) (off := 0 + 7) (wf := true) (l := nodeR path idx wild nt pr (.slice ad kids.length cap) hv full) (T := 107) (fz := (0, 0)) (v := S full) Try.isAgg9 rfl (.head _) rfl) rfl ?_
 refine G.callP Try.call75 rfl rfl (fun w1 hw1 => f75_id w1 full _ _ (by omega) (by simp) rfl hf) ?_
 refine G.v (V.nc rfl) rfl ?_
 refine G.v (V.fa F107_7 rfl) rfl ?_
 refine G.st (b := nb) (off := 0 + 7) (l := nodeR path idx wild nt pr (.slice ad kids.length cap) hv full) (T := 107) (fz := (0, 0)) (v := S full) Try.sizeOf9 rfl rfl rfl (.z) rfl rfl ?_
 refine G.nil ?_
 refine GC.turn (H' := ⟨nb, true, .row (nodeR path idx wild nt pr (.slice ad kids.length cap) hv full) 107 (0, 0)⟩ :: (Hs ++ (Hh ++ Hk))) (fun w1 h1 => ?_) ?_
 ·exact h1
 refine GC.seq ?_
 refine GC.reg ?_
 refine G.m1 ?_
 refine G.m1 ?_
 refine G.v (V.nc rfl) rfl ?_
 refine G.v (V.fa F107_1 rfl) rfl ?_
 refine G.v (V.ld (b := nb) (off := 0 + 1) (wf := true) (l := nodeR path idx wild nt pr (.slice ad kids.length cap) hv full) (T := 107) (fz := (0, 0)) (v := S idx) Try.isAgg9 rfl (.head _) rfl) rfl ?_
 refine G.callP Try.call75 rfl rfl (fun w1 hw1 => f75_id w1 idx _ _ (by omega) (by simp) rfl hi) ?_
 refine G.v (V.nc rfl) rfl ?_
 refine G.v (V.fa F107_1 rfl) rfl ?_
 refine G.st (b := nb) (off := 0 + 1) (l := nodeR path idx wild nt pr (.slice ad kids.length cap) hv full) (T := 107) (fz := (0, 0)) (v := S idx) Try.sizeOf9 rfl rfl rfl (.z) rfl rfl ?_
 refine G.nil ?_
 refine GC.turn (H' := ⟨nb, true, .row (nodeR path idx wild nt pr (.slice ad kids.length cap) hv full) 107 (0, 0)⟩ :: (Hs ++ (Hh ++ Hk))) (fun w1 h1 => ?_) ?_
 ·exact h1
 refine GC.seq ?_
 refine GC.reg ?_
 refine G.m1 ?_
 refine G.v (V.nc rfl) rfl ?_
 refine G.v (V.fa F107_5 rfl) rfl ?_
 refine G.v (V.ld (b := nb) (off := 0 + 5) (wf := true) (l := nodeR path idx wild nt pr (.slice ad kids.length cap) hv full) (T := 107) (fz := (0, 0)) (v := .slice ad kids.length cap) Try.isAgg105 rfl (.head _) rfl) rfl ?_
 refine G.v (V.lenL Try.underlying105 rfl) rfl ?_
 refine G.m1 ?_
 refine G.nil ?_
 refine GC.block ?_
 refine GC.loopJ (fun N fr' H' => ∃ j Hk1, j + N = kids.length ∧ HTs kids bs Hk1 ∧ Sub [(31, .slice ad kids.length cap), (32, I (kids.length : Nat)), (33, I (j : Nat))] fr' ∧ H' = ⟨nb, true, .row (nodeR path idx wild nt pr (.slice ad kids.length cap) hv full) 107 (0, 0)⟩ :: (Hs ++ (Hh ++ Hk1))) kids.length
  ⟨0, Hk, by omega, hk, .of rfl, rfl⟩ ?_
 rintro N fr' H' ⟨j, Hk1, hj, hk1, hs2, rfl⟩ ih2
 refine GC.weak hs2 ?_
 clear hs2
 refine GC.seq ?_
 refine GC.reg ?_
 refine G.v (V.lt rfl rfl) rfl ?_
 refine G.nil ?_
 refine GC.seq ?_
 refine GC.condD rfl (fun h34 => ?_) (fun h34 => ?_)
 ·refine GC.skip ?_
  refine GC.seq ?_
  refine GC.block ?_
  refine GC.seq ?_
  have hjl : j < kids.length := by omega
  obtain ⟨k, hkj⟩ : ∃ k, kids[j]? = some k := ⟨_, List.getElem?_eq_getElem hjl⟩
  obtain ⟨b, C1, C2, hb, hkc, hperm, hback⟩ := hk1.foc hkj
  obtain ⟨rb, cap2, spare, e1, rfl⟩ := hs.at hjl
  cases e1
  refine GC.reg ?_
  refine G.v (V.ia (i := j) Try.underlying105 Try.sizeOf89 rfl rfl hjl) rfl ?_
  refine G.v (V.ld (b := rb) (off := 0 + j * 1) (wf := true) (l := bs.map (Pt · 0) ++ spare) (T := 89) (fz := (0, 0)) (v := Pt b 0) Try.isAgg89 rfl (.tail _ (.head _)) (by rw [nth_eq, Nat.zero_add, Nat.mul_one, List.getElem?_append_left (by rw [List.length_map, hkl2]; exact hjl), List.getElem?_map, hb]; rfl)) rfl ?_
  refine G.m2 ?_
  refine G.nil ?_
  refine GC.reg ?_
  refine G.m1 ?_
  refine G.callL (H1 := C1) (Hk := ⟨nb, true, .row (nodeR path idx wild nt pr (.slice (some ⟨rb, 0, none⟩) kids.length cap) hv full) 107 (0, 0)⟩ :: ([⟨rb, true, .row (bs.map (Pt · 0) ++ spare) 89 (0, 0)⟩] ++ (Hh ++ C2))) (fun v H1' => v = .tuple #[] ∧ HT k b H1') ?_ (fun e0 he0 => hkc.w e0 he0) Try.call66 rfl rfl (fun w1 hw1 _ => ?_) ?_
  ·refine List.Perm.trans (((hperm.append_left Hh).append_left [⟨rb, true, .row (bs.map (Pt · 0) ++ spare) 89 (0, 0)⟩]).cons ⟨nb, true, .row (nodeR path idx wild nt pr (.slice (some ⟨rb, 0, none⟩) kids.length cap) hv full) 107 (0, 0)⟩) ?_
   have p1 := perm_idx [[⟨nb, true, .row (nodeR path idx wild nt pr (.slice (some ⟨rb, 0, none⟩) kids.length cap) hv full) 107 (0, 0)⟩], [⟨rb, true, .row (bs.map (Pt · 0) ++ spare) 89 (0, 0)⟩], Hh, C1, C2] [0, 1, 2, 3, 4] [3, 0, 1, 2, 4] (by decide)
   simpa using p1
  ·exact (ih j k b C1 w1 _ hkj hkc hw1).mono fun e w' ⟨h1, H', h2, h3⟩ => ⟨_, H', h1, h2.w, h3, rfl, h2⟩
  rintro v H1' ⟨rfl, hkc'⟩
  obtain ⟨Hk2, hk2, hp2⟩ := hback k H1' hkc'
  refine G.nil ?_
  refine GC.inBlock ?_
  refine GC.reg ?_
  refine G.v (V.addI (r := ((j + 1 : Nat) : Int)) rfl rfl rfl (by omega) (by omega)) rfl ?_
  refine G.m1 ?_
  refine G.nil ?_
  have hset : kids.set j k = kids := by
   apply List.ext_getElem?
   intro i
   rw [List.getElem?_set]
   by_cases e : j = i
   ·subst e; rw [if_pos rfl, if_pos hjl, hkj]
   ·rw [if_neg e]
  rw [hset] at hk2
  refine GC.turn (H' := ⟨nb, true, .row (nodeR path idx wild nt pr (.slice (some ⟨rb, 0, none⟩) kids.length cap) hv full) 107 (0, 0)⟩ :: ([⟨rb, true, .row (bs.map (Pt · 0) ++ spare) 89 (0, 0)⟩] ++ (Hh ++ Hk2))) (fun w1 h1 => h1.perm ?_) (ih2 (N - 1) _ _ (by omega) ⟨j + 1, Hk2, by omega, hk2, .of rfl, rfl⟩)
  refine List.Perm.trans ?_ ((((hp2.symm).append_left Hh).append_left [⟨rb, true, .row (bs.map (Pt · 0) ++ spare) 89 (0, 0)⟩]).cons ⟨nb, true, .row (nodeR path idx wild nt pr (.slice (some ⟨rb, 0, none⟩) kids.length cap) hv full) 107 (0, 0)⟩)
  have p1 := perm_idx [[⟨nb, true, .row (nodeR path idx wild nt pr (.slice (some ⟨rb, 0, none⟩) kids.length cap) hv full) 107 (0, 0)⟩], [⟨rb, true, .row (bs.map (Pt · 0) ++ spare) 89 (0, 0)⟩], Hh, H1', C2] [0, 1, 2, 3, 4] [3, 0, 1, 2, 4] (by decide)
  simpa using p1.symm
 refine GC.exit rfl ?_
 exact GC.end0 rfl fun w' hw' => ⟨rfl, _, HT.mk hs hh hk1, hw'⟩
/-- the tree's strings are not long -/
inductive Ln : T0 → Prop
 | mk {path idx : List UInt8} {wild : Bool} {nt pr : Nat} {h : Option Nat} {full : List UInt8} {kids : List T0} (hp : path.length ≤ 100000) (hi : idx.length ≤ 100000) (hf : full.length ≤ 100000) (hn : kids.length ≤ 100000) (hk : ∀ k ∈ kids, Ln k) : Ln (.node () path idx wild nt pr h full kids)
theorem nodup_257 {idx : List UInt8} {wild : Bool} (h : idx.Nodup) : idx.length + wild.toNat ≤ 100000 ∧ idx.length ≤ 100000 := by
 have := nodup_256 h
 cases wild <;> simp <;> omega
theorem Rep.ln {t : T0} (hn : NB t) : ∀ (b : Bool) (f : F), Rep b t f → Ln t := by
 induction hn with
 | @mk path idx wild nt pr h full kids hp hi hf hk ih =>
  intro b f hr
  have l1 := hp.1
  have l2 := hf.1
  cases hr with
  | st wn wk hp2 hnt hpre hh hnd hpl hlen hk2 hkn hne hno hw hwr hnw hA hmin =>
   refine .mk (by omega) (nodup_257 (wild := true) hnd).2 (by omega) (by rw [hlen]; exact (nodup_257 hnd).1) fun k hkm => ?_
   obtain ⟨j, hj⟩ := List.getElem?_of_mem hkm
   have hjl := (List.getElem?_eq_some_iff.1 hj).1
   rcases Nat.lt_or_ge j idx.length with h | h
   ·exact ih k hkm _ _ (hk2 j _ k (List.getElem?_eq_getElem h) hj)
   ·cases wild with
    | false => simp at hlen; omega
    | true =>
     simp at hlen
     have e : j = idx.length := by omega
     subst e
     rw [(hw rfl).1] at hj
     cases hj
     exact ih _ hkm _ _ (hwr rfl)
  | pa => exact .mk (by omega) (by simp) (by omega) (by simp) (by simp)
  | pk hh hidx hk2 =>
   refine .mk (by omega) (by rcases hidx with rfl | rfl <;> simp) (by omega) (by simp) fun k hkm => ?_
   rw [List.mem_singleton.1 hkm]
   exact ih _ (.head _) _ _ hk2
  | ca =>
   refine .mk (by simp) (by simp) (by omega) (by simp) fun k hkm => ?_
   rw [List.mem_singleton.1 hkm]
   cases hk _ (.head _) with
   | mk c1 c2 c3 c4 =>
    have l3 := c1.1
    have l4 := c3.1
    exact .mk (by omega) (by simp) (by omega) (by simp) (by simp)
theorem Ln.of {t : T0} {f : F} (hts : TS t f) (hn : NB t) : Ln t := by
 rcases hts with ⟨rfl, _⟩ | ⟨h, _⟩
 ·exact .mk (by simp) (by simp) (by simp) (by simp) (by simp)
 ·exact Rep.ln hn _ _ h
theorem f66_any : ∀ {t : T0}, Ln t → NB t → ∀ (b : Nat) (H : SH) (w : World) (D : Nat → Prop), HT t b H → HF w D H w → Calls Try.prog 66 #[Pt b 0] w fun e w' => e = .returned (.tuple #[]) ∧ ∃ H', HT t b H' ∧ HF w D H' w' := by
 intro t hl
 induction hl with
 | mk hp hi hf hn hk ih =>
  intro hnb b H w D ht hH
  cases hnb with
  | mk a1 a2 a3 a4 =>
  cases ht with
  | mk hs hh hk2 =>
  exact f66_node w D hs hh hk2 hp hi hf a1.2 a2 a3.2 hn (fun j k b H w1 D1 hj hkt hw1 => ih k (List.mem_of_getElem? hj) (a4 k (List.mem_of_getElem? hj)) b H w1 D1 hkt hw1) hH
theorem f41_any (w : World) (D : Nat → Prop) {t : T0} {tb nb m s : Nat} {Hn : SH} (hl : Ln t) (hnb : NB t) (ht : HT t nb Hn) (hH : HF w D (⟨tb, true, .row (treeR nb m s) 92 (0, 0)⟩ :: Hn) w) : Calls Try.prog 41 #[Pt tb 0] w fun e w' => e = .returned (.tuple #[]) ∧ ∃ Hn', HT t nb Hn' ∧ HF w D (⟨tb, true, .row (treeR nb m s) 92 (0, 0)⟩ :: Hn') w' := by
 refine enter D (⟨tb, true, .row (treeR nb m s) 92 (0, 0)⟩ :: Hn) Try.func41 rfl Try.ntmps41 rfl rfl hH fun c hc => ?_
 subst hc
 refine GC.reg ?_
 refine G.m1 ?_
 refine G.v (V.nc rfl) rfl ?_
 refine G.v (V.fa F92_0 rfl) rfl ?_
 refine G.v (V.ld (b := tb) (off := 0 + 0) (wf := true) (l := treeR nb m s) (T := 92) (fz := (0, 0)) (v := Pt nb 0) Try.isAgg89 rfl (.head _) rfl) rfl ?_
 refine G.callL (H1 := Hn) (Hk := [⟨tb, true, .row (treeR nb m s) 92 (0, 0)⟩]) (fun v H1' => v = .tuple #[] ∧ HT t nb H1') (List.perm_append_comm (l₁ := ([⟨tb, true, .row (treeR nb m s) 92 (0, 0)⟩] : SH))) (fun e0 he0 => ht.w e0 he0) Try.call66 rfl rfl (fun w1 hw1 _ => (f66_any hl hnb nb Hn w1 _ ht hw1).mono fun e w' ⟨h1, H', h2, h3⟩ => ⟨_, H', h1, h2.w, h3, rfl, h2⟩) ?_
 rintro v H1' ⟨rfl, ht'⟩
 refine G.nil ?_
 exact GC.end0 rfl fun w' hw' => ⟨rfl, H1', ht', hw'.perm (List.perm_append_comm (l₂ := ([⟨tb, true, .row (treeR nb m s) 92 (0, 0)⟩] : SH)))⟩
end Go.Proofs

/- More rules: structs within rows, rows made, results in memory. No program in sight. -/
set_option maxRecDepth 20000
namespace Bw
open Go Go.Proofs
variable {P : Program} {c : Cx} {n : Nat} {k : List Item} {fr : SF} {H : SH} {ops : Array Oper} {rest : List Oper} {ty t : TypeId} {pos : String} {aft : Array Edge}
theorem GC.retC {b s t : Nat} {T T2 : TypeId} {fz : Nat × Nat} {wf : Bool} {cs : List Value} (hr : c.fn.results = #[.cell t T]) (hA : ∀ w, (isAgg T).run P w = .ok true w) (hs : ∀ w, (Go.sizeOf T).run P w = .ok s w)
  (hv : Bw.look t fr = some (Pt b 0)) (hm : ⟨b, wf, .row cs T2 fz⟩ ∈ H) (hl : cs.length = s) (hR : ∀ w, HF c.w0 c.D H w → c.R (.returned (.agg cs.toArray)) w) : GC P c n (.code .ret :: k) fr H := by
 refine GC.retR (fun a w ha hw => ?_) hR
 have hc : ∀ j v, cs[j]? = some v → w.cell? ((⟨b, 0, none⟩ : Addr).add j) = some v := by
  intro j v hj
  have h2 := cell_row hw hm (off := j) (v := v) (by rw [nth_eq]; exact hj)
  by_cases h0 : j = 0
  ·subst h0; simpa [Addr.add] using h2
  ·simpa [Addr.add, h0] using h2
 have hrun := run_loadCells_list (P := P) (w := w) ⟨b, 0, none⟩ cs hc
 have h1 := ha.at_ t _ hv
 simp [results, hr, h1, loadVar, hA, hs, ← hl, hrun, asAddr]
/-- cells put at a place -/
def setR (l : List Value) (off : Nat) (cs : List Value) : List Value := l.take off ++ cs ++ l.drop (off + cs.length)
theorem setR_len (l : List Value) (off : Nat) (cs : List Value) (h : off + cs.length ≤ l.length) : (setR l off cs).length = l.length := by simp [setR]; omega
theorem G.stAt {x y : Operand} {b off i : Nat} {l cs : List Value} {T : TypeId} (hs : ∀ w, (Go.sizeOf t).run P w = .ok cs.length w) (hx : ev fr x = some (Pt b off)) (hy : ev fr y = some (.agg cs.toArray)) (h1 : ∀ v ∈ cs, v.oneCell' = true)
  (hi : At i ⟨b, true, .row l T (0, 0)⟩ H) (hl : off + cs.length ≤ l.length) (hk : G P c n k ops rest fr (putE (.row (setR l off cs) T (0, 0)) i H)) : G P c n k ops (⟨none, .store t x y, ty, pos, aft, none⟩ :: rest) fr H := by
 refine G.effN (fun a w ha hw => ⟨w.setRow b (setR l off cs).toArray, ?_, hw.setRow hi⟩) hk
 have hb := hw.has _ hi.mem
 simp only [Blk.den] at hb
 have hr := run_storeCells_at (P := P) b off T cs 0 l.toArray w hb (by simpa using hl) h1
 simp only [Nat.add_zero] at hr
 have e : (l.toArray.toList.take off ++ cs ++ l.toArray.toList.drop (off + cs.length)).toArray = (setR l off cs).toArray := by simp [setR]
 rw [e] at hr
 simp [execOp, ha.eval hx, ha.eval hy, Instr.storeAt, Instr.sureAddr, storeVar, hs, Value.cells, hr]
/-- make([]T, l, z) -/
theorem G.ms {T e s by_ : Nat} {i : TypeInfo} {zv : Value} {x y : Operand} {d : Nat} {kl kc : IntKind} {l z : Nat} (hT : P.underlying T = some (.slice e)) (hi : P.info? e = some i) (hz : i.zero = some zv) (hsz : i.size = s) (hby : i.bytes = by_)
  (hx : ev fr x = some (.int kl (l : Int))) (hy : ev fr y = some (.int kc (z : Int))) (hl : l ≤ z) (hbd : by_ * z ≤ 281474976710656) (h63 : z ≤ 9223372036854775807) (hd : Nat.blt d n = true)
  (hk : ∀ b row, c.w0.heap.size ≤ b → row.length = z * s → G P c n k ops rest ((d, .slice (some ⟨b, 0, none⟩) l z) :: fr) (⟨b, true, .row row e (0, 0)⟩ :: H)) :
  G P c n k ops (⟨some d, .makeSlice T x y, ty, pos, aft, none⟩ :: rest) fr H := by
 intro hf a w ha hw
 subst hsz hby
 refine wpList_step fun K hK => ?_
 simp only [Region.wanted, if_true, Oper.wp]
 have hr := run_make (P := P) w T e i zv hT hi hz kl kc (l : Int) (z : Int) (by omega) (by omega) (by rw [← Int.natCast_mul]; omega) (by omega)
 rw [Int.toNat_natCast, Int.toNat_natCast] at hr
 have hex : (execOp a.eval ⟨some d, .makeSlice T x y, ty, pos, aft, none⟩).run P w = .ok (.value (.slice (some ⟨w.heap.size, 0, none⟩) l z)) (w.alloc (.cells (madeCells zv.cells (z * i.size)) e)) := by
  simp only [execOp, ha.eval hx, ha.eval hy, Sem.run_bind]
  rw [hr]
  rfl
 rw [hex]
 simp only [Oper.upon]
 have hp := hw.push (.row (madeCells zv.cells (z * i.size)).toList e (0, 0))
 exact hK _ _ (hk w.heap.size (madeCells zv.cells (z * i.size)).toList hw.size (by simp [madeCells]) hf _ _ (ha.put hd _) hp)
end Bw

/- getValue's loop as a machine, with the room that the engine gives it. No program in sight. -/
namespace Gt
open Gs Tr
/-- url.QueryUnescape -/
def hexV (c : UInt8) : Option Nat := if 48 ≤ c.toNat ∧ c.toNat ≤ 57 then some (c.toNat - 48) else if 97 ≤ c.toNat ∧ c.toNat ≤ 102 then some (c.toNat - 87) else if 65 ≤ c.toNat ∧ c.toNat ≤ 70 then some (c.toNat - 55) else none
def unesc : Nat → List UInt8 → List UInt8 → Option (List UInt8)
  | 0, _, _ => none
  | _ + 1, [], out => some out
  | g + 1, c :: s, out =>
    if c = 43 then unesc g s (out ++ [32])
    else if c ≠ 37 then unesc g s (out ++ [c])
    else match s with
      | a :: b :: s => match hexV a, hexV b with
        | some x, some y => unesc g s (out ++ [UInt8.ofNat (x * 16 + y)])
        | _, _ => none
      | _ => none
/-- a value, unescaped if so wanted and if it can be -/
def unV (un : Bool) (v : List UInt8) : List UInt8 := if un then (unesc (v.length + 1) v []).getD v else v
/-- the last skipped one: none: not told; some none: there is none -/
def popC (path : List UInt8) (n : Nat) : List Sk → Option (Option (Sk × List Sk))
  | [] => some none
  | s :: l => if path <:+ s.path ∧ s.cnt ≤ n then some (some (s, l)) else none
/-- getValue's loop; sk: the skipped ones, the last one first; cP, cS: the room for parameters and for skipped ones -/
def getC (u : List UInt8 → List UInt8) (cP cS : Nat) : Nat → T0 → List UInt8 → List (List UInt8 × List UInt8) → List Sk → Option Res
  | 0, _, _, _, _ => none
  | f + 1, n, path, ps, sk =>
    if n.path.length < path.length ∧ path.take n.path.length = n.path then
      match idxOf ((path.drop n.path.length).headD 0) n.idx with
      | some i =>
        match n.kids[i]? with
        | some k => if n.wild then (if sk.length < cS then getC u cP cS f k (path.drop n.path.length) ps (⟨path, noIdx n, ps.length⟩ :: sk) else none) else getC u cP cS f k (path.drop n.path.length) ps sk
        | none => none
      | none =>
        if n.wild = false then
          match (if path.drop n.path.length ≠ [47] then popC (path.drop n.path.length) ps.length sk else some none) with
          | some (some (s, sk')) => getC u cP cS f s.node s.path (ps.take s.cnt) sk'
          | some none => some ⟨none, ps, decide (path.drop n.path.length = [47]) && n.h.isSome, []⟩
          | none => none
        else match n.kids[n.kids.length - 1]? with
        | none => none
        | some k =>
          if ¬ ps.length < cP ∨ k.path.length < 2 then none
          else if k.nt = 2 then
            if ((path.drop n.path.length).takeWhile (· ≠ 47)).length < (path.drop n.path.length).length then
              match k.kids with
              | c :: _ => getC u cP cS f c ((path.drop n.path.length).drop ((path.drop n.path.length).takeWhile (· ≠ 47)).length) (ps ++ [(k.path.drop 1, u ((path.drop n.path.length).takeWhile (· ≠ 47)))]) sk
              | [] => some ⟨none, ps ++ [(k.path.drop 1, u ((path.drop n.path.length).takeWhile (· ≠ 47)))], decide ((path.drop n.path.length).length = ((path.drop n.path.length).takeWhile (· ≠ 47)).length + 1), []⟩
            else if k.h.isSome then some ⟨k.h, ps ++ [(k.path.drop 1, u ((path.drop n.path.length).takeWhile (· ≠ 47)))], false, k.full⟩
            else match k.kids with
            | [c] => some ⟨none, ps ++ [(k.path.drop 1, u ((path.drop n.path.length).takeWhile (· ≠ 47)))], (decide (c.path = [47]) && c.h.isSome) || (decide (c.path = []) && decide (c.idx = [47])), []⟩
            | _ => some ⟨none, ps ++ [(k.path.drop 1, u ((path.drop n.path.length).takeWhile (· ≠ 47)))], false, []⟩
          else if k.nt = 3 then some ⟨k.h, ps ++ [(k.path.drop 2, u (path.drop n.path.length))], false, k.full⟩
          else none
    else if path = n.path then
      match (if n.h.isNone ∧ path ≠ [47] then popC path ps.length sk else some none) with
      | some (some (s, sk')) => getC u cP cS f s.node s.path (ps.take s.cnt) sk'
      | none => none
      | some none =>
        if n.h.isSome then some ⟨n.h, ps, false, n.full⟩
        else if path = [47] ∧ n.wild = true ∧ n.nt ≠ 1 then some ⟨none, ps, true, []⟩
        else if path = [47] ∧ n.nt = 0 then some ⟨none, ps, true, []⟩
        else match idxOf 47 n.idx with
        | some i =>
          match n.kids[i]? with
          | some k => (if k.nt = 3 ∧ k.kids = [] then none else some ⟨none, ps, (decide (k.path.length = 1) && k.h.isSome) || (decide (k.nt = 3) && ((k.kids.head?).map (·.h.isSome)).getD false), []⟩)
          | none => none
        | none => some ⟨none, ps, false, []⟩
    else
      match (if (decide (path = [47]) || (decide (n.path = path ++ [47]) && n.h.isSome)) = false then popC path ps.length sk else some none) with
      | some (some (s, sk')) => getC u cP cS f s.node s.path (ps.take s.cnt) sk'
      | some none => some ⟨none, ps, decide (path = [47]) || (decide (n.path = path ++ [47]) && n.h.isSome), []⟩
      | none => none
end Gt

/- HasPrefix, HasSuffix, zzQueryUnescape. Printed by wip/mk_gu20.py. -/
set_option maxRecDepth 20000
namespace Go.Proofs
open Go Bw
open Gt
theorem f69_any (w : World) (s p : List UInt8) (_hs : s.length ≤ 1000000000000) (_hp : p.length ≤ 1000000000000) : Calls Try.prog 69 #[S s, S p] w fun e w' => e = .returned (.bool (decide (p <+: s))) ∧ HF w (fun _ => False) [] w' := by
 refine enter (fun _ => False) [] Try.func69 rfl Try.ntmps69 rfl rfl (HF.start w _) fun c hc => ?_
 subst hc
 refine GC.seq ?_
 refine GC.reg ?_
 refine G.m2 ?_
 refine G.nil ?_
 refine GC.seq ?_
 refine GC.join (fun fr' H' => Sub [(4, .bool (decide (p <+: s)))] fr' ∧ H' = []) (fun J1 => ?_) ?_
 ·refine GC.reg ?_
  refine G.m1 ?_
  refine G.v (V.lenS Try.underlying9 rfl) rfl ?_
  refine G.m1 ?_
  refine G.v (V.lenS Try.underlying9 rfl) rfl ?_
  refine G.v (V.ge rfl rfl) rfl ?_
  refine G.m1 ?_
  refine G.bc 10 rfl (fun h10 => ?_) (fun h10 => ?_)
  ·refine G.m5 ?_
   refine G.m5 ?_
   refine G.vg rfl rfl (V.lenS Try.underlying9 rfl) rfl ?_
   have hle : p.length ≤ s.length := by have := of_decide_eq_true h10; omega
   refine G.vg rfl rfl (V.slH (j := p.length) Try.underlying9 rfl rfl hle) rfl ?_
   refine G.m5 ?_
   refine G.vg rfl rfl (V.eqS rfl rfl) rfl ?_
   refine G.m3 ?_
   refine G.m2 ?_
   refine G.nil ?_
   refine J1 _ _ ⟨?_, rfl⟩
   have e : decide (s.take p.length = p) = decide (p <+: s) := decide_eq_decide.2 ⟨fun h => by rw [List.prefix_iff_eq_take]; exact h.symm, fun h => (List.prefix_iff_eq_take.1 h).symm⟩
   rw [e]
   exact .cons rfl .nil
  ·refine G.s1 ?_
   refine G.s1 ?_
   refine G.s1 ?_
   refine G.s1 ?_
   refine G.s1 ?_
   refine G.s1 ?_
   refine G.m4 ?_
   refine G.m2 ?_
   refine G.nil ?_
   refine J1 _ _ ⟨?_, rfl⟩
   have e : decide (p <+: s) = false := decide_eq_false fun h => by have := h.length_le; have h2 := of_decide_eq_false h10; omega
   rw [e]
   exact .cons rfl .nil
 rintro fr' H' ⟨hs1, rfl⟩
 refine GC.weak hs1 ?_
 clear hs1
 exact GC.ret1 rfl rfl fun w' hw' => ⟨rfl, hw'⟩
theorem f70_any (w : World) (s p : List UInt8) (hs : s.length ≤ 1000000000000) (hp : p.length ≤ 1000000000000) : Calls Try.prog 70 #[S s, S p] w fun e w' => e = .returned (.bool (decide (p <:+ s))) ∧ HF w (fun _ => False) [] w' := by
 refine enter (fun _ => False) [] Try.func70 rfl Try.ntmps70 rfl rfl (HF.start w _) fun c hc => ?_
 subst hc
 refine GC.seq ?_
 refine GC.reg ?_
 refine G.m2 ?_
 refine G.nil ?_
 refine GC.seq ?_
 refine GC.join (fun fr' H' => Sub [(4, .bool (decide (p <:+ s)))] fr' ∧ H' = []) (fun J1 => ?_) ?_
 ·refine GC.reg ?_
  refine G.m1 ?_
  refine G.v (V.lenS Try.underlying9 rfl) rfl ?_
  refine G.m1 ?_
  refine G.v (V.lenS Try.underlying9 rfl) rfl ?_
  refine G.v (V.ge rfl rfl) rfl ?_
  refine G.m1 ?_
  refine G.bc 10 rfl (fun h10 => ?_) (fun h10 => ?_)
  ·refine G.m5 ?_
   refine G.m5 ?_
   refine G.vg rfl rfl (V.lenS Try.underlying9 rfl) rfl ?_
   refine G.m5 ?_
   refine G.vg rfl rfl (V.lenS Try.underlying9 rfl) rfl ?_
   have hle : p.length ≤ s.length := by have := of_decide_eq_true h10; omega
   refine G.vg rfl rfl (V.subI (r := ((s.length - p.length : Nat) : Int)) rfl rfl (by omega) (by omega) (by omega)) rfl ?_
   refine G.vg rfl rfl (V.slL (i := s.length - p.length) Try.underlying9 rfl rfl (by omega)) rfl ?_
   refine G.m5 ?_
   refine G.vg rfl rfl (V.eqS rfl rfl) rfl ?_
   refine G.m3 ?_
   refine G.m2 ?_
   refine G.nil ?_
   refine J1 _ _ ⟨?_, rfl⟩
   have e : decide (s.drop (s.length - p.length) = p) = decide (p <:+ s) := decide_eq_decide.2 ⟨fun h => by rw [List.suffix_iff_eq_drop]; exact h.symm, fun h => (List.suffix_iff_eq_drop.1 h).symm⟩
   rw [e]
   exact .cons rfl .nil
  ·refine G.s1 ?_
   refine G.s1 ?_
   refine G.s1 ?_
   refine G.s1 ?_
   refine G.s1 ?_
   refine G.s1 ?_
   refine G.s1 ?_
   refine G.s1 ?_
   refine G.s1 ?_
   refine G.m4 ?_
   refine G.m2 ?_
   refine G.nil ?_
   refine J1 _ _ ⟨?_, rfl⟩
   have e : decide (p <:+ s) = false := decide_eq_false fun h => by have := h.length_le; have h2 := of_decide_eq_false h10; omega
   rw [e]
   exact .cons rfl .nil
 rintro fr' H' ⟨hs1, rfl⟩
 refine GC.weak hs1 ?_
 clear hs1
 exact GC.ret1 rfl rfl fun w' hw' => ⟨rfl, hw'⟩
theorem f46_any (w : World) (s p : List UInt8) (hs : s.length ≤ 1000000000000) (hp : p.length ≤ 1000000000000) : Calls Try.prog 46 #[S s, S p] w fun e w' => e = .returned (.bool (decide (p <+: s))) ∧ HF w (fun _ => False) [] w' := by
 refine enter (fun _ => False) [] Try.func46 rfl Try.ntmps46 rfl rfl (HF.start w _) fun c hc => ?_
 subst hc
 refine GC.seq ?_
 refine GC.reg ?_
 refine G.m2 ?_
 refine G.nil ?_
 refine GC.seq ?_
 refine GC.reg ?_
 refine G.m1 ?_
 refine G.m1 ?_
 refine G.callP Try.call69 rfl rfl (fun w1 hw1 => f69_any w1 s p hs hp) ?_
 refine G.m2 ?_
 refine G.nil ?_
 exact GC.ret1 rfl rfl fun w' hw' => ⟨rfl, hw'⟩
theorem f50_any (w : World) (s p : List UInt8) (hs : s.length ≤ 1000000000000) (hp : p.length ≤ 1000000000000) : Calls Try.prog 50 #[S s, S p] w fun e w' => e = .returned (.bool (decide (p <:+ s))) ∧ HF w (fun _ => False) [] w' := by
 refine enter (fun _ => False) [] Try.func50 rfl Try.ntmps50 rfl rfl (HF.start w _) fun c hc => ?_
 subst hc
 refine GC.seq ?_
 refine GC.reg ?_
 refine G.m2 ?_
 refine G.nil ?_
 refine GC.seq ?_
 refine GC.reg ?_
 refine G.m1 ?_
 refine G.m1 ?_
 refine G.callP Try.call70 rfl rfl (fun w1 hw1 => f70_any w1 s p hs hp) ?_
 refine G.m2 ?_
 refine G.nil ?_
 exact GC.ret1 rfl rfl fun w' hw' => ⟨rfl, hw'⟩
/-- what zzHex tells -/
def hexR (c : UInt8) : Value := match hexV c with
 | some x => .tuple #[.int .u8 ((x : Nat) : Int), .bool true]
 | none => .tuple #[.int .u8 0, .bool false]
theorem f90_any (w : World) (c : UInt8) : Calls Try.prog 90 #[.int .u8 (c.toNat : Int)] w fun e w' => e = .returned (hexR c) ∧ HF w (fun _ => False) [] w' := by
 refine enter (fun _ => False) [] Try.func90 rfl Try.ntmps90 rfl rfl (HF.start w _) fun c hc => ?_
 subst hc
 have hc := c.toNat_lt
 have wr : ∀ n : Int, 0 ≤ n → n < 256 → IntKind.u8.wrap n = n := fun n h1 h2 => by
  unfold IntKind.wrap
  simp [IntKind.bits, IntKind.signed]
  omega
 refine GC.seq ?_
 refine GC.reg ?_
 refine G.m2 ?_
 refine G.m2 ?_
 refine G.nil ?_
 refine GC.seq ?_
 refine GC.block ?_
 refine GC.seq ?_
 refine GC.join (fun fr' H' => Sub [(0, .int .u8 (c.toNat : Int)), (4, .bool (decide (48 ≤ c.toNat ∧ c.toNat ≤ 57)))] fr' ∧ H' = []) (fun J1 => ?_) ?_
 ·refine GC.reg ?_
  refine G.m1 ?_
  refine G.v (V.le rfl rfl) rfl ?_
  refine G.m1 ?_
  refine G.bc 7 rfl (fun h7 => ?_) (fun h7 => ?_)
  ·refine G.m5 ?_
   refine G.vg rfl rfl (V.le rfl rfl) rfl ?_
   refine G.m3 ?_
   refine G.m2 ?_
   refine G.nil ?_
   refine J1 _ _ ⟨?_, rfl⟩
   have h1 := of_decide_eq_true h7
   have e : decide ((c.toNat : Int) ≤ 57) = decide (48 ≤ c.toNat ∧ c.toNat ≤ 57) := decide_eq_decide.2 ⟨fun h => ⟨by omega, by omega⟩, fun h => by omega⟩
   rw [e]
   exact .of rfl
  ·refine G.s1 ?_
   refine G.s1 ?_
   refine G.m4 ?_
   refine G.m2 ?_
   refine G.nil ?_
   refine J1 _ _ ⟨?_, rfl⟩
   have h1 := of_decide_eq_false h7
   have e : decide (48 ≤ c.toNat ∧ c.toNat ≤ 57) = false := decide_eq_false fun h => h1 (by omega)
   rw [e]
   exact .of rfl
 rintro fr' H' ⟨hs1, rfl⟩
 refine GC.weak hs1 ?_
 clear hs1
 refine GC.condD rfl (fun h4 => ?_) (fun h4 => ?_)
 ·refine GC.seq ?_
  refine GC.reg ?_
  refine G.m1 ?_
  refine G.v (V.sub (i := (c.toNat : Int)) (j := 48) rfl rfl) rfl ?_
  rw [wr _ (by omega) (by omega)]
  refine G.m2 ?_
  refine G.m2 ?_
  refine G.nil ?_
  refine GC.ret2 rfl rfl rfl fun w' hw' => ⟨?_, hw'⟩
  unfold hexR hexV
  rw [if_pos h4]
  have e : (c.toNat : Int) - 48 = ((c.toNat - 48 : Nat) : Int) := by omega
  rw [e]
 refine GC.seq ?_
 refine GC.join (fun fr' H' => Sub [(0, .int .u8 (c.toNat : Int)), (13, .bool (decide (97 ≤ c.toNat ∧ c.toNat ≤ 102)))] fr' ∧ H' = []) (fun J3 => ?_) ?_
 ·refine GC.reg ?_
  refine G.m1 ?_
  refine G.v (V.le rfl rfl) rfl ?_
  refine G.m1 ?_
  refine G.bc 16 rfl (fun h16 => ?_) (fun h16 => ?_)
  ·refine G.m5 ?_
   refine G.vg rfl rfl (V.le rfl rfl) rfl ?_
   refine G.m3 ?_
   refine G.m2 ?_
   refine G.nil ?_
   refine J3 _ _ ⟨?_, rfl⟩
   have h1 := of_decide_eq_true h16
   have e : decide ((c.toNat : Int) ≤ 102) = decide (97 ≤ c.toNat ∧ c.toNat ≤ 102) := decide_eq_decide.2 ⟨fun h => ⟨by omega, by omega⟩, fun h => by omega⟩
   rw [e]
   exact .of rfl
  ·refine G.s1 ?_
   refine G.s1 ?_
   refine G.m4 ?_
   refine G.m2 ?_
   refine G.nil ?_
   refine J3 _ _ ⟨?_, rfl⟩
   have h1 := of_decide_eq_false h16
   have e : decide (97 ≤ c.toNat ∧ c.toNat ≤ 102) = false := decide_eq_false fun h => h1 (by omega)
   rw [e]
   exact .of rfl
 rintro fr' H' ⟨hs1, rfl⟩
 refine GC.weak hs1 ?_
 clear hs1
 refine GC.condD rfl (fun h13 => ?_) (fun h13 => ?_)
 ·refine GC.seq ?_
  refine GC.reg ?_
  refine G.m1 ?_
  refine G.v (V.sub (i := (c.toNat : Int)) (j := 97) rfl rfl) rfl ?_
  rw [wr _ (by omega) (by omega)]
  refine G.v (V.add (i := (c.toNat : Int) - 97) (j := 10) rfl rfl) rfl ?_
  rw [wr _ (by omega) (by omega)]
  refine G.m2 ?_
  refine G.m2 ?_
  refine G.nil ?_
  refine GC.ret2 rfl rfl rfl fun w' hw' => ⟨?_, hw'⟩
  unfold hexR hexV
  rw [if_neg h4, if_pos h13]
  have e : (c.toNat : Int) - 97 + 10 = ((c.toNat - 87 : Nat) : Int) := by omega
  rw [e]
 refine GC.seq ?_
 refine GC.join (fun fr' H' => Sub [(0, .int .u8 (c.toNat : Int)), (23, .bool (decide (65 ≤ c.toNat ∧ c.toNat ≤ 70)))] fr' ∧ H' = []) (fun J5 => ?_) ?_
 ·refine GC.reg ?_
  refine G.m1 ?_
  refine G.v (V.le rfl rfl) rfl ?_
  refine G.m1 ?_
  refine G.bc 26 rfl (fun h26 => ?_) (fun h26 => ?_)
  ·refine G.m5 ?_
   refine G.vg rfl rfl (V.le rfl rfl) rfl ?_
   refine G.m3 ?_
   refine G.m2 ?_
   refine G.nil ?_
   refine J5 _ _ ⟨?_, rfl⟩
   have h1 := of_decide_eq_true h26
   have e : decide ((c.toNat : Int) ≤ 70) = decide (65 ≤ c.toNat ∧ c.toNat ≤ 70) := decide_eq_decide.2 ⟨fun h => ⟨by omega, by omega⟩, fun h => by omega⟩
   rw [e]
   exact .of rfl
  ·refine G.s1 ?_
   refine G.s1 ?_
   refine G.m4 ?_
   refine G.m2 ?_
   refine G.nil ?_
   refine J5 _ _ ⟨?_, rfl⟩
   have h1 := of_decide_eq_false h26
   have e : decide (65 ≤ c.toNat ∧ c.toNat ≤ 70) = false := decide_eq_false fun h => h1 (by omega)
   rw [e]
   exact .of rfl
 rintro fr' H' ⟨hs1, rfl⟩
 refine GC.weak hs1 ?_
 clear hs1
 refine GC.condD rfl (fun h23 => ?_) (fun h23 => ?_)
 ·refine GC.seq ?_
  refine GC.reg ?_
  refine G.m1 ?_
  refine G.v (V.sub (i := (c.toNat : Int)) (j := 65) rfl rfl) rfl ?_
  rw [wr _ (by omega) (by omega)]
  refine G.v (V.add (i := (c.toNat : Int) - 65) (j := 10) rfl rfl) rfl ?_
  rw [wr _ (by omega) (by omega)]
  refine G.m2 ?_
  refine G.m2 ?_
  refine G.nil ?_
  refine GC.ret2 rfl rfl rfl fun w' hw' => ⟨?_, hw'⟩
  unfold hexR hexV
  rw [if_neg h4, if_neg h13, if_pos h23]
  have e : (c.toNat : Int) - 65 + 10 = ((c.toNat - 55 : Nat) : Int) := by omega
  rw [e]
 refine GC.skip ?_
 refine GC.inBlock ?_
 refine GC.seq ?_
 refine GC.reg ?_
 refine G.m2 ?_
 refine G.m2 ?_
 refine G.nil ?_
 refine GC.ret2 rfl rfl rfl fun w' hw' => ⟨?_, hw'⟩
 unfold hexR hexV
 rw [if_neg h4, if_neg h13, if_neg h23]
theorem _root_.Bw.V.miP {P : Program} {c : Cx} {n : Nat} {fr : SF} {H : SH} {ty t e : TypeId} {x : Operand} {p : Option Addr} (hU : P.underlying t = some (.pointer e)) (hx : ev fr x = some (.pointer p)) : Val P c n (.makeInterface t x) ty fr H (.iface t (.pointer p)) := by
 intro a w ha hw dst pos aft g
 simp [execOp, ha.eval hx, Instr.makeInterface, underlying, hU]
theorem f89_any (w : World) (s : List UInt8) : Calls Try.prog 89 #[S s] w fun e w' => ∃ b, e = .returned (.iface 136 (Pt b 0)) ∧ HF w (fun _ => False) [] w' := by
 refine enter (fun _ => False) [] Try.func89 rfl Try.ntmps89 rfl rfl (HF.start w _) fun c hc => ?_
 subst hc
 have bd : ∀ w1, (Instr.build 138 #[(0, S s)]).run Try.prog w1 = .ok (.agg #[S s]) w1 := fun w1 => by
  simp [Instr.build, Try.zeroValue138, Try.runUnderlying138, Try.sizeOf9, cells_agg, Instr.fill, cells_str]
 refine GC.seq ?_
 refine GC.reg ?_
 refine G.m2 ?_
 refine G.nil ?_
 refine GC.seq ?_
 refine GC.reg ?_
 refine G.m1 ?_
 refine G.v (V.bd (vs := [(0, S s)]) rfl bd) rfl ?_
 refine G.bx (l := [S s]) rfl (by simp [cells_agg]) rfl (fun b hb => ?_)
 refine G.v (V.miP Try.underlying136 rfl) rfl ?_
 refine G.m2 ?_
 refine G.nil ?_
 exact GC.ret1 rfl rfl fun w' hw' => ⟨b, rfl, hw'.sub (List.nil_sublist _)⟩
end Go.Proofs

/- zzQueryUnescape. Printed by wip/mk_gu21.py. -/
set_option maxRecDepth 20000
namespace Go.Proofs
open Go Bw
open Gt
section
variable {P : Program} {c : Cx} {n : Nat} {fr : SF} {H : SH} {ty t u : TypeId} {x y : Operand}
theorem V.shl4 {a : Nat} (h : a < 16) (hx : ev fr x = some (.int .u8 (a : Int))) : Val P c n (.binOp .shl t x (.const (.int .u64 4)) u) ty fr H (.int .u8 ((a * 16 : Nat) : Int)) := by
 intro a1 w ha hw dst pos aft g
 have h1 := ha.eval hx
 have h2 : a1.eval (.const (.int .u64 4)) = .int .u64 4 := rfl
 simp [execOp, h1, h2, eqGuard, binOp, Op.shift]
 have h3 : min 4 IntKind.u8.bits = 4 := rfl
 rw [h3]
 unfold IntKind.wrap
 simp [IntKind.bits, IntKind.signed]
 omega
theorem fin16or : ∀ a : Fin 16, ∀ b : Fin 16, (a.val * 16 ||| b.val) = a.val * 16 + b.val := by decide
theorem V.or4 {a b : Nat} (h : a < 16) (hb : b < 16) (hx : ev fr x = some (.int .u8 ((a * 16 : Nat) : Int))) (hy : ev fr y = some (.int .u8 (b : Int))) : Val P c n (.binOp .or t x y u) ty fr H (.int .u8 ((a * 16 + b : Nat) : Int)) := by
 intro a1 w ha hw dst pos aft g
 have e1 : ((a : Int) * 16 % 2 ^ IntKind.u8.bits).toNat = a * 16 := by
  have : (2 : Int) ^ IntKind.u8.bits = 256 := rfl
  rw [this]; omega
 have e2 : b % 2 ^ IntKind.u8.bits = b := by
  have : (2 : Nat) ^ IntKind.u8.bits = 256 := rfl
  rw [this]; omega
 have e3 := fin16or ⟨a, h⟩ ⟨b, hb⟩
 simp only at e3
 have e4 : IntKind.u8.wrap ((a * 16 + b : Nat) : Int) = (a : Int) * 16 + (b : Int) := by
  unfold IntKind.wrap
  simp [IntKind.bits, IntKind.signed]
  omega
 simp [execOp, ha.eval hx, ha.eval hy, eqGuard, binOp, Op.intBits, e1, e2, e3]
 simpa using e4
end
theorem hexV_lt {c : UInt8} {x : Nat} (h : hexV c = some x) : x < 16 := by
 unfold hexV at h
 split at h
 ·cases h; omega
 ·split at h
  ·cases h; omega
  ·split at h
   ·cases h; omega
   ·cases h
/-- what zzQueryUnescape tells -/
def unE (s : List UInt8) (e : Ending) : Prop := match unesc (s.length + 1) s [] with
 | some x => e = .returned (.tuple #[S x, .nilIface])
 | none => ∃ b, e = .returned (.tuple #[S [], .iface 136 (Pt b 0)])
theorem f87_any (w : World) (s : List UInt8) (hs : s.length ≤ 1000000) : Calls Try.prog 87 #[S s] w fun e w' => unE s e ∧ HF w (fun _ => False) [] w' := by
 refine enter (fun _ => False) [] Try.func87 rfl Try.ntmps87 rfl rfl (HF.start w _) fun c hc => ?_
 subst hc
 obtain ⟨L, hL⟩ : ∃ L, L = unesc (s.length + 1) s [] := ⟨_, rfl⟩
 refine GC.seq ?_
 refine GC.reg ?_
 refine G.m2 ?_
 refine G.m2 ?_
 refine G.nil ?_
 refine GC.seq ?_
 refine GC.reg ?_
 refine G.m2 ?_
 refine G.nil ?_
 refine GC.seq ?_
 refine GC.seq ?_
 refine GC.reg ?_
 refine G.m2 ?_
 refine G.nil ?_
 refine GC.block ?_
 refine GC.loopJ (fun N fr' H' => ∃ i out sv Hs g, i + N = s.length ∧ Own 5 1 sv out.length (bC out) Hs ∧ L = unesc (g + 1) (s.drop i) out ∧ s.length ≤ i + g ∧ out.length ≤ i ∧ Sub [(0, S s), (4, sv), (5, I (i : Nat))] fr' ∧ Hs = H') s.length
  ⟨0, [], .slice none 0 0, [], s.length, by omega, Own.nil, hL, by omega, by simp, .of rfl, rfl⟩ ?_
 rintro N fr' H' ⟨i, out, sv, Hs, g, hi, hown, hun, hg, hol, hs2, rfl⟩ ih
 refine GC.weak hs2 ?_
 clear hs2
 refine GC.seq ?_
 refine GC.seq ?_
 refine GC.reg ?_
 refine G.m1 ?_
 refine G.m1 ?_
 refine G.v (V.lenS Try.underlying9 rfl) rfl ?_
 refine G.v (V.lt rfl rfl) rfl ?_
 refine G.nil ?_
 refine GC.condD rfl (fun h13 => ?_) (fun h13 => ?_)
 ·refine GC.skip ?_
  refine GC.seq ?_
  refine GC.block ?_
  refine GC.block ?_
  refine GC.seq ?_
  have hil : i < s.length := by omega
  obtain ⟨x, hx⟩ : ∃ x, s[i]? = some x := ⟨_, List.getElem?_eq_getElem hil⟩
  have hd := drop_cons hx
  obtain ⟨g, rfl⟩ : ∃ g2, g = g2 + 1 := ⟨g - 1, by omega⟩
  rw [hd] at hun
  unfold unesc at hun
  refine GC.reg ?_
  refine G.m1 ?_
  refine G.m1 ?_
  refine G.v (V.idx (i := i) (b := x) Try.underlying9 rfl rfl hx) rfl ?_
  refine G.v (V.eqI rfl rfl) rfl ?_
  refine G.m2 ?_
  refine G.nil ?_
  refine GC.condD rfl (fun h48 => ?_) (fun h48 => ?_)
  ·have hx43 : x = 43 := u_eq (k := 43) (by have := h48; omega) (by omega)
   rw [if_pos hx43] at hun
   refine GC.reg ?_
   refine G.m1 ?_
   refine G.bs (BS.one Try.underlying68 Try.sizeOf5 Try.zeroValue5 (v := .int .u8 (32 : Int)) rfl) rfl rfl (fun sb hsb => ?_)
   refine G.app (i := Try.t5) (sz := 1) (by_ := 1) Try.underlying68 rfl rfl rfl rfl rfl rfl rfl hown (H' := [⟨sb, true, .row [.int .u8 (32 : Int)] 5 (0, 0)⟩]) (List.perm_append_comm (l₁ := ([⟨sb, true, .row [.int .u8 (32 : Int)] 5 (0, 0)⟩] : SH))) (src_row (vs := [.int .u8 (32 : Int)]) (r := []) (.head _)) rfl (by simp [Value.oneCell']) (by omega) (by omega) (by omega) rfl (fun sv2 Hs2 hown2 => ?_)
   refine G.m2 ?_
   refine G.nil ?_
   refine GC.turn (H' := Hs2) (fun w1 h1 => h1.sub (List.sublist_cons_self _ _)) ?_
   have hown3 : Own 5 1 sv2 (out ++ [32]).length (bC (out ++ [32])) Hs2 := by
    rw [List.length_append, bC_app]
    exact hown2
   refine GC.inBlock ?_
   refine GC.inBlock ?_
   refine GC.reg ?_
   refine G.m1 ?_
   refine G.v (V.addI (r := ((i + 1 : Nat) : Int)) rfl rfl (by omega) (by omega) (by omega)) rfl ?_
   refine G.m2 ?_
   refine G.nil ?_
   exact ih (N - 1) _ _ (by omega) ⟨i + 1, out ++ [32], sv2, Hs2, g, by omega, hown3, hun, by omega, by simp; omega, .of rfl, rfl⟩
  refine GC.seq ?_
  have hx43 : x ≠ 43 := fun e => h48 (by rw [e]; rfl)
  rw [if_neg hx43] at hun
  refine GC.reg ?_
  refine G.m1 ?_
  refine G.m1 ?_
  refine G.v (V.idx (i := i) (b := x) Try.underlying9 rfl rfl hx) rfl ?_
  refine G.v (V.neI rfl rfl) rfl ?_
  refine G.m2 ?_
  refine G.nil ?_
  refine GC.cond rfl (fun h56 => ?_) (fun h56 => ?_)
  ·have hx37 : x ≠ 37 := fun e => by
    rw [e] at h56; exact absurd h56 (by decide)
   rw [if_pos hx37] at hun
   refine GC.reg ?_
   refine G.m1 ?_
   refine G.m1 ?_
   refine G.m1 ?_
   refine G.v (V.idx (i := i) (b := x) Try.underlying9 rfl rfl hx) rfl ?_
   refine G.bs (BS.one Try.underlying68 Try.sizeOf5 Try.zeroValue5 (v := .int .u8 (x.toNat : Int)) rfl) rfl rfl (fun sb hsb => ?_)
   refine G.app (i := Try.t5) (sz := 1) (by_ := 1) Try.underlying68 rfl rfl rfl rfl rfl rfl rfl hown (H' := [⟨sb, true, .row [.int .u8 (x.toNat : Int)] 5 (0, 0)⟩]) (List.perm_append_comm (l₁ := ([⟨sb, true, .row [.int .u8 (x.toNat : Int)] 5 (0, 0)⟩] : SH))) (src_row (vs := [.int .u8 (x.toNat : Int)]) (r := []) (.head _)) rfl (by simp [Value.oneCell']) (by omega) (by omega) (by omega) rfl (fun sv2 Hs2 hown2 => ?_)
   refine G.m2 ?_
   refine G.nil ?_
   refine GC.turn (H' := Hs2) (fun w1 h1 => h1.sub (List.sublist_cons_self _ _)) ?_
   have hown3 : Own 5 1 sv2 (out ++ [x]).length (bC (out ++ [x])) Hs2 := by
    rw [List.length_append, bC_app]
    exact hown2
   refine GC.inBlock ?_
   refine GC.inBlock ?_
   refine GC.reg ?_
   refine G.m1 ?_
   refine G.v (V.addI (r := ((i + 1 : Nat) : Int)) rfl rfl (by omega) (by omega) (by omega)) rfl ?_
   refine G.m2 ?_
   refine G.nil ?_
   exact ih (N - 1) _ _ (by omega) ⟨i + 1, out ++ [x], sv2, Hs2, g, by omega, hown3, hun, by omega, by simp; omega, .of rfl, rfl⟩
  refine GC.seq ?_
  have hx37 : x = 37 := u_eq (k := 37) (by simpa using h56) (by omega)
  rw [if_neg (fun h => h hx37)] at hun
  refine GC.reg ?_
  refine G.m1 ?_
  refine G.v (V.addI (r := ((i + 2 : Nat) : Int)) rfl rfl (by omega) (by omega) (by omega)) rfl ?_
  refine G.m1 ?_
  refine G.v (V.lenS Try.underlying9 rfl) rfl ?_
  refine G.v (V.ge rfl rfl) rfl ?_
  refine G.m2 ?_
  refine G.nil ?_
  refine GC.condD rfl (fun h67 => ?_) (fun h67 => ?_)
  ·refine GC.seq ?_
   have hnone : L = none := by
    rw [hun]
    have hl : (s.drop (i + 1)).length ≤ 1 := by rw [List.length_drop]; omega
    cases hdd : s.drop (i + 1) with
    | nil => rfl
    | cons a r =>
     rw [hdd] at hl
     cases r with
     | nil => rfl
     | cons b r => simp at hl
   refine GC.reg ?_
   refine G.callW (fun v H2 => ∃ b, v = .iface 136 (Pt b 0) ∧ H2 = Hs) Try.call89 rfl rfl (fun w1 hw1 => (f89_any w1 _).mono fun e w' ⟨b, h1, h2⟩ => ⟨_, _, h1, hw1.after0 h2 (by simp), b, rfl, rfl⟩) ?_
   rintro v H2 ⟨eb, rfl, e2⟩
   rw [e2]
   refine G.m2 ?_
   refine G.m2 ?_
   refine G.nil ?_
   refine GC.ret2 rfl rfl rfl fun w' hw' => ⟨?_, hw'.sub (List.nil_sublist _)⟩
   unfold unE
   rw [← hL, hnone]
   exact ⟨eb, rfl⟩
  refine GC.seq ?_
  have hil2 : i + 2 < s.length := by omega
  obtain ⟨a, ha⟩ : ∃ a, s[i + 1]? = some a := ⟨_, List.getElem?_eq_getElem (by omega)⟩
  obtain ⟨b, hb⟩ : ∃ b, s[i + 2]? = some b := ⟨_, List.getElem?_eq_getElem hil2⟩
  rw [drop_cons ha, drop_cons hb] at hun
  dsimp only at hun
  refine GC.reg ?_
  refine G.m1 ?_
  refine G.m1 ?_
  refine G.v (V.addI (r := ((i + 1 : Nat) : Int)) rfl rfl (by omega) (by omega) (by omega)) rfl ?_
  refine G.v (V.idx (i := i + 1) (b := a) Try.underlying9 rfl rfl ha) rfl ?_
  obtain ⟨xa, oa, hva, hoa⟩ : ∃ (x : Nat) (o : Bool), hexR a = .tuple #[.int .u8 (x : Int), .bool o] ∧ ((o = true ∧ hexV a = some x) ∨ (o = false ∧ hexV a = none)) := by
   unfold hexR
   cases hexV a with
   | none => exact ⟨0, false, rfl, .inr ⟨rfl, rfl⟩⟩
   | some x => exact ⟨x, true, rfl, .inl ⟨rfl, rfl⟩⟩
  refine G.callP (v := .tuple #[.int .u8 (xa : Int), .bool oa]) Try.call90 rfl rfl (fun w1 hw1 => by have := f90_any w1 a; rw [hva] at this; exact this) ?_
  refine G.m1 ?_
  refine G.v (V.ex rfl rfl) rfl ?_
  refine G.v (V.ex rfl rfl) rfl ?_
  refine G.m2 ?_
  refine G.m2 ?_
  refine G.nil ?_
  refine GC.seq ?_
  refine GC.reg ?_
  refine G.m1 ?_
  refine G.m1 ?_
  refine G.v (V.addI (r := ((i + 2 : Nat) : Int)) rfl rfl (by omega) (by omega) (by omega)) rfl ?_
  refine G.v (V.idx (i := i + 2) (b := b) Try.underlying9 rfl rfl hb) rfl ?_
  obtain ⟨xb, ob, hvb, hob⟩ : ∃ (x : Nat) (o : Bool), hexR b = .tuple #[.int .u8 (x : Int), .bool o] ∧ ((o = true ∧ hexV b = some x) ∨ (o = false ∧ hexV b = none)) := by
   unfold hexR
   cases hexV b with
   | none => exact ⟨0, false, rfl, .inr ⟨rfl, rfl⟩⟩
   | some x => exact ⟨x, true, rfl, .inl ⟨rfl, rfl⟩⟩
  refine G.callP (v := .tuple #[.int .u8 (xb : Int), .bool ob]) Try.call90 rfl rfl (fun w1 hw1 => by have := f90_any w1 b; rw [hvb] at this; exact this) ?_
  refine G.m1 ?_
  refine G.v (V.ex rfl rfl) rfl ?_
  refine G.v (V.ex rfl rfl) rfl ?_
  refine G.m2 ?_
  refine G.m2 ?_
  refine G.nil ?_
  refine GC.seq ?_
  refine GC.seq ?_
  refine GC.join (fun fr' H' => Sub [(0, S s), (4, sv), (5, I (i : Nat)), (6, .int .u8 (xa : Int)), (8, .int .u8 (xb : Int)), (37, .bool (!oa || !ob))] fr' ∧ Hs = H') (fun J7 => ?_) ?_
  ·refine GC.reg ?_
   refine G.m1 ?_
   refine G.v (V.not rfl) rfl ?_
   refine G.m1 ?_
   refine G.bc 34 rfl (fun h34 => ?_) (fun h34 => ?_)
   ·refine G.s1 ?_
    refine G.s1 ?_
    refine G.m3 ?_
    refine G.nil ?_
    refine J7 _ _ ⟨?_, rfl⟩
    rw [h34, Bool.true_or]
    exact .of rfl
   ·refine G.m5 ?_
    refine G.vg rfl rfl (V.not rfl) rfl ?_
    refine G.m4 ?_
    refine G.nil ?_
    refine J7 _ _ ⟨?_, rfl⟩
    rw [h34, Bool.false_or]
    exact .of rfl
  rintro fr' H' ⟨hs7, rfl⟩
  refine GC.weak hs7 ?_
  clear hs7
  refine GC.cond rfl (fun h37 => ?_) (fun h37 => ?_)
  ·refine GC.seq ?_
   have hnone : L = none := by
    rw [hun]
    rcases hoa with ⟨rfl, e1⟩ | ⟨rfl, e1⟩
    ·rcases hob with ⟨rfl, e2⟩ | ⟨rfl, e2⟩
     ·simp at h37
     ·rw [e1, e2]
    ·rw [e1]
   refine GC.reg ?_
   refine G.callW (fun v H2 => ∃ b, v = .iface 136 (Pt b 0) ∧ H2 = Hs) Try.call89 rfl rfl (fun w1 hw1 => (f89_any w1 _).mono fun e w' ⟨b, h1, h2⟩ => ⟨_, _, h1, hw1.after0 h2 (by simp), b, rfl, rfl⟩) ?_
   rintro v H2 ⟨eb, rfl, e2⟩
   rw [e2]
   refine G.m2 ?_
   refine G.m2 ?_
   refine G.nil ?_
   refine GC.ret2 rfl rfl rfl fun w' hw' => ⟨?_, hw'.sub (List.nil_sublist _)⟩
   unfold unE
   rw [← hL, hnone]
   exact ⟨eb, rfl⟩
  refine GC.skip ?_
  refine GC.seq ?_
  obtain ⟨e1, e2⟩ : hexV a = some xa ∧ hexV b = some xb := by
   rcases hoa with ⟨rfl, e1⟩ | ⟨rfl, e1⟩
   ·rcases hob with ⟨rfl, e2⟩ | ⟨rfl, e2⟩
    ·exact ⟨e1, e2⟩
    ·simp at h37
   ·simp at h37
  rw [e1, e2] at hun
  dsimp only at hun
  have hxa := hexV_lt e1
  have hxb := hexV_lt e2
  refine GC.reg ?_
  refine G.m1 ?_
  refine G.m1 ?_
  refine G.v (V.shl4 hxa rfl) rfl ?_
  refine G.m1 ?_
  refine G.v (V.or4 hxa hxb rfl rfl) rfl ?_
  refine G.bs (BS.one Try.underlying68 Try.sizeOf5 Try.zeroValue5 (v := .int .u8 ((xa * 16 + xb : Nat) : Int)) rfl) rfl rfl (fun sb hsb => ?_)
  refine G.app (i := Try.t5) (sz := 1) (by_ := 1) Try.underlying68 rfl rfl rfl rfl rfl rfl rfl hown (H' := [⟨sb, true, .row [.int .u8 ((xa * 16 + xb : Nat) : Int)] 5 (0, 0)⟩]) (List.perm_append_comm (l₁ := ([⟨sb, true, .row [.int .u8 ((xa * 16 + xb : Nat) : Int)] 5 (0, 0)⟩] : SH))) (src_row (vs := [.int .u8 ((xa * 16 + xb : Nat) : Int)]) (r := []) (.head _)) rfl (by simp [Value.oneCell']) (by omega) (by omega) (by omega) rfl (fun sv2 Hs2 hown2 => ?_)
  refine G.m2 ?_
  refine G.nil ?_
  refine GC.turn (H' := Hs2) (fun w1 h1 => h1.sub (List.sublist_cons_self _ _)) ?_
  have hown3 : Own 5 1 sv2 (out ++ [UInt8.ofNat (xa * 16 + xb)]).length (bC (out ++ [UInt8.ofNat (xa * 16 + xb)])) Hs2 := by
   have e3 : (bC [UInt8.ofNat (xa * 16 + xb)]) = [.int .u8 ((xa * 16 + xb : Nat) : Int)] := by
    have : (UInt8.ofNat (xa * 16 + xb)).toNat = xa * 16 + xb := by simp; omega
    simp only [bC, Lib.byteCells, List.map_cons, List.map_nil, this]
   rw [List.length_append, bC_app, e3]
   exact hown2
  refine GC.reg ?_
  refine G.m1 ?_
  refine G.v (V.addI (r := ((i + 2 : Nat) : Int)) rfl rfl (by omega) (by omega) (by omega)) rfl ?_
  refine G.m2 ?_
  refine G.nil ?_
  refine GC.inBlock ?_
  refine GC.inBlock ?_
  refine GC.reg ?_
  refine G.m1 ?_
  refine G.v (V.addI (r := ((i + 3 : Nat) : Int)) rfl rfl (by omega) (by omega) (by omega)) rfl ?_
  refine G.m2 ?_
  refine G.nil ?_
  exact ih (N - 3) _ _ (by omega) ⟨i + 3, out ++ [UInt8.ofNat (xa * 16 + xb)], sv2, Hs2, g, by omega, hown3, hun, by omega, by simp; omega, .of rfl, rfl⟩
 refine GC.exit rfl ?_
 refine GC.seq ?_
 refine GC.reg ?_
 refine G.m1 ?_
 refine G.v (V.cvOwn Try.underlying68 Try.underlying5 Try.underlying9 rfl hown (by simp)) rfl ?_
 refine G.m2 ?_
 refine G.m2 ?_
 refine G.nil ?_
 have hie : i = s.length := by omega
 refine GC.ret2 rfl rfl rfl fun w' hw' => ⟨?_, hw'.sub (List.nil_sublist _)⟩
 unfold unE
 rw [← hL, hun, hie, List.drop_length]
 rfl
end Go.Proofs
