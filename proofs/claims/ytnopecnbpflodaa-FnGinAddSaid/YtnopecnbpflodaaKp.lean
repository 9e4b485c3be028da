/- Plain facts on texts. -/
/- Cleaned paths: the parts of a path, and what cleaning leaves of them. No program in sight. -/
namespace Gs

/-- the parts between slashes -/
def secs : List UInt8 → List (List UInt8)
  | [] => [[]]
  | c :: t => if c = 47 then [] :: secs t else (c :: (secs t).headD []) :: (secs t).tail
def pstep (ps : List (List UInt8)) (s : List UInt8) : List (List UInt8) :=
  if s = [] ∨ s = [46] then ps else if s = [46, 46] then ps.dropLast else ps ++ [s]
def pfold (ps : List (List UInt8)) (l : List (List UInt8)) : List (List UInt8) := l.foldl pstep ps
/-- parts behind slashes -/
def slj : List (List UInt8) → List UInt8
  | [] => []
  | p :: ps => 47 :: (p ++ slj ps)
/-- the bytes of a cleaned path without the slash at its end -/
def pout (ps : List (List UInt8)) : List UInt8 := if ps = [] then [47] else slj ps
def tr (l : List (List UInt8)) : Bool := match l.getLast? with | some s => decide (s = [46] ∨ (s = [] ∧ 1 < l.length)) | none => false
def clean (p : List UInt8) : List UInt8 :=
  let ps := pfold [] (secs p)
  pout ps ++ (if tr (secs p) ∧ ps ≠ [] then [47] else [])

theorem secs_ne : ∀ p, secs p ≠ []
  | [] => by simp [secs]
  | c :: t => by unfold secs; split <;> simp
theorem secs_cons {c : UInt8} {t : List UInt8} (h : c ≠ 47) : ∃ a l, secs t = a :: l ∧ secs (c :: t) = (c :: a) :: l := by
  cases hs : secs t with
  | nil => exact absurd hs (secs_ne t)
  | cons a l => exact ⟨a, l, rfl, by simp [secs, h, hs]⟩
theorem secs_slash (t : List UInt8) : secs (47 :: t) = [] :: secs t := by simp [secs]
theorem secs_plain : ∀ {e : List UInt8}, 47 ∉ e → secs e = [e]
  | [], _ => rfl
  | c :: e, h => by
    have hc : c ≠ 47 := fun h2 => h (by simp [h2])
    have he : 47 ∉ e := fun h2 => h (.tail _ h2)
    obtain ⟨a, l, h1, h2⟩ := secs_cons (t := e) hc
    rw [secs_plain he] at h1
    cases h1
    rw [h2]
theorem secs_app : ∀ (a b : List UInt8), secs (a ++ 47 :: b) = secs a ++ secs b
  | [], b => by simp [secs]
  | c :: a, b => by
    have ih := secs_app a b
    by_cases hc : c = 47
    · subst hc; rw [List.cons_append, secs_slash, secs_slash, ih]; rfl
    · obtain ⟨x, l, h1, h2⟩ := secs_cons (t := a) hc
      obtain ⟨y, m, h3, h4⟩ := secs_cons (t := a ++ 47 :: b) hc
      rw [List.cons_append, h4, h2]
      rw [ih, h1] at h3
      cases h3
      rfl
theorem secs_elem {e t : List UInt8} (he : 47 ∉ e) : secs (e ++ 47 :: t) = e :: secs t := by rw [secs_app, secs_plain he]; rfl
theorem secs_mem : ∀ {p s : List UInt8}, s ∈ secs p → 47 ∉ s
  | [], s, h => by rw [secs, List.mem_singleton] at h; subst h; simp
  | c :: t, s, h => by
    by_cases hc : c = 47
    · subst hc
      rw [secs_slash] at h
      rcases List.mem_cons.1 h with rfl | h
      · simp
      · exact secs_mem h
    · obtain ⟨a, l, h1, h2⟩ := secs_cons (t := t) hc
      rw [h2] at h
      rcases List.mem_cons.1 h with rfl | h
      · have := secs_mem (p := t) (s := a) (by rw [h1]; exact .head _)
        intro h3
        rcases List.mem_cons.1 h3 with h3 | h3
        · exact hc h3.symm
        · exact this h3
      · exact secs_mem (p := t) (by rw [h1]; exact .tail _ h)
theorem secs_len (p : List UInt8) : (secs p).length ≤ p.length + 1 := by
  induction p with
  | nil => simp [secs]
  | cons c t ih =>
    by_cases hc : c = 47
    · subst hc; rw [secs_slash]; simp; omega
    · obtain ⟨a, l, h1, h2⟩ := secs_cons (t := t) hc
      rw [h2]; rw [h1] at ih; simp at ih ⊢; omega
theorem secs_bytes : ∀ {p s : List UInt8}, s ∈ secs p → s.length ≤ p.length
  | [], s, h => by rw [secs, List.mem_singleton] at h; subst h; simp
  | c :: t, s, h => by
    by_cases hc : c = 47
    · subst hc
      rw [secs_slash] at h
      rcases List.mem_cons.1 h with rfl | h
      · simp
      · have := secs_bytes h; simp; omega
    · obtain ⟨a, l, h1, h2⟩ := secs_cons (t := t) hc
      rw [h2] at h
      rcases List.mem_cons.1 h with rfl | h
      · have := secs_bytes (p := t) (s := a) (by rw [h1]; exact .head _); simp; omega
      · have := secs_bytes (p := t) (by rw [h1]; exact .tail _ h); simp; omega
theorem pfold_app (ps l m) : pfold ps (l ++ m) = pfold (pfold ps l) m := List.foldl_append ..
theorem pfold_cons (ps s l) : pfold ps (s :: l) = pfold (pstep ps s) l := rfl
/-- what parts may stand -/
def okP (s : List UInt8) : Prop := s ≠ [] ∧ s ≠ [46] ∧ s ≠ [46, 46] ∧ 47 ∉ s
theorem pstep_ok {ps s} (h : ∀ x ∈ ps, okP x) (hs : 47 ∉ s) : ∀ x ∈ pstep ps s, okP x := by
  unfold pstep
  intro x hx
  split at hx
  · exact h x hx
  · rename_i h1
    split at hx
    · exact h x (List.dropLast_subset _ hx)
    · rename_i h2
      rcases List.mem_append.1 hx with hx | hx
      · exact h x hx
      · rw [List.mem_singleton.1 hx]
        exact ⟨fun e => h1 (.inl e), fun e => h1 (.inr e), h2, hs⟩
theorem pfold_ok : ∀ {l ps}, (∀ x ∈ ps, okP x) → (∀ s ∈ l, 47 ∉ s) → ∀ x ∈ pfold ps l, okP x
  | [], _, h, _ => h
  | s :: l, ps, h, hl => by
    rw [pfold_cons]
    exact pfold_ok (pstep_ok h (hl s (.head _))) fun t ht => hl t (.tail _ ht)
theorem pstep_push {ps s} (h : okP s) : pstep ps s = ps ++ [s] := by
  unfold pstep; rw [if_neg (by rintro (e | e); exact h.1 e; exact h.2.1 e), if_neg h.2.2.1]
theorem pfold_push : ∀ {l ps}, (∀ x ∈ l, okP x) → pfold ps l = ps ++ l
  | [], ps, _ => by simp [pfold]
  | s :: l, ps, h => by
    rw [pfold_cons, pstep_push (h s (.head _)), pfold_push fun x hx => h x (.tail _ hx)]; simp
theorem slj_app : ∀ a b, slj (a ++ b) = slj a ++ slj b
  | [], b => rfl
  | p :: a, b => by simp [slj, slj_app a b]
theorem slj_secs : ∀ {ps : List (List UInt8)}, (∀ x ∈ ps, 47 ∉ x) → ps ≠ [] → secs (slj ps) = [] :: ps
  | [p], h, _ => by
    simp only [slj, List.append_nil]
    rw [secs_slash, secs_plain (h p (.head _))]
  | p :: q :: ps, h, _ => by
    have ih := slj_secs (ps := q :: ps) (fun x hx => h x (.tail _ hx)) (by simp)
    rw [slj, secs_slash]
    have e : slj (q :: ps) = 47 :: (q ++ slj ps) := rfl
    rw [e] at ih ⊢
    rw [secs_slash] at ih
    rw [secs_elem (h p (.head _))]
    simp only [List.cons.injEq, true_and] at ih
    rw [ih]
theorem pout_secs {ps : List (List UInt8)} (h : ∀ x ∈ ps, okP x) : ∃ l, secs (pout ps) = [] :: l ∧ pfold [] (secs (pout ps)) = ps ∧ (ps ≠ [] → l = ps) := by
  by_cases he : ps = []
  · subst he
    exact ⟨[[]], by simp [pout, secs], by simp [pout, secs, pfold, pstep], fun h => absurd rfl h⟩
  · unfold pout
    rw [if_neg he, slj_secs (fun x hx => (h x hx).2.2.2) he]
    refine ⟨ps, rfl, ?_, fun _ => rfl⟩
    rw [pfold_cons]
    have : pstep [] [] = ([] : List (List UInt8)) := by simp [pstep]
    rw [this, pfold_push h]; rfl
theorem clean_parts (p : List UInt8) : (∀ x ∈ pfold [] (secs p), okP x) := pfold_ok (by simp) fun _ h => secs_mem h
theorem clean_secs (p : List UInt8) : ∃ l : List (List UInt8), secs (clean p) = [] :: l ∧ pfold [] (secs (clean p)) = pfold [] (secs p) ∧ (tr (secs (clean p)) = true ∧ pfold [] (secs p) ≠ [] ↔ tr (secs p) = true ∧ pfold [] (secs p) ≠ []) ∧ (∀ x ∈ l.dropLast, x ≠ []) := by
  have hok := clean_parts p
  unfold clean
  simp only
  generalize pfold [] (secs p) = ps at hok
  obtain ⟨l, h1, h2, h3⟩ := pout_secs hok
  by_cases hc : tr (secs p) = true ∧ ps ≠ []
  · rw [if_pos hc]
    have e : secs (pout ps ++ [47]) = [] :: (ps ++ [[]]) := by
      rw [secs_app, h1, h3 hc.2]; rfl
    refine ⟨ps ++ [[]], e, ?_, ⟨fun _ => hc, fun _ => ⟨?_, hc.2⟩⟩, ?_⟩
    · rw [e, ← List.cons_append, pfold_app]
      rw [h1, h3 hc.2] at h2
      rw [h2]; simp [pfold, pstep]
    · rw [e]
      have h9 : (([] : List UInt8) :: (ps ++ [[]])).getLast? = some [] := by rw [← List.cons_append, List.getLast?_append]; rfl
      simp only [tr, h9]
      simp
    · simpa using fun x hx => (hok x hx).1
  · rw [if_neg hc, List.append_nil]
    refine ⟨l, h1, h2, ⟨fun h => ?_, fun h => absurd h hc⟩, ?_⟩
    · exfalso
      have hne := h.2
      have h4 := h.1
      rw [h1, h3 hne] at h4
      obtain ⟨x, hx⟩ : ∃ x, ps.getLast? = some x := ⟨_, List.getLast?_eq_some_getLast hne⟩
      have hxm : x ∈ ps := List.mem_of_getLast? hx
      have : ([] :: ps).getLast? = some x := by
        cases ps with
        | nil => exact absurd rfl hne
        | cons a b => rw [List.getLast?_cons_cons]; exact hx
      simp only [tr, this] at h4
      have := hok x hxm
      have h5 := of_decide_eq_true h4
      rcases h5 with h5 | h5
      · exact this.2.1 h5
      · exact this.1 h5.1
    · by_cases he : ps = []
      · subst he
        have : pout [] = [47] := rfl
        rw [this] at h1
        simp [secs] at h1
        subst h1
        simp
      · rw [h3 he]
        exact fun x hx => (hok x (List.dropLast_subset _ hx)).1
theorem clean_eq {p q : List UInt8} (h1 : pfold [] (secs q) = pfold [] (secs p)) (h2 : tr (secs q) = true ∧ pfold [] (secs p) ≠ [] ↔ tr (secs p) = true ∧ pfold [] (secs p) ≠ []) : clean q = clean p := by
  unfold clean
  simp only [h1]
  by_cases hc : tr (secs p) = true ∧ pfold [] (secs p) ≠ []
  · rw [if_pos hc, if_pos (h2.2 hc)]
  · rw [if_neg hc, if_neg fun h => hc (h2.1 h)]
theorem clean_clean (p : List UInt8) : clean (clean p) = clean p := by
  obtain ⟨l, _, h2, h3, _⟩ := clean_secs p
  exact clean_eq h2 h3
theorem tr_app {a b : List (List UInt8)} (hb : b ≠ []) (ha : a ≠ []) (hl : ∀ x, b.getLast? = some x → x = [] → 1 < b.length) : tr (a ++ b) = tr b := by
  obtain ⟨x, hx⟩ : ∃ x, b.getLast? = some x := ⟨_, List.getLast?_eq_some_getLast hb⟩
  have h1 : (a ++ b).getLast? = some x := by rw [List.getLast?_append, hx]; rfl
  simp only [tr, h1, hx]
  have : 0 < a.length := List.length_pos_iff.2 ha
  have h2 : 0 < b.length := List.length_pos_iff.2 hb
  have := hl x hx
  rw [decide_eq_decide]
  simp only [List.length_append]
  constructor
  · rintro (h | h)
    · exact .inl h
    · exact .inr ⟨h.1, this h.1⟩
  · rintro (h | h)
    · exact .inl h
    · exact .inr ⟨h.1, by omega⟩
/-- something is put behind a slash, which the steps do away with -/
theorem clean_put {p a b x : List UInt8} (hp : p = a ++ 47 :: b) (hb : b ≠ []) (hx : ∀ ps, pfold ps (secs x) = ps) : clean (a ++ 47 :: (x ++ 47 :: b)) = clean p := by
  have e1 : secs (a ++ 47 :: (x ++ 47 :: b)) = secs a ++ (secs x ++ secs b) := by rw [secs_app, secs_app]
  have e2 : secs p = secs a ++ secs b := by rw [hp, secs_app]
  have hl : ∀ y, (secs b).getLast? = some y → y = [] → 1 < (secs b).length := by
    intro y hy he
    cases hs : secs b with
    | nil => exact absurd hs (secs_ne b)
    | cons u v =>
      cases v with
      | cons _ _ => simp
      | nil =>
        rw [hs] at hy
        simp at hy
        subst he; subst hy
        exfalso
        cases b with
        | nil => exact hb rfl
        | cons c t =>
          by_cases hc : c = 47
          · subst hc; rw [secs_slash] at hs
            simp only [List.cons.injEq, true_and] at hs
            exact secs_ne t hs
          · obtain ⟨_, _, _, h2⟩ := secs_cons (t := t) hc
            rw [h2] at hs; simp at hs
  refine clean_eq ?_ ?_
  · rw [e1, e2, pfold_app, pfold_app, pfold_app, hx]
  · rw [e1, e2, ← List.append_assoc, tr_app (secs_ne b) (by simp [secs_ne]) hl, tr_app (secs_ne b) (secs_ne a) hl]
end Gs
namespace Gs
/-! the steps of the program's loop -/
def ld (p : List UInt8) : Prop := (secs p).getLast? = some [46]
theorem ld_slash (e t : List UInt8) : ld (e ++ 47 :: t) ↔ ld t := by
  unfold ld
  rw [secs_app, List.getLast?_append]
  cases h : (secs t).getLast? with
  | none => exact absurd (List.getLast?_eq_none_iff.1 h) (secs_ne t)
  | some x => simp
theorem ld_plain {e : List UInt8} (h : 47 ∉ e) : ld e ↔ e = [46] := by
  unfold ld; rw [secs_plain h]; simp
theorem tr_iff (p : List UInt8) : tr (secs p) = true ↔ ld p ∨ p.getLast? = some 47 := by
  unfold ld
  obtain ⟨x, hx⟩ : ∃ x, (secs p).getLast? = some x := ⟨_, List.getLast?_eq_some_getLast (secs_ne p)⟩
  simp only [tr, hx, decide_eq_true_eq, Option.some.injEq]
  refine or_congr Iff.rfl ?_
  rcases List.eq_nil_or_concat p with rfl | ⟨q, c, rfl⟩
  · simp [secs]
  · by_cases hc : c = 47
    · subst hc
      rw [List.concat_eq_append] at hx ⊢
      rw [secs_app] at hx ⊢
      have h0 := List.length_pos_iff.2 (secs_ne q)
      simp only [secs, List.getLast?_append, List.getLast?_singleton, Option.some_or, Option.some.injEq] at hx
      subst hx
      simp [secs, h0]
    · rw [List.concat_eq_append] at hx ⊢
      simp only [List.getLast?_append, List.getLast?_singleton, Option.some_or, Option.some.injEq]
      refine ⟨fun h => ?_, fun h => absurd h hc⟩
      exfalso
      obtain ⟨h1, h2⟩ := h
      subst h1
      have key : ∀ (q : List UInt8), (secs (q ++ [c])).getLast? ≠ some [] := by
        intro q
        induction q with
        | nil => simp [secs, hc]
        | cons a q ih =>
          by_cases ha : a = 47
          · subst ha
            rw [List.cons_append, secs_slash]
            cases hs : secs (q ++ [c]) with
            | nil => exact absurd hs (secs_ne _)
            | cons u v => rw [hs] at ih; rw [List.getLast?_cons_cons]; exact ih
          · obtain ⟨u, v, h3, h4⟩ := secs_cons (t := q ++ [c]) ha
            rw [List.cons_append, h4]
            rw [h3] at ih
            cases v with
            | nil => simp
            | cons v1 v2 => rw [List.getLast?_cons_cons]; rw [List.getLast?_cons_cons] at ih; exact ih
      exact key q hx
theorem pf_slash (ps e t) (h : 47 ∉ e) : pfold ps (secs (e ++ 47 :: t)) = pfold (pstep ps e) (secs t) := by rw [secs_elem h, pfold_cons]
theorem pf_plain (ps) {e : List UInt8} (h : 47 ∉ e) : pfold ps (secs e) = pstep ps e := by rw [secs_plain h]; rfl
theorem pf_nil (ps) : pfold ps (secs []) = ps := by simp [secs, pfold, pstep]
theorem pf_cons (ps t) : pfold ps (secs (47 :: t)) = pfold ps (secs t) := by rw [secs_slash, pfold_cons]; simp [pstep]
theorem pout_one {ps : List (List UInt8)} (h : ∀ x ∈ ps, okP x) : 1 ≤ (pout ps).length ∧ (1 < (pout ps).length ↔ ps ≠ []) := by
  unfold pout
  cases ps with
  | nil => simp
  | cons a l =>
    have := (h a (.head _)).1
    have h1 : 0 < a.length := List.length_pos_iff.2 this
    simp [slj]; omega
theorem pout_push {ps : List (List UInt8)} (e : List UInt8) : pout (ps ++ [e]) = (if ps = [] then [47] else pout ps ++ [47]) ++ e := by
  unfold pout
  rw [if_neg (by simp), slj_app]
  by_cases h : ps = []
  · subst h; simp [slj]
  · rw [if_neg h, if_neg h]; simp [slj]
/-- what stands behind the part that is taken back -/
theorem pout_back {ps : List (List UInt8)} (h : ∀ x ∈ ps, okP x) (hne : ps ≠ []) : (pout ps).take (pout ps.dropLast).length = pout ps.dropLast ∧ (pout ps.dropLast).length < (pout ps).length ∧
    (∀ i c, (pout ps.dropLast).length < i → (pout ps)[i]? = some c → c ≠ 47) ∧ (1 < (pout ps.dropLast).length → (pout ps)[(pout ps.dropLast).length]? = some 47) := by
  obtain ⟨qs, e, rfl⟩ : ∃ qs e, ps = qs ++ [e] := by
    rcases List.eq_nil_or_concat ps with h | ⟨q, e, h⟩
    · exact absurd h hne
    · exact ⟨q, e, by rw [h, List.concat_eq_append]⟩
  have he := h e (by simp)
  have hq : ∀ x ∈ qs, okP x := fun x hx => h x (by simp [hx])
  have hel : 0 < e.length := List.length_pos_iff.2 he.1
  rw [List.dropLast_concat, pout_push]
  have hne47 : ∀ (i : Nat) c, e[i]? = some c → c ≠ 47 := fun i c hi e1 => he.2.2.2 (by rw [← e1]; exact List.mem_of_getElem? hi)
  by_cases hqs : qs = []
  · subst hqs
    have e0 : pout ([] : List (List UInt8)) = [47] := rfl
    rw [e0, if_pos rfl]
    refine ⟨by simp, by simp; omega, fun i c hi hc => ?_, fun hh => by simp at hh⟩
    simp only [List.length_singleton] at hi
    rw [List.getElem?_append_right (by simp; omega)] at hc
    exact hne47 _ _ hc
  · rw [if_neg hqs]
    refine ⟨by simp, by simp, fun i c hi hc => ?_, fun _ => by simp⟩
    rw [List.getElem?_append_right (by simp; omega)] at hc
    exact hne47 _ _ hc
end Gs

/- The common beginning of two texts; how often a byte stands in a text. No program in sight. -/
namespace Gs
def lcp : List UInt8 → List UInt8 → Nat
  | a :: as, b :: bs => if a = b then lcp as bs + 1 else 0
  | _, _ => 0
theorem lcp_nil (b) : lcp [] b = 0 := by simp [lcp]
theorem lcp_nil' (a) : lcp a [] = 0 := by cases a <;> simp [lcp]
theorem lcp_le : ∀ a b : List UInt8, lcp a b ≤ a.length ∧ lcp a b ≤ b.length
  | [], b => by simp [lcp]
  | a :: as, [] => by simp [lcp]
  | a :: as, b :: bs => by
    have := lcp_le as bs
    unfold lcp; split <;> simp <;> omega
theorem lcp_comm : ∀ a b, lcp a b = lcp b a
  | [], b => by cases b <;> simp [lcp]
  | a :: as, [] => by simp [lcp]
  | a :: as, b :: bs => by
    have := lcp_comm as bs
    unfold lcp
    by_cases h : a = b
    · subst h; simp [this]
    · rw [if_neg h, if_neg fun e => h e.symm]
theorem lcp_take : ∀ a b : List UInt8, a.take (lcp a b) = b.take (lcp a b)
  | [], b => by simp [lcp]
  | a :: as, [] => by simp [lcp]
  | a :: as, b :: bs => by
    have := lcp_take as bs
    unfold lcp
    by_cases h : a = b
    · subst h; simp [this]
    · rw [if_neg h]; simp
theorem lcp_stop : ∀ a b : List UInt8, lcp a b = a.length ∨ lcp a b = b.length ∨ ∃ x y, a[lcp a b]? = some x ∧ b[lcp a b]? = some y ∧ x ≠ y
  | [], b => by simp [lcp]
  | a :: as, [] => by simp [lcp]
  | a :: as, b :: bs => by
    have := lcp_stop as bs
    unfold lcp
    by_cases h : a = b
    · rw [if_pos h]
      rcases this with h1 | h1 | ⟨x, y, h1, h2, h3⟩
      · exact .inl (by simp [h1])
      · exact .inr (.inl (by simp [h1]))
      · exact .inr (.inr ⟨x, y, by simpa using h1, by simpa using h2, h3⟩)
    · rw [if_neg h]; exact .inr (.inr ⟨a, b, rfl, rfl, h⟩)
theorem lcp_front : ∀ f a b, lcp (f ++ a) (f ++ b) = f.length + lcp a b
  | [], a, b => by simp
  | c :: f, a, b => by
    have := lcp_front f a b
    simp only [List.cons_append, List.length_cons, lcp, if_true, this]; omega
/-- a step on the way -/
theorem lcp_lt {a b : List UInt8} {i : Nat} {x y : UInt8} (h : i ≤ lcp a b) (hx : a[i]? = some x) (hy : b[i]? = some y) : (x = y → i + 1 ≤ lcp a b) ∧ (x ≠ y → i = lcp a b) := by
  have ht := lcp_take a b
  have hs := lcp_stop a b
  have la := (List.getElem?_eq_some_iff.1 hx).1
  have lb := (List.getElem?_eq_some_iff.1 hy).1
  constructor
  · intro e
    refine Nat.lt_of_le_of_ne h fun hi => ?_
    rcases hs with h1 | h1 | ⟨u, v, h1, h2, h3⟩
    · omega
    · omega
    · rw [← hi, hx] at h1; rw [← hi, hy] at h2
      cases h1; cases h2
      exact h3 e
  · intro hne
    refine Nat.le_antisymm h (Nat.le_of_not_lt fun hlt => hne ?_)
    have h1 : (a.take (lcp a b))[i]? = some x := by rw [List.getElem?_take_of_lt hlt]; exact hx
    have h2 : (b.take (lcp a b))[i]? = some y := by rw [List.getElem?_take_of_lt hlt]; exact hy
    rw [ht, h2] at h1
    exact (Option.some.inj h1).symm
theorem lcp_end {a b : List UInt8} {i : Nat} (h : i ≤ lcp a b) (hm : min a.length b.length ≤ i) : i = lcp a b := by
  have := lcp_le a b; omega
/-- how often a byte is in a text -/
def cnt (c : UInt8) (l : List UInt8) : Nat := l.count c
theorem cnt_take {c d : UInt8} {l : List UInt8} {i : Nat} (h : l[i]? = some d) : (l.take (i + 1)).count c = (l.take i).count c + (if d = c then 1 else 0) := by
  rw [List.take_add_one, h]
  simp only [Option.toList_some, List.count_append, List.count_singleton]
  by_cases e : d = c <;> simp [e]
theorem cnt_all {c : UInt8} {l : List UInt8} {i : Nat} (h : l.length ≤ i) : (l.take i).count c = l.count c := by rw [List.take_of_length_le h]
end Gs
