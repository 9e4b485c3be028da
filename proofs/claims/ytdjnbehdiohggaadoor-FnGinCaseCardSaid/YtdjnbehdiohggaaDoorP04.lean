/- Lemmas of the walk and plain facts (GsP1 .. GsP1). -/
/- Cleaned paths: the parts of a path, and what cleaning leaves of them. No program in sight. -/
namespace Gs
/-- the parts between slashes -/
def secs : List UInt8 → List (List UInt8)
  | [] => [[]]
  | c :: t => if c = 47 then [] :: secs t else (c :: (secs t).headD []) :: (secs t).tail
def pstep (ps : List (List UInt8)) (s : List UInt8) : List (List UInt8) :=
  if s = [] ∨ s = [46] then ps else if s = [46, 46] then ps.dropLast else ps ++ [s]
def pfold (ps : List (List UInt8)) (l : List (List UInt8)) : List (List UInt8) := l.foldl pstep ps
/-- parts behind slashes -/
def slj : List (List UInt8) → List UInt8
  | [] => []
  | p :: ps => 47 :: (p ++ slj ps)
/-- the bytes of a cleaned path without the slash at its end -/
def pout (ps : List (List UInt8)) : List UInt8 := if ps = [] then [47] else slj ps
def tr (l : List (List UInt8)) : Bool := match l.getLast? with | some s => decide (s = [46] ∨ (s = [] ∧ 1 < l.length)) | none => false
def clean (p : List UInt8) : List UInt8 :=
  let ps := pfold [] (secs p)
  pout ps ++ (if tr (secs p) ∧ ps ≠ [] then [47] else [])
theorem secs_ne : ∀ p, secs p ≠ []
  | [] => by simp [secs]
  | c :: t => by unfold secs; split <;> simp
theorem secs_cons {c : UInt8} {t : List UInt8} (h : c ≠ 47) : ∃ a l, secs t = a :: l ∧ secs (c :: t) = (c :: a) :: l := by
  cases hs : secs t with
  | nil => exact absurd hs (secs_ne t)
  | cons a l => exact ⟨a, l, rfl, by simp [secs, h, hs]⟩
theorem secs_slash (t : List UInt8) : secs (47 :: t) = [] :: secs t := by simp [secs]
theorem secs_plain : ∀ {e : List UInt8}, 47 ∉ e → secs e = [e]
  | [], _ => rfl
  | c :: e, h => by
    have hc : c ≠ 47 := fun h2 => h (by simp [h2])
    have he : 47 ∉ e := fun h2 => h (.tail _ h2)
    obtain ⟨a, l, h1, h2⟩ := secs_cons (t := e) hc
    rw [secs_plain he] at h1
    cases h1
    rw [h2]
theorem secs_app : ∀ (a b : List UInt8), secs (a ++ 47 :: b) = secs a ++ secs b
  | [], b => by simp [secs]
  | c :: a, b => by
    have ih := secs_app a b
    by_cases hc : c = 47
    · subst hc; rw [List.cons_append, secs_slash, secs_slash, ih]; rfl
    · obtain ⟨x, l, h1, h2⟩ := secs_cons (t := a) hc
      obtain ⟨y, m, h3, h4⟩ := secs_cons (t := a ++ 47 :: b) hc
      rw [List.cons_append, h4, h2]
      rw [ih, h1] at h3
      cases h3
      rfl
theorem secs_elem {e t : List UInt8} (he : 47 ∉ e) : secs (e ++ 47 :: t) = e :: secs t := by rw [secs_app, secs_plain he]; rfl
theorem pfold_cons (ps s l) : pfold ps (s :: l) = pfold (pstep ps s) l := rfl
/-- what parts may stand -/
def okP (s : List UInt8) : Prop := s ≠ [] ∧ s ≠ [46] ∧ s ≠ [46, 46] ∧ 47 ∉ s
theorem pstep_push {ps s} (h : okP s) : pstep ps s = ps ++ [s] := by
  unfold pstep; rw [if_neg (by rintro (e | e); exact h.1 e; exact h.2.1 e), if_neg h.2.2.1]
theorem slj_app : ∀ a b, slj (a ++ b) = slj a ++ slj b
  | [], b => rfl
  | p :: a, b => by simp [slj, slj_app a b]
end Gs
namespace Gs
/-! the steps of the program's loop -/
def ld (p : List UInt8) : Prop := (secs p).getLast? = some [46]
theorem ld_slash (e t : List UInt8) : ld (e ++ 47 :: t) ↔ ld t := by
  unfold ld
  rw [secs_app, List.getLast?_append]
  cases h : (secs t).getLast? with
  | none => exact absurd (List.getLast?_eq_none_iff.1 h) (secs_ne t)
  | some x => simp
theorem ld_plain {e : List UInt8} (h : 47 ∉ e) : ld e ↔ e = [46] := by
  unfold ld; rw [secs_plain h]; simp
theorem tr_iff (p : List UInt8) : tr (secs p) = true ↔ ld p ∨ p.getLast? = some 47 := by
  unfold ld
  obtain ⟨x, hx⟩ : ∃ x, (secs p).getLast? = some x := ⟨_, List.getLast?_eq_some_getLast (secs_ne p)⟩
  simp only [tr, hx, decide_eq_true_eq, Option.some.injEq]
  refine or_congr Iff.rfl ?_
  rcases List.eq_nil_or_concat p with rfl | ⟨q, c, rfl⟩
  · simp [secs]
  · by_cases hc : c = 47
    · subst hc
      rw [List.concat_eq_append] at hx ⊢
      rw [secs_app] at hx ⊢
      have h0 := List.length_pos_iff.2 (secs_ne q)
      simp only [secs, List.getLast?_append, List.getLast?_singleton, Option.some_or, Option.some.injEq] at hx
      subst hx
      simp [secs, h0]
    · rw [List.concat_eq_append] at hx ⊢
      simp only [List.getLast?_append, List.getLast?_singleton, Option.some_or, Option.some.injEq]
      refine ⟨fun h => ?_, fun h => absurd h hc⟩
      exfalso
      obtain ⟨h1, h2⟩ := h
      subst h1
      have key : ∀ (q : List UInt8), (secs (q ++ [c])).getLast? ≠ some [] := by
        intro q
        induction q with
        | nil => simp [secs, hc]
        | cons a q ih =>
          by_cases ha : a = 47
          · subst ha
            rw [List.cons_append, secs_slash]
            cases hs : secs (q ++ [c]) with
            | nil => exact absurd hs (secs_ne _)
            | cons u v => rw [hs] at ih; rw [List.getLast?_cons_cons]; exact ih
          · obtain ⟨u, v, h3, h4⟩ := secs_cons (t := q ++ [c]) ha
            rw [List.cons_append, h4]
            rw [h3] at ih
            cases v with
            | nil => simp
            | cons v1 v2 => rw [List.getLast?_cons_cons]; rw [List.getLast?_cons_cons] at ih; exact ih
      exact key q hx
theorem pf_slash (ps e t) (h : 47 ∉ e) : pfold ps (secs (e ++ 47 :: t)) = pfold (pstep ps e) (secs t) := by rw [secs_elem h, pfold_cons]
theorem pf_plain (ps) {e : List UInt8} (h : 47 ∉ e) : pfold ps (secs e) = pstep ps e := by rw [secs_plain h]; rfl
theorem pf_nil (ps) : pfold ps (secs []) = ps := by simp [secs, pfold, pstep]
theorem pf_cons (ps t) : pfold ps (secs (47 :: t)) = pfold ps (secs t) := by rw [secs_slash, pfold_cons]; simp [pstep]
theorem pout_one {ps : List (List UInt8)} (h : ∀ x ∈ ps, okP x) : 1 ≤ (pout ps).length ∧ (1 < (pout ps).length ↔ ps ≠ []) := by
  unfold pout
  cases ps with
  | nil => simp
  | cons a l =>
    have := (h a (.head _)).1
    have h1 : 0 < a.length := List.length_pos_iff.2 this
    simp [slj]; omega
theorem pout_push {ps : List (List UInt8)} (e : List UInt8) : pout (ps ++ [e]) = (if ps = [] then [47] else pout ps ++ [47]) ++ e := by
  unfold pout
  rw [if_neg (by simp), slj_app]
  by_cases h : ps = []
  · subst h; simp [slj]
  · rw [if_neg h, if_neg h]; simp [slj]
/-- what stands behind the part that is taken back -/
theorem pout_back {ps : List (List UInt8)} (h : ∀ x ∈ ps, okP x) (hne : ps ≠ []) : (pout ps).take (pout ps.dropLast).length = pout ps.dropLast ∧ (pout ps.dropLast).length < (pout ps).length ∧
    (∀ i c, (pout ps.dropLast).length < i → (pout ps)[i]? = some c → c ≠ 47) ∧ (1 < (pout ps.dropLast).length → (pout ps)[(pout ps.dropLast).length]? = some 47) := by
  obtain ⟨qs, e, rfl⟩ : ∃ qs e, ps = qs ++ [e] := by
    rcases List.eq_nil_or_concat ps with h | ⟨q, e, h⟩
    · exact absurd h hne
    · exact ⟨q, e, by rw [h, List.concat_eq_append]⟩
  have he := h e (by simp)
  have hq : ∀ x ∈ qs, okP x := fun x hx => h x (by simp [hx])
  have hel : 0 < e.length := List.length_pos_iff.2 he.1
  rw [List.dropLast_concat, pout_push]
  have hne47 : ∀ (i : Nat) c, e[i]? = some c → c ≠ 47 := fun i c hi e1 => he.2.2.2 (by rw [← e1]; exact List.mem_of_getElem? hi)
  by_cases hqs : qs = []
  · subst hqs
    have e0 : pout ([] : List (List UInt8)) = [47] := rfl
    rw [e0, if_pos rfl]
    refine ⟨by simp, by simp; omega, fun i c hi hc => ?_, fun hh => by simp at hh⟩
    simp only [List.length_singleton] at hi
    rw [List.getElem?_append_right (by simp; omega)] at hc
    exact hne47 _ _ hc
  · rw [if_neg hqs]
    refine ⟨by simp, by simp, fun i c hi hc => ?_, fun _ => by simp⟩
    rw [List.getElem?_append_right (by simp; omega)] at hc
    exact hne47 _ _ hc
end Gs
