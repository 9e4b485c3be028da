/- Lemmas of the walk and plain facts (GsP3 .. GsP3). -/
import Derived.Test.YtdjnbehdiohggaaDoorP04
/- What holds while a path is cleaned. No program in sight. -/
namespace Gs
structure CInv (p : List UInt8) (M : Nat) (T0 : Bool) (r : Nat) (ps : List (List UInt8)) (T : Bool) : Prop where
  ok : ∀ x ∈ ps, okP x
  pf : pfold ps (secs (p.drop r)) = pfold [] (secs p)
  tr : (T = T0 ∧ (ld p ↔ ld (p.drop r))) ∨ (T = true ∧ ld p ∧ p.length ≤ r)
  b1 : (pout ps).length + (p.length - r) ≤ M
  b2 : ps ≠ [] → (pout ps).length + 1 + (p.length - r) ≤ M ∨ p[r]? = some 47 ∨ (p.length ≤ r ∧ T = false)
theorem drop_cons {p : List UInt8} {r : Nat} {x : UInt8} (h : p[r]? = some x) : p.drop r = x :: p.drop (r + 1) := by
  have hl := (List.getElem?_eq_some_iff.1 h).1
  rw [List.drop_eq_getElem_cons hl]
  rw [List.getElem?_eq_getElem hl] at h
  rw [Option.some.inj h]
theorem ld_nil : ¬ ld [] := by simp [ld, secs]
variable {p : List UInt8} {M r : Nat} {T0 T : Bool} {ps : List (List UInt8)}
theorem CInv.old (h : CInv p M T0 r ps T) (hr : r < p.length) : T = T0 ∧ (ld p ↔ ld (p.drop r)) := by
  rcases h.tr with h | h
  · exact h
  · omega
theorem CInv.slash (h : CInv p M T0 r ps T) (hx : p[r]? = some 47) : CInv p M T0 (r + 1) ps T := by
  have hl := (List.getElem?_eq_some_iff.1 hx).1
  have hd := drop_cons hx
  have b1 := h.b1
  obtain ⟨t1, t2⟩ := h.old hl
  refine ⟨h.ok, ?_, .inl ⟨t1, ?_⟩, by omega, fun _ => .inl (by omega)⟩
  · rw [← h.pf, hd, pf_cons]
  · rw [t2, hd]; exact ld_slash [] _
theorem CInv.dot (h : CInv p M T0 r ps T) (hx : p[r]? = some 46) (hn : r + 1 = p.length) : CInv p M T0 (r + 1) ps true := by
  have hl := (List.getElem?_eq_some_iff.1 hx).1
  have hd := drop_cons hx
  have b1 := h.b1
  obtain ⟨t1, t2⟩ := h.old hl
  have h0 : p.drop (r + 1) = [] := List.drop_eq_nil_of_le (by omega)
  rw [h0] at hd
  refine ⟨h.ok, ?_, .inr ⟨rfl, ?_, by omega⟩, by omega, fun _ => .inl (by omega)⟩
  · rw [← h.pf, hd, h0, pf_nil, pf_plain _ (by decide)]; simp [pstep]
  · rw [t2, hd]; exact (ld_plain (by decide)).2 rfl
theorem CInv.dots (h : CInv p M T0 r ps T) (hx : p[r]? = some 46) (hy : p[r + 1]? = some 47) : CInv p M T0 (r + 2) ps T := by
  have hl := (List.getElem?_eq_some_iff.1 hy).1
  have hd := drop_cons hx
  rw [drop_cons hy] at hd
  have b1 := h.b1
  obtain ⟨t1, t2⟩ := h.old (by omega)
  have hd2 : p.drop r = [46] ++ 47 :: p.drop (r + 2) := hd
  refine ⟨h.ok, ?_, .inl ⟨t1, ?_⟩, by omega, fun _ => .inl (by omega)⟩
  · rw [← h.pf, hd2, pf_slash _ _ _ (by decide)]; simp [pstep]
  · rw [t2, hd2]; exact ld_slash _ _
theorem pout_drop (h : ∀ x ∈ ps, okP x) : (pout ps.dropLast).length ≤ (pout ps).length := by
  by_cases hne : ps = []
  · subst hne; exact Nat.le_refl _
  · exact Nat.le_of_lt (pout_back h hne).2.1
theorem pstep_back (ps : List (List UInt8)) : pstep ps [46, 46] = ps.dropLast := by simp [pstep]
theorem CInv.back (h : CInv p M T0 r ps T) (hx : p[r]? = some 46) (hy : p[r + 1]? = some 46) (hz : r + 2 = p.length ∨ p[r + 2]? = some 47) : CInv p M T0 (r + 3) ps.dropLast T := by
  have hl := (List.getElem?_eq_some_iff.1 hy).1
  have hd := drop_cons hx
  rw [drop_cons hy] at hd
  have b1 := h.b1
  have hpd := pout_drop h.ok
  obtain ⟨t1, t2⟩ := h.old (by omega)
  refine ⟨fun x hx => h.ok x (List.dropLast_subset _ hx), ?_, .inl ⟨t1, ?_⟩, by omega, fun _ => .inl (by omega)⟩
  · rcases hz with hz | hz
    · have h0 : p.drop (r + 2) = [] := List.drop_eq_nil_of_le (by omega)
      have h1 : p.drop (r + 3) = [] := List.drop_eq_nil_of_le (by omega)
      have hd2 : p.drop r = [46, 46] := by rw [hd, h0]
      rw [← h.pf, hd2, h1, pf_nil, pf_plain _ (by decide), pstep_back]
    · have hd2 : p.drop r = [46, 46] ++ 47 :: p.drop (r + 3) := by rw [hd, drop_cons hz]; rfl
      rw [← h.pf, hd2, pf_slash _ _ _ (by decide), pstep_back]
  · rcases hz with hz | hz
    · have h0 : p.drop (r + 2) = [] := List.drop_eq_nil_of_le (by omega)
      have h1 : p.drop (r + 3) = [] := List.drop_eq_nil_of_le (by omega)
      have hd2 : p.drop r = [46, 46] := by rw [hd, h0]
      rw [t2, hd2, h1, ld_plain (by decide)]
      exact ⟨fun e => by simp at e, fun e => absurd e ld_nil⟩
    · have hd2 : p.drop r = [46, 46] ++ 47 :: p.drop (r + 3) := by rw [hd, drop_cons hz]; rfl
      rw [t2, hd2]; exact ld_slash _ _
theorem esplit : ∀ (l : List UInt8), ∃ e t, l = e ++ t ∧ 47 ∉ e ∧ (t = [] ∨ ∃ t', t = 47 :: t')
  | [] => ⟨[], [], rfl, by simp, .inl rfl⟩
  | c :: l => by
    by_cases hc : c = 47
    · subst hc; exact ⟨[], 47 :: l, rfl, by simp, .inr ⟨l, rfl⟩⟩
    · obtain ⟨e, t, h1, h2, h3⟩ := esplit l
      refine ⟨c :: e, t, by rw [h1]; rfl, ?_, h3⟩
      intro h
      rcases List.mem_cons.1 h with h | h
      · exact hc h.symm
      · exact h2 h
theorem okP_elem {e t : List UInt8} {x : UInt8} (hd : p.drop r = e ++ t) (he : 47 ∉ e) (ht : t = [] ∨ ∃ t', t = 47 :: t') (hx : p[r]? = some x) (hx47 : x ≠ 47)
    (c2 : ¬ (p[r]? = some 46 ∧ r + 1 = p.length)) (c3 : ¬ (p[r]? = some 46 ∧ p[r + 1]? = some 47)) (c4 : ¬ (p[r]? = some 46 ∧ p[r + 1]? = some 46 ∧ (r + 2 = p.length ∨ p[r + 2]? = some 47))) : okP e := by
  have hg : ∀ k, p[r + k]? = (e ++ t)[k]? := fun k => by rw [← hd, List.getElem?_drop]
  have hlen : p.length - r = e.length + t.length := by have := congrArg List.length hd; simpa using this
  refine ⟨?_, ?_, ?_, he⟩
  · rintro rfl
    have h0 := hg 0
    rw [Nat.add_zero, hx] at h0
    rcases ht with rfl | ⟨t', rfl⟩
    · simp at h0
    · simp at h0; exact hx47 h0
  · rintro rfl
    have h0 := hg 0
    simp at h0
    rcases ht with rfl | ⟨t', rfl⟩
    · exact c2 ⟨h0, by simp at hlen; omega⟩
    · exact c3 ⟨h0, by rw [hg 1]; rfl⟩
  · rintro rfl
    have h0 := hg 0
    have h1 := hg 1
    simp at h0 h1
    rcases ht with rfl | ⟨t', rfl⟩
    · exact c4 ⟨h0, h1, .inl (by simp at hlen; omega)⟩
    · exact c4 ⟨h0, h1, .inr (by rw [hg 2]; rfl)⟩
theorem CInv.elem {e t : List UInt8} (h : CInv p M T0 r ps T) (hr : r < p.length) (hd : p.drop r = e ++ t) (he : okP e) (ht : t = [] ∨ ∃ t', t = 47 :: t') (hp47 : p[r]? ≠ some 47) (hT0 : T0 = true → p.getLast? = some 47) : CInv p M T0 (r + e.length) (ps ++ [e]) T := by
  have hlen : p.length - r = e.length + t.length := by have := congrArg List.length hd; simpa using this
  have hdt : p.drop (r + e.length) = t := by rw [← List.drop_drop, hd, List.drop_left]
  have b1 := h.b1
  obtain ⟨t1, t2⟩ := h.old hr
  have hpo := pout_push (ps := ps) e
  have hok : ∀ x ∈ ps ++ [e], okP x := fun x hx => by
    rcases List.mem_append.1 hx with hx | hx
    · exact h.ok x hx
    · rw [List.mem_singleton.1 hx]; exact he
  have hbd : (pout (ps ++ [e])).length ≤ (if ps = [] then (pout ps).length else (pout ps).length + 1) + e.length := by
    rw [hpo]
    by_cases hq : ps = []
    · subst hq; simp [pout]; omega
    · rw [if_neg hq, if_neg hq]; simp; omega
  have hb2 : (pout (ps ++ [e])).length + t.length ≤ M := by
    by_cases hq : ps = []
    · rw [if_pos hq] at hbd; omega
    · rw [if_neg hq] at hbd
      rcases h.b2 hq with h2 | h2 | h2
      · omega
      · exact absurd h2 hp47
      · omega
  have hpm : pstep ps e = ps ++ [e] := pstep_push he
  have hpr : p[r + e.length]? = t[0]? := by
    have h9 : (p.drop (r + e.length))[0]? = p[r + e.length]? := by rw [List.getElem?_drop, Nat.add_zero]
    rw [← h9, hdt]
  refine ⟨hok, ?_, .inl ⟨t1, ?_⟩, by omega, fun _ => .inr ?_⟩
  · rw [← h.pf, hd, hdt]
    rcases ht with rfl | ⟨t', rfl⟩
    · rw [List.append_nil, pf_nil, pf_plain _ he.2.2.2, hpm]
    · rw [pf_slash _ _ _ he.2.2.2, pf_cons, hpm]
  · rw [t2, hd, hdt]
    rcases ht with rfl | ⟨t', rfl⟩
    · rw [List.append_nil, ld_plain he.2.2.2]
      exact ⟨fun e1 => absurd e1 he.2.1, fun e1 => absurd e1 ld_nil⟩
    · rw [ld_slash]; exact (ld_slash [] t').symm
  · rcases ht with rfl | ⟨t', rfl⟩
    · refine .inr ⟨by simp at hlen; omega, ?_⟩
      rw [t1]
      cases hT : T0 with
      | false => rfl
      | true =>
        exfalso
        have hl := hT0 hT
        have h9 : (p.drop r).getLast? = some 47 := by rw [List.getLast?_drop, if_neg (by omega)]; exact hl
        rw [hd, List.append_nil] at h9
        exact he.2.2.2 (List.mem_of_getLast? h9)
    · exact .inl (by rw [hpr]; rfl)
theorem CInv.fin (h : CInv p M T0 r ps T) (hr : p.length ≤ r) (hT0 : T0 = true ↔ 1 < p.length ∧ p.getLast? = some 47) : clean p = pout ps ++ (if T = true ∧ ps ≠ [] then [47] else []) ∧ (T = true → ps ≠ [] → (pout ps).length < M) := by
  have hd : p.drop r = [] := List.drop_eq_nil_of_le hr
  have hpf := h.pf
  rw [hd, pf_nil] at hpf
  refine ⟨?_, fun hT hne => ?_⟩
  · unfold clean
    simp only [← hpf]
    congr 1
    have key : ps ≠ [] → (Gs.tr (secs p) = true ↔ T = true) := fun hne => by
      rw [tr_iff]
      rcases h.tr with ⟨t1, t2⟩ | ⟨t1, t2, _⟩
      · rw [hd] at t2
        rw [t1, hT0]
        constructor
        · rintro (h1 | h1)
          · exact absurd (t2.1 h1) ld_nil
          · refine ⟨?_, h1⟩
            rcases Nat.lt_or_ge 1 p.length with h2 | h2
            · exact h2
            · exfalso
              match p, h1, h2 with
              | [], h1, _ => simp at h1
              | [c], h1, _ =>
                simp at h1
                subst h1
                rw [secs_slash] at hpf
                simp [secs, pfold, pstep] at hpf
                exact hne hpf
              | _ :: _ :: _, _, h2 => simp at h2
        · exact fun h1 => .inr h1.2
      · rw [t1]; exact ⟨fun _ => rfl, fun _ => .inl t2⟩
    by_cases hne : ps = []
    · rw [if_neg (fun h => h.2 hne), if_neg (fun h => h.2 hne)]
    · by_cases hT : T = true
      · rw [if_pos ⟨(key hne).2 hT, hne⟩, if_pos ⟨hT, hne⟩]
      · rw [if_neg (fun h => hT ((key hne).1 h.1)), if_neg (fun h => hT h.1)]
  · rcases h.b2 hne with h2 | h2 | h2
    · omega
    · have := (List.getElem?_eq_some_iff.1 h2).1; omega
    · rw [hT] at h2; cases h2.2
end Gs
