/- Lemmas of the walk and plain facts (GsP2 .. GsP2). -/
/- The common beginning of two texts; how often a byte stands in a text. No program in sight. -/
namespace Gs
def lcp : List UInt8 → List UInt8 → Nat
  | a :: as, b :: bs => if a = b then lcp as bs + 1 else 0
  | _, _ => 0
theorem lcp_nil' (a) : lcp a [] = 0 := by cases a <;> simp [lcp]
theorem lcp_le : ∀ a b : List UInt8, lcp a b ≤ a.length ∧ lcp a b ≤ b.length
  | [], b => by simp [lcp]
  | a :: as, [] => by simp [lcp]
  | a :: as, b :: bs => by
    have := lcp_le as bs
    unfold lcp; split <;> simp <;> omega
theorem lcp_take : ∀ a b : List UInt8, a.take (lcp a b) = b.take (lcp a b)
  | [], b => by simp [lcp]
  | a :: as, [] => by simp [lcp]
  | a :: as, b :: bs => by
    have := lcp_take as bs
    unfold lcp
    by_cases h : a = b
    · subst h; simp [this]
    · rw [if_neg h]; simp
theorem lcp_stop : ∀ a b : List UInt8, lcp a b = a.length ∨ lcp a b = b.length ∨ ∃ x y, a[lcp a b]? = some x ∧ b[lcp a b]? = some y ∧ x ≠ y
  | [], b => by simp [lcp]
  | a :: as, [] => by simp [lcp]
  | a :: as, b :: bs => by
    have := lcp_stop as bs
    unfold lcp
    by_cases h : a = b
    · rw [if_pos h]
      rcases this with h1 | h1 | ⟨x, y, h1, h2, h3⟩
      · exact .inl (by simp [h1])
      · exact .inr (.inl (by simp [h1]))
      · exact .inr (.inr ⟨x, y, by simpa using h1, by simpa using h2, h3⟩)
    · rw [if_neg h]; exact .inr (.inr ⟨a, b, rfl, rfl, h⟩)
theorem lcp_front : ∀ f a b, lcp (f ++ a) (f ++ b) = f.length + lcp a b
  | [], a, b => by simp
  | c :: f, a, b => by
    have := lcp_front f a b
    simp only [List.cons_append, List.length_cons, lcp, if_true, this]; omega
/-- a step on the way -/
theorem lcp_lt {a b : List UInt8} {i : Nat} {x y : UInt8} (h : i ≤ lcp a b) (hx : a[i]? = some x) (hy : b[i]? = some y) : (x = y → i + 1 ≤ lcp a b) ∧ (x ≠ y → i = lcp a b) := by
  have ht := lcp_take a b
  have hs := lcp_stop a b
  have la := (List.getElem?_eq_some_iff.1 hx).1
  have lb := (List.getElem?_eq_some_iff.1 hy).1
  constructor
  · intro e
    refine Nat.lt_of_le_of_ne h fun hi => ?_
    rcases hs with h1 | h1 | ⟨u, v, h1, h2, h3⟩
    · omega
    · omega
    · rw [← hi, hx] at h1; rw [← hi, hy] at h2
      cases h1; cases h2
      exact h3 e
  · intro hne
    refine Nat.le_antisymm h (Nat.le_of_not_lt fun hlt => hne ?_)
    have h1 : (a.take (lcp a b))[i]? = some x := by rw [List.getElem?_take_of_lt hlt]; exact hx
    have h2 : (b.take (lcp a b))[i]? = some y := by rw [List.getElem?_take_of_lt hlt]; exact hy
    rw [ht, h2] at h1
    exact (Option.some.inj h1).symm
theorem lcp_end {a b : List UInt8} {i : Nat} (h : i ≤ lcp a b) (hm : min a.length b.length ≤ i) : i = lcp a b := by
  have := lcp_le a b; omega
/-- how often a byte is in a text -/
def cnt (c : UInt8) (l : List UInt8) : Nat := l.count c
theorem cnt_take {c d : UInt8} {l : List UInt8} {i : Nat} (h : l[i]? = some d) : (l.take (i + 1)).count c = (l.take i).count c + (if d = c then 1 else 0) := by
  rw [List.take_add_one, h]
  simp only [Option.toList_some, List.count_append, List.count_singleton]
  by_cases e : d = c <;> simp [e]
end Gs
