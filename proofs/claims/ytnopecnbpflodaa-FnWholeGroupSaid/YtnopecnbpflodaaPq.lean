/- Plain facts on the machine that looks for a path: it ends, what it finds is a route of the path, and the best one where nothing is left open. -/
import Derived.Test.YtnopecnbpflodaaOa
/- Loose matching on tokens. No program in sight. -/
namespace Gt
open Gs Tr
/-- a path is one of a route's whose parameters may be empty -/
def LM : List Tok → List UInt8 → Prop
  | [], p => p = []
  | .b c :: s, p => ∃ q, p = c :: q ∧ LM s q
  | .P _ :: s, p => LM s (p.drop (sl p))
  | .A _ :: _, _ => True
theorem LM_bs : ∀ (t : List UInt8) (s : List Tok) (p : List UInt8), LM (bs t ++ s) p ↔ t <+: p ∧ LM s (p.drop t.length)
  | [], s, p => by simp [bs]
  | c :: t, s, p => by
    show (∃ q, p = c :: q ∧ LM (bs t ++ s) q) ↔ _
    constructor
    · rintro ⟨q, rfl, h⟩
      obtain ⟨h1, h2⟩ := (LM_bs t s q).1 h
      exact ⟨by simpa using h1, by simpa using h2⟩
    · rintro ⟨⟨r, rfl⟩, h2⟩
      refine ⟨t ++ r, rfl, (LM_bs t s _).2 ⟨⟨r, rfl⟩, by simpa using h2⟩⟩
def LastA : List Prt → Prop
  | [] => True
  | p :: l => (p.k.toNat = 2 → l = []) ∧ p.k.toNat ≤ 2 ∧ LastA l
theorem LAt_LM (path : List UInt8) : ∀ (l : List Prt) (i : Nat), LastA l → i ≤ path.length → (LAt path l i ↔ LM (tokT l) (path.drop i))
  | [], i, _, hi => by
    show i = path.length ↔ path.drop i = []
    rw [List.drop_eq_nil_iff]; omega
  | p :: l, i, h, hi => by
    have e1 : tokT (p :: l) = tokP p ++ tokT l := by simp [tokT]
    rw [e1]
    unfold LAt tokP
    by_cases h0 : p.k.toNat = 0
    · rw [if_pos h0, if_pos h0, LM_bs, List.drop_drop]
      constructor
      · rintro ⟨h1, h2⟩
        have := h1.length_le
        rw [List.length_drop] at this
        exact ⟨h1, (LAt_LM path l _ h.2.2 (by omega)).1 h2⟩
      · rintro ⟨h1, h2⟩
        have := h1.length_le
        rw [List.length_drop] at this
        exact ⟨h1, (LAt_LM path l _ h.2.2 (by omega)).2 h2⟩
    · rw [if_neg h0, if_neg h0]
      by_cases h1 : p.k.toNat = 1
      · rw [if_pos h1, if_pos h1]
        have hs := sl_le (path.drop i)
        rw [List.length_drop] at hs
        show _ ↔ LM (tokT l) ((path.drop i).drop (sl (path.drop i)))
        rw [List.drop_drop]
        exact LAt_LM path l _ h.2.2 (by omega)
      · rw [if_neg h1, if_neg h1]
        have hl : l = [] := h.1 (by have := h.2.1; omega)
        subst hl
        exact ⟨fun _ => trivial, fun _ => rfl⟩
theorem Clean.lastA {l : List Prt} (h : Clean l) : LastA l := by
  have key : ∀ (n j : Nat), n + j = l.length → LastA (l.drop j) := by
    intro n
    induction n with
    | zero => intro j hj; rw [List.drop_of_length_le (by omega)]; trivial
    | succ n ih =>
      intro j hj
      obtain ⟨p, hp⟩ : ∃ p, l[j]? = some p := ⟨_, List.getElem?_eq_getElem (by omega)⟩
      have hop := h.2.2.2 j p hp
      rw [drop_at hp]
      exact ⟨fun h2 => List.drop_of_length_le (by have := hop.2.2.1 h2; omega), hop.2.1, ih (j + 1) (by omega)⟩
  have := key l.length 0 (by omega)
  rwa [List.drop_zero] at this
theorem Clean.loose {l : List Prt} (h : Clean l) (path : List UInt8) : LooseN l path ↔ LM (tokT l) path := by
  have := LAt_LM path l 0 h.lastA (Nat.zero_le _)
  rwa [List.drop_zero] at this
end Gt

/- Strict matching on tokens. No program in sight. -/
namespace Gt
open Gs Tr
/-- the values of a route that a path is one of -/
def MT : List Tok → List UInt8 → Option (List (List UInt8 × List UInt8))
  | [], p => if p = [] then some [] else none
  | .b c :: s, p => if p.head? = some c then MT s (p.drop 1) else none
  | .P n :: s, p => if sl p = 0 then none else (MT s (p.drop (sl p))).map ((n, p.take (sl p)) :: ·)
  | .A n :: _, p => some [(n, 47 :: p)]
theorem MT_bs : ∀ (t : List UInt8) (s : List Tok) (p : List UInt8), MT (bs t ++ s) p = if t.isPrefixOf p then MT s (p.drop t.length) else none
  | [], s, p => by simp [bs]
  | c :: t, s, p => by
    show (if p.head? = some c then MT (bs t ++ s) (p.drop 1) else none) = _
    cases p with
    | nil => simp
    | cons d q =>
      by_cases hcd : d = c
      · subst hcd
        simp [MT_bs t s q]
      · simp only [List.head?_cons, Option.some.injEq]
        rw [if_neg hcd, if_neg]
        simp only [List.isPrefixOf, Bool.and_eq_true, beq_iff_eq]
        exact fun h => hcd h.1.symm
end Gt

/- ginMatch on parts and on tokens. No program in sight. -/
namespace Gt
open Gs Tr
/-- a catch-all is the last part, behind a slash; kinds are three -/
def ChA : List Prt → Prop
  | [] => True
  | p :: l => p.k.toNat ≤ 2 ∧ (p.k.toNat = 2 → l = []) ∧ (∀ q r, l = q :: r → q.k.toNat = 2 → p.k.toNat = 0 ∧ [47] <:+ p.nm) ∧ ChA l
theorem Clean.chA {l : List Prt} (h : Clean l) : ChA l := by
  have key : ∀ (n j : Nat), n + j = l.length → ChA (l.drop j) := by
    intro n
    induction n with
    | zero => intro j hj; rw [List.drop_of_length_le (by omega)]; trivial
    | succ n ih =>
      intro j hj
      obtain ⟨p, hp⟩ : ∃ p, l[j]? = some p := ⟨_, List.getElem?_eq_getElem (by omega)⟩
      have hop := h.2.2.2 j p hp
      rw [drop_at hp]
      refine ⟨hop.2.1, fun h2 => List.drop_of_length_le (by have := hop.2.2.1 h2; omega), fun q r hqr hk => ?_, ih (j + 1) (by omega)⟩
      have hq : l[j + 1]? = some q := by
        have e : (l.drop (j + 1))[0]? = some q := by rw [hqr]; rfl
        rw [List.getElem?_drop] at e
        simpa using e
      have hoq := h.2.2.2 (j + 1) q hq
      have hj0 : j % 2 = 0 := by
        have : ¬ (j + 1) % 2 = 0 := fun e => by have := hoq.1.2 e; omega
        omega
      exact ⟨hop.1.2 hj0, (hoq.2.2.2.2 (by omega)).2.1 p (by rw [Nat.add_sub_cancel]; exact hp)⟩
  have := key l.length 0 (by omega)
  rwa [List.drop_zero] at this
theorem mAt_MT (path : List UInt8) : ∀ (l : List Prt) (i : Nat) (acc : List (List UInt8 × List UInt8)), ChA l → i ≤ path.length → (∀ q r, l = q :: r → q.k.toNat = 2 → 1 ≤ i ∧ path[i - 1]? = some 47) → mAt path l i acc = (MT (tokT l) (path.drop i)).map (acc ++ ·)
  | [], i, acc, _, hi, _ => by
    have e : tokT [] = [] := rfl
    rw [e]
    unfold mAt MT
    by_cases h : i = path.length
    · rw [if_pos h, if_pos (by rw [List.drop_eq_nil_iff]; omega)]; simp
    · rw [if_neg h, if_neg (by rw [List.drop_eq_nil_iff]; omega)]; rfl
  | p :: l, i, acc, h, hi, hs => by
    have e1 : tokT (p :: l) = tokP p ++ tokT l := by simp [tokT]
    rw [e1]
    unfold mAt tokP
    by_cases h0 : p.k.toNat = 0
    · rw [if_pos h0, if_pos h0, MT_bs]
      by_cases hp : p.nm.isPrefixOf (path.drop i) = true
      · rw [if_pos hp, if_pos hp, List.drop_drop]
        obtain ⟨t, ht⟩ := List.isPrefixOf_iff_prefix.1 hp
        have hl := congrArg List.length ht
        rw [List.length_append, List.length_drop] at hl
        refine mAt_MT path l _ acc h.2.2.2 (by omega) (fun q r hqr hk => ?_)
        obtain ⟨u, hu⟩ := (h.2.2.1 q r hqr hk).2
        have hul : p.nm.length = u.length + 1 := by rw [← hu]; simp
        refine ⟨by omega, ?_⟩
        have e2 : path[i + p.nm.length - 1]? = (path.drop i)[p.nm.length - 1]? := by
          rw [List.getElem?_drop]; congr 1; omega
        rw [e2, ← ht, ← hu]
        simp
      · rw [if_neg hp, if_neg hp]; rfl
    · rw [if_neg h0, if_neg h0]
      by_cases h1 : p.k.toNat = 1
      · rw [if_pos h1, if_pos h1]
        have hsl := sl_le (path.drop i)
        rw [List.length_drop] at hsl
        have etw : (path.drop i).takeWhile (· ≠ 47) = (path.drop i).take (sl (path.drop i)) := List.prefix_iff_eq_take.1 (List.takeWhile_prefix _)
        show (if sl (path.drop i) = 0 then none else mAt path l (i + sl (path.drop i)) (acc ++ [(p.nm, (path.drop i).takeWhile (· ≠ 47))])) = (if sl (path.drop i) = 0 then none else (MT (tokT l) ((path.drop i).drop (sl (path.drop i)))).map ((p.nm, (path.drop i).take (sl (path.drop i))) :: ·)).map (acc ++ ·)
        by_cases hz : sl (path.drop i) = 0
        · rw [if_pos hz, if_pos hz]; rfl
        · rw [if_neg hz, if_neg hz, List.drop_drop, etw, mAt_MT path l _ _ h.2.2.2 (by omega) (fun q r hqr hk => by have := (h.2.2.1 q r hqr hk).1; omega)]
          rw [Option.map_map]
          congr 1
          funext x
          simp
      · rw [if_neg h1, if_neg h1]
        have hk2 : p.k.toNat = 2 := by have := h.1; omega
        have hl : l = [] := h.2.1 hk2
        subst hl
        obtain ⟨hi1, h47⟩ := hs p [] rfl hk2
        have e3 : path.drop (i - 1) = 47 :: path.drop i := by
          obtain ⟨hlt, hv⟩ := List.getElem?_eq_some_iff.1 h47
          rw [List.drop_eq_getElem_cons hlt, hv]; congr 2; omega
        show mAt path [] path.length _ = (some [(p.nm, 47 :: path.drop i)]).map (acc ++ ·)
        unfold mAt
        rw [if_pos rfl, e3]; rfl
theorem Clean.match {l : List Prt} (h : Clean l) (path : List UInt8) : matchN l path = MT (tokT l) path := by
  have := mAt_MT path l 0 [] h.chA (Nat.zero_le _) (fun q r hqr hk => by
    have := (h.2.2.2 0 q (by rw [hqr]; rfl)).1.2 rfl
    omega)
  unfold matchN
  rw [this]
  simp
end Gt

/- Which route goes ahead, on tokens; how far two go together. No program in sight. -/
namespace Gt
open Gs Tr
def rk : Tok → Nat
  | .b _ => 0
  | .P _ => 1
  | .A _ => 2
/-- a route goes ahead of another one -/
def BT : List Tok → List Tok → Prop
  | a :: s, b :: r => (a = b ∧ BT s r) ∨ (a ≠ b ∧ rk a < rk b)
  | _, _ => False
/-- how far two routes go together -/
def sameT : List Tok → List Tok → Nat
  | a :: s, b :: r => if a = b then sameT s r + 1 else 0
  | _, _ => 0
theorem rk_tk {t : Tk} (h : TkV t) : rk (tk1 t) = t.k.toNat := by
  have u : t.k.toNat ≤ 2 := by rcases h with h | h <;> omega
  unfold tk1
  by_cases h0 : t.k.toNat = 0
  · rw [if_pos h0, h0]; rfl
  · rw [if_neg h0]
    by_cases h1 : t.k.toNat = 1
    · rw [if_pos h1, h1]; rfl
    · rw [if_neg h1]; show 2 = _; omega
theorem better_tk : ∀ {x y : List Tk}, (∀ t ∈ x, TkV t) → (∀ t ∈ y, TkV t) → (BetterN x y ↔ BT (x.map tk1) (y.map tk1))
  | [], y, _, _ => by cases y <;> exact ⟨fun h => h, fun h => h⟩
  | a :: s, [], _, _ => ⟨fun h => h, fun h => h⟩
  | a :: s, b :: r, hx, hy => by
    have ih := better_tk (x := s) (y := r) (fun t ht => hx t (.tail _ ht)) (fun t ht => hy t (.tail _ ht))
    show ((a = b ∧ BetterN s r) ∨ (a ≠ b ∧ a.k.toNat < b.k.toNat)) ↔ ((tk1 a = tk1 b ∧ BT (s.map tk1) (r.map tk1)) ∨ (tk1 a ≠ tk1 b ∧ rk (tk1 a) < rk (tk1 b)))
    have he : tk1 a = tk1 b ↔ a = b := ⟨fun e => tk1_inj (hx a (.head _)) (hy b (.head _)) e, fun e => by rw [e]⟩
    rw [rk_tk (hx a (.head _)), rk_tk (hy b (.head _)), ih, he, ne_eq, ne_eq, he]
theorem same_tk : ∀ {x y : List Tk}, (∀ t ∈ x, TkV t) → (∀ t ∈ y, TkV t) → same x y = sameT (x.map tk1) (y.map tk1)
  | [], y, _, _ => by cases y <;> rfl
  | a :: s, [], _, _ => rfl
  | a :: s, b :: r, hx, hy => by
    have ih := same_tk (x := s) (y := r) (fun t ht => hx t (.tail _ ht)) (fun t ht => hy t (.tail _ ht))
    have he : tk1 a = tk1 b ↔ a = b := ⟨fun e => tk1_inj (hx a (.head _)) (hy b (.head _)) e, fun e => by rw [e]⟩
    rw [List.map_cons, List.map_cons, same, sameT]
    by_cases h : a = b
    · rw [if_pos h, if_pos (he.2 h), ih]
    · rw [if_neg h, if_neg (fun e => h (he.1 e))]
theorem Clean.better {a b : List Prt} (ha : Clean a) (hb : Clean b) : BetterN (tks a) (tks b) ↔ BT (tokT a) (tokT b) := by
  rw [tokT_tk, tokT_tk]
  exact better_tk (tks_V ha.k2) (tks_V hb.k2)
end Gt

/- What is left open, on tokens. No program in sight. -/
namespace Gt
open Gs Tr
/-- passes, from a token on -/
def PT (d : Nat) : List Tok → Nat → List UInt8 → Prop
  | [], _, _ => False
  | .b c :: s, i, p => p.head? = some c ∧ PT d s (i + 1) (p.drop 1)
  | .P _ :: s, i, p => if d < i then p ≠ [] else PT d s (i + 1) (p.drop (sl p))
  | .A _ :: s, i, p => if d < i then True else PT d s (i + 1) (p.drop (sl p))
/-- begins, from a token on -/
def BGT : List Tok → List UInt8 → Prop
  | [], p => p = []
  | .b c :: s, p => p = [] ∨ (p.head? = some c ∧ BGT s (p.drop 1))
  | .P _ :: s, p => p = [] ∨ ¬ (47 : UInt8) ∈ p ∨ BGT s (p.drop (sl p))
  | .A _ :: _, _ => True
theorem head_drop {p : List UInt8} {i : Nat} : (p.drop i).head? = p[i]? := by
  rw [List.head?_drop]
theorem pass_tk (path : List UInt8) (d : Nat) : ∀ (x : List Tk) (i a : Nat), (∀ t ∈ x, TkV t) → a ≤ path.length → (PAt path d x i a ↔ PT d (x.map tk1) i (path.drop a))
  | [], i, a, _, _ => Iff.rfl
  | t :: x, i, a, h, ha => by
    have ht := h t (.head _)
    have u : t.k.toNat ≤ 2 := by rcases ht with h | h <;> omega
    have hs := sl_le (path.drop a)
    rw [List.length_drop] at hs
    rw [List.map_cons]
    unfold PAt tk1
    by_cases h0 : t.k.toNat = 0
    · rw [if_neg (fun h => h h0), if_pos h0]
      show _ ↔ (path.drop a).head? = some t.c ∧ PT d (x.map tk1) (i + 1) ((path.drop a).drop 1)
      rw [head_drop, List.drop_drop]
      constructor
      · rintro ⟨h1, h2⟩
        have := (List.getElem?_eq_some_iff.1 h1).1
        exact ⟨h1, (pass_tk path d x _ _ (fun t ht => h t (.tail _ ht)) (by omega)).1 h2⟩
      · rintro ⟨h1, h2⟩
        have := (List.getElem?_eq_some_iff.1 h1).1
        exact ⟨h1, (pass_tk path d x _ _ (fun t ht => h t (.tail _ ht)) (by omega)).2 h2⟩
    · rw [if_pos h0, if_neg h0]
      have ih := pass_tk path d x (i + 1) (a + sl (path.drop a)) (fun t ht => h t (.tail _ ht)) (by omega)
      by_cases h1 : t.k.toNat = 1
      · rw [if_pos h1]
        show _ ↔ (if d < i then path.drop a ≠ [] else PT d (x.map tk1) (i + 1) ((path.drop a).drop (sl (path.drop a))))
        rw [List.drop_drop]
        by_cases hd : d < i
        · rw [if_pos hd, if_pos hd, ne_eq, List.drop_eq_nil_iff]; omega
        · rw [if_neg hd, if_neg hd]; exact ih
      · rw [if_neg h1]
        show _ ↔ (if d < i then True else PT d (x.map tk1) (i + 1) ((path.drop a).drop (sl (path.drop a))))
        rw [List.drop_drop]
        by_cases hd : d < i
        · rw [if_pos hd, if_pos hd]; exact ⟨fun _ => trivial, fun _ => .inl (by omega)⟩
        · rw [if_neg hd, if_neg hd]; exact ih
theorem begin_tk (path : List UInt8) : ∀ (x : List Tk) (a : Nat), (∀ t ∈ x, TkV t) → a ≤ path.length → (BAt path x a ↔ BGT (x.map tk1) (path.drop a))
  | [], a, _, ha => by
    show a = path.length ↔ path.drop a = []
    rw [List.drop_eq_nil_iff]; omega
  | t :: x, a, h, ha => by
    have ht := h t (.head _)
    have u : t.k.toNat ≤ 2 := by rcases ht with h | h <;> omega
    have hs := sl_le (path.drop a)
    rw [List.length_drop] at hs
    have hnil : path.drop a = [] ↔ a = path.length := by rw [List.drop_eq_nil_iff]; omega
    rw [List.map_cons]
    unfold BAt tk1
    by_cases h0 : t.k.toNat = 0
    · rw [if_neg (fun h => h h0), if_pos h0]
      show _ ↔ path.drop a = [] ∨ ((path.drop a).head? = some t.c ∧ BGT (x.map tk1) ((path.drop a).drop 1))
      rw [head_drop, List.drop_drop, hnil]
      refine or_congr_right ⟨fun ⟨h1, h2⟩ => ?_, fun ⟨h1, h2⟩ => ?_⟩
      · have := (List.getElem?_eq_some_iff.1 h1).1
        exact ⟨h1, (begin_tk path x _ (fun t ht => h t (.tail _ ht)) (by omega)).1 h2⟩
      · have := (List.getElem?_eq_some_iff.1 h1).1
        exact ⟨h1, (begin_tk path x _ (fun t ht => h t (.tail _ ht)) (by omega)).2 h2⟩
    · rw [if_pos h0, if_neg h0]
      have ih := begin_tk path x (a + sl (path.drop a)) (fun t ht => h t (.tail _ ht)) (by omega)
      by_cases h1 : t.k.toNat = 1
      · rw [if_pos h1]
        show _ ↔ path.drop a = [] ∨ ¬ (47 : UInt8) ∈ path.drop a ∨ BGT (x.map tk1) ((path.drop a).drop (sl (path.drop a)))
        rw [List.drop_drop, hnil, ih]
        exact ⟨fun h => h.elim .inl (fun h => h.elim (fun h => .inr (.inl h)) (fun h => h.elim (fun h => by omega) (fun h => .inr (.inr h)))), fun h => h.elim .inl (fun h => h.elim (fun h => .inr (.inl h)) (fun h => .inr (.inr (.inr h))))⟩
      · rw [if_neg h1]
        exact ⟨fun _ => trivial, fun _ => .inr (.inr (.inl (by omega)))⟩
end Gt

/- How long the machine can run. No program in sight. -/
namespace Gt
open Gs Tr
/-- a bound of the steps below a node -/
def size : T0 → Nat
  | .node _ _ _ _ _ _ _ _ kids => 2 + sizes kids
where sizes : List T0 → Nat
  | [] => 0
  | k :: ks => size k + sizes ks
theorem size_kid {k : T0} : ∀ {kids : List T0}, k ∈ kids → size k ≤ size.sizes kids
  | [], h => by cases h
  | a :: ks, h => by
    show size k ≤ size a + size.sizes ks
    rcases List.mem_cons.1 h with rfl | h
    · omega
    · have := size_kid h; omega
end Gt

/- The machine's steps at a node that is known. No program in sight. -/
namespace Gt
open Gs Tr
section
variable {u : List UInt8 → List UInt8} {cP cS f : Nat} {P idx full : List UInt8} {wild : Bool} {nt pr : Nat} {h : Option Nat} {kids : List T0} {p : List UInt8} {ps : List (List UInt8 × List UInt8)} {sk : List Sk}
/-- on by a byte -/
theorem get_idx {c : UInt8} {q : List UInt8} {i : Nat} {k : T0} (hp : p = P ++ c :: q) (hi : idxOf c idx = some i) (hk : kids[i]? = some k) (hw : wild = false) :
    getC u cP cS (f + 1) (.node () P idx wild nt pr h full kids) p ps sk = getC u cP cS f k (c :: q) ps sk := by
  subst hp
  subst hw
  rw [getC]
  simp only [Tr.path, Tr.idx, Tr.kids, Tr.wild]
  rw [if_pos ⟨by simp, by simp⟩]
  simp [hi, hk]
/-- on by a byte, and the node is kept for later -/
theorem get_push {c : UInt8} {q : List UInt8} {i : Nat} {k : T0} (hp : p = P ++ c :: q) (hi : idxOf c idx = some i) (hk : kids[i]? = some k) (hw : wild = true) (hr : sk.length < cS) :
    getC u cP cS (f + 1) (.node () P idx wild nt pr h full kids) p ps sk = getC u cP cS f k (c :: q) ps (⟨p, .node () P [] wild nt pr h full kids, ps.length⟩ :: sk) := by
  subst hp
  subst hw
  rw [getC]
  simp only [Tr.path, Tr.idx, Tr.kids, Tr.wild]
  rw [if_pos ⟨by simp, by simp⟩]
  simp [hi, hk, hr, noIdx]
/-- a whole path -/
theorem get_eq {k : Nat} (hp : p = P) (hh : h = some k) : getC u cP cS (f + 1) (.node () P idx wild nt pr h full kids) p ps sk = some ⟨some k, ps, false, full⟩ := by
  subst hp
  subst hh
  rw [getC]
  simp [Tr.path, Tr.h, Tr.full]
/-- on through a parameter -/
theorem get_P {c : UInt8} {q wn widx wfull : List UInt8} {ww : Bool} {wpr : Nat} {wh : Option Nat} {k : T0} {ks : List T0} (hp : p = P ++ c :: q) (hi : idxOf c idx = none) (hw : wild = true) (hl : kids[kids.length - 1]? = some (.node () (58 :: wn) widx ww 2 wpr wh wfull (k :: ks))) (hwn : wn ≠ []) (hs : sl (c :: q) < (c :: q).length) (hr : ps.length < cP) :
    getC u cP cS (f + 1) (.node () P idx wild nt pr h full kids) p ps sk = getC u cP cS f k ((c :: q).drop (sl (c :: q))) (ps ++ [(wn, u ((c :: q).takeWhile (· ≠ 47)))]) sk := by
  subst hp
  subst hw
  have hwl : 0 < wn.length := List.length_pos_iff.2 hwn
  have hd : (P ++ c :: q).drop P.length = c :: q := by simp
  have hs2 : ((c :: q).takeWhile (· ≠ 47)).length < (c :: q).length := hs
  have hs3 : ((c :: q).takeWhile (· ≠ 47)).length = sl (c :: q) := rfl
  rw [getC]
  simp only [Tr.path, Tr.idx, Tr.kids, Tr.wild]
  rw [if_pos ⟨by simp, by simp⟩]
  simp only [hd, List.headD_cons, hi, hl, Tr.nt]
  rw [if_neg (by simp), if_neg (by simp only [List.length_cons]; omega), if_pos trivial, if_pos hs2, hs3]
  rfl
/-- a parameter at the path's end -/
theorem get_Pend {c : UInt8} {q wn widx wfull : List UInt8} {ww : Bool} {wpr k : Nat} {wks : List T0} (hp : p = P ++ c :: q) (hi : idxOf c idx = none) (hw : wild = true) (hl : kids[kids.length - 1]? = some (.node () (58 :: wn) widx ww 2 wpr (some k) wfull wks)) (hwn : wn ≠ []) (hs : ¬ sl (c :: q) < (c :: q).length) (hr : ps.length < cP) :
    getC u cP cS (f + 1) (.node () P idx wild nt pr h full kids) p ps sk = some ⟨some k, ps ++ [(wn, u ((c :: q).takeWhile (· ≠ 47)))], false, wfull⟩ := by
  subst hp
  subst hw
  have hwl : 0 < wn.length := List.length_pos_iff.2 hwn
  have hd : (P ++ c :: q).drop P.length = c :: q := by simp
  have hs2 : ¬ ((c :: q).takeWhile (· ≠ 47)).length < (c :: q).length := hs
  rw [getC]
  simp only [Tr.path, Tr.idx, Tr.kids, Tr.wild]
  rw [if_pos ⟨by simp, by simp⟩]
  simp only [hd, List.headD_cons, hi, hl, Tr.nt]
  rw [if_neg (by simp), if_neg (by simp only [List.length_cons]; omega), if_pos trivial, if_neg hs2]
  simp [Tr.h, Tr.full]
/-- a catch-all -/
theorem get_ca {c : UInt8} {q n full2 : List UInt8} {pr2 k : Nat} (hr : ps.length < cP) :
    getC u cP cS (f + 1) (.node () [] [] true 3 pr h full [.node () (47 :: 42 :: n) [] false 3 pr2 (some k) full2 []]) (c :: q) ps sk = some ⟨some k, ps ++ [(n, u (c :: q))], false, full2⟩ := by
  rw [getC]
  simp [Tr.path, Tr.idx, Tr.kids, Tr.wild, Tr.nt, Tr.h, Tr.full, idxOf, hr]
end
end Gt

/- Tokens that eat a path; what follows for the ways of matching. No program in sight. -/
namespace Gt
open Gs Tr
abbrev Vs := List (List UInt8 × List UInt8)
/-- tokens eat the beginning of a path: the values, what is left -/
inductive Eat : List Tok → List UInt8 → Vs → List UInt8 → Prop
  | nil {p : List UInt8} : Eat [] p [] p
  | b {c : UInt8} {s : List Tok} {q p : List UInt8} {v : Vs} (h : Eat s q v p) : Eat (.b c :: s) (c :: q) v p
  | P {n : List UInt8} {s : List Tok} {a p : List UInt8} {v : Vs} (hs : sl a ≠ 0) (h : Eat s (a.drop (sl a)) v p) : Eat (.P n :: s) a ((n, a.take (sl a)) :: v) p
theorem Eat.app {s r : List Tok} {a p q : List UInt8} {v w : Vs} (h : Eat s a v p) (h2 : Eat r p w q) : Eat (s ++ r) a (v ++ w) q := by
  induction h with
  | nil => exact h2
  | b _ ih => exact .b (ih h2)
  | P hs _ ih => exact .P hs (ih h2)
theorem Eat.bs : ∀ (t p : List UInt8), Eat (bs t) (t ++ p) [] p
  | [], _ => .nil
  | _ :: t, p => .b (Eat.bs t p)
theorem Eat.appb {s : List Tok} {a p : List UInt8} {v : Vs} {t : List UInt8} (h : Eat s a v (t ++ p)) : Eat (s ++ Gt.bs t) a v p := by
  have := h.app (Eat.bs t p)
  rwa [List.append_nil] at this
theorem Eat.MT {s r : List Tok} {a p : List UInt8} {v : Vs} (h : Eat s a v p) : MT (s ++ r) a = (MT r p).map (v ++ ·) := by
  induction h with
  | nil => simp
  | @b c s q p v _ ih => simp [Gt.MT, ih]
  | @P n s a p v hs _ ih =>
    simp only [List.cons_append, Gt.MT]
    rw [if_neg hs, ih, Option.map_map]
    congr 1
theorem Eat.suf {s : List Tok} {a p : List UInt8} {v : Vs} (h : Eat s a v p) : p <:+ a := by
  induction h with
  | nil => exact List.suffix_refl _
  | b _ ih => exact ih.trans (List.suffix_cons _ _)
  | P _ _ ih => exact ih.trans (List.drop_suffix _ _)
theorem sl_nil : sl [] = 0 := rfl
theorem Eat.PT {s r : List Tok} {a p : List UInt8} {v : Vs} (h : Eat s a v p) {d : Nat} : ∀ {i : Nat}, PT d r (i + s.length) p → PT d (s ++ r) i a := by
  induction h with
  | nil => exact fun h => h
  | @b c s q p v _ ih =>
    intro i h
    refine ⟨rfl, ih (i := i + 1) ?_⟩
    rw [List.length_cons] at h
    rwa [Nat.add_assoc, Nat.add_comm 1]
  | @P n s a p v hs _ ih =>
    intro i h
    show if d < i then a ≠ [] else Gt.PT d (s ++ r) (i + 1) (a.drop (sl a))
    by_cases hd : d < i
    · rw [if_pos hd]; rintro rfl; exact hs rfl
    · rw [if_neg hd]
      refine ih (i := i + 1) ?_
      rw [List.length_cons] at h
      rwa [Nat.add_assoc, Nat.add_comm 1]
theorem Eat.BGT {s r : List Tok} {a p : List UInt8} {v : Vs} (h : Eat s a v p) (hb : BGT r p) : BGT (s ++ r) a := by
  induction h with
  | nil => exact hb
  | b _ ih => exact .inr ⟨rfl, ih hb⟩
  | P _ _ ih => exact .inr (.inr (ih hb))
theorem BGT_nil : ∀ (r : List Tok), BGT r []
  | [] => rfl
  | .b _ :: _ => .inl rfl
  | .P _ :: _ => .inl rfl
  | .A _ :: _ => trivial
/-- values, and no more -/
theorem sl_cons {c : UInt8} {d : List UInt8} : sl (c :: d) = if c = 47 then 0 else sl d + 1 := by
  unfold sl
  by_cases h : c = 47
  · subst h; simp
  · rw [if_neg h, List.takeWhile_cons_of_pos (by simpa using h)]; rfl
theorem sl_append : ∀ {a t : List UInt8}, sl a < a.length → sl (a ++ t) = sl a
  | [], _, h => by simp at h
  | c :: a, t, h => by
    rw [List.cons_append, sl_cons, sl_cons]
    by_cases hc : c = 47
    · rw [if_pos hc, if_pos hc]
    · rw [sl_cons, if_neg hc] at h
      rw [if_neg hc, if_neg hc, sl_append (by simpa using h)]
theorem sl_take (a : List UInt8) : (47 : UInt8) ∉ a.take (sl a) := fun h => by
  obtain ⟨i, hi⟩ := List.mem_iff_getElem?.1 h
  rw [List.getElem?_take] at hi
  split at hi
  · rename_i hlt
    obtain ⟨x, hx, hx2⟩ := sl_lt hlt
    rw [hi] at hx
    cases hx
    exact hx2 rfl
  · cases hi
/-- what is left begins with a slash -/
theorem sl_drop {a : List UInt8} (h : sl a < a.length) : ∃ t, a.drop (sl a) = 47 :: t := by
  have h2 := List.getElem?_eq_getElem h
  have := sl_end h2
  exact ⟨_, by rw [List.drop_eq_getElem_cons h, this]⟩
theorem dropLast_drop {a : List UInt8} {n : Nat} (h : n < a.length) : a.dropLast.drop n = (a.drop n).dropLast := by
  rw [List.dropLast_eq_take, List.dropLast_eq_take, List.drop_take, List.length_drop]; congr 1; omega
theorem sl_dropLast {a : List UInt8} (h : sl a < a.length) : sl a.dropLast = sl a := by
  by_cases h2 : sl a < a.dropLast.length
  · have e : a = a.dropLast ++ [a.getLast (by rintro rfl; simp at h)] := (List.dropLast_concat_getLast _).symm
    by_cases h3 : sl a.dropLast < a.dropLast.length
    · conv => rhs; rw [e]
      rw [sl_append h3]
    · exfalso
      have h4 : sl a.dropLast = a.dropLast.length := Nat.le_antisymm (sl_le _) (by omega)
      have hm := sl_take a.dropLast
      rw [h4, List.take_length] at hm
      obtain ⟨t, ht⟩ := sl_drop h
      have : (47 : UInt8) ∈ a.dropLast.drop (sl a) := by
        rw [dropLast_drop h, ht]
        cases t with
        | nil =>
          exfalso
          have hl := congrArg List.length ht
          rw [List.length_drop] at hl
          rw [List.length_dropLast] at h2
          simp at hl; omega
        | cons x t => simp
      exact hm (List.mem_of_mem_drop this)
  · have h3 : sl a = a.dropLast.length := by rw [List.length_dropLast] at h2 ⊢; omega
    have hm : (47 : UInt8) ∉ a.dropLast := by
      have := sl_take a
      rwa [h3, List.length_dropLast, ← List.dropLast_eq_take] at this
    rw [sl_no hm, h3]
theorem Eat.last {s : List Tok} {a p : List UInt8} {v : Vs} (h : Eat s a v p) : p ≠ [] → Eat s a.dropLast v p.dropLast := by
  induction h with
  | nil => exact fun _ => .nil
  | @b c s q p v h ih =>
    intro hp
    have hq : q ≠ [] := by
      rintro rfl
      have := h.suf
      simp at this
      exact hp this
    rw [List.dropLast_cons_of_ne_nil hq]
    exact .b (ih hp)
  | @P n s a p v hs h ih =>
    intro hp
    have hlt : sl a < a.length := by
      have := h.suf.length_le
      rw [List.length_drop] at this
      have := List.length_pos_iff.2 hp
      omega
    have e1 := sl_dropLast hlt
    have e2 : a.take (sl a) = a.dropLast.take (sl a.dropLast) := by
      rw [e1, List.dropLast_eq_take, List.take_take]; congr 1; omega
    rw [e2]
    refine .P (by rw [e1]; exact hs) ?_
    rw [e1, dropLast_drop hlt]
    exact ih hp
theorem Eat.snoc {s : List Tok} {a p : List UInt8} {v : Vs} (t : List UInt8) (h : Eat s a v p) : p ≠ [] → Eat s (a ++ t) v (p ++ t) := by
  induction h with
  | nil => exact fun _ => .nil
  | b _ ih => exact fun hp => .b (ih hp)
  | @P n s a p v hs h ih =>
    intro hp
    have hlt : sl a < a.length := by
      have := h.suf.length_le
      rw [List.length_drop] at this
      have := List.length_pos_iff.2 hp
      omega
    have e1 : sl (a ++ t) = sl a := sl_append hlt
    have e2 : a.take (sl a) = (a ++ t).take (sl (a ++ t)) := by
      rw [e1, List.take_append_of_le_length (by omega)]
    rw [e2]
    refine .P (by rw [e1]; exact hs) ?_
    rw [e1, List.drop_append_of_le_length (by omega)]
    exact ih hp
/-- how many wildcards, how many slashes -/
def nW : List Tok → Nat
  | [] => 0
  | .b _ :: s => nW s
  | .P _ :: s => nW s + 1
  | .A _ :: s => nW s + 1
def nS : List Tok → Nat
  | [] => 0
  | .b c :: s => nS s + (if c = 47 then 1 else 0)
  | .P _ :: s => nS s
  | .A _ :: s => nS s
theorem nW_app : ∀ (s r : List Tok), nW (s ++ r) = nW s + nW r
  | [], r => by simp [nW]
  | .b c :: s, r => by simp [nW, nW_app s r]
  | .P n :: s, r => by simp [nW, nW_app s r]; omega
  | .A n :: s, r => by simp [nW, nW_app s r]; omega
theorem nS_app : ∀ (s r : List Tok), nS (s ++ r) = nS s + nS r
  | [], r => by simp [nS]
  | .b c :: s, r => by simp [nS, nS_app s r]; omega
  | .P n :: s, r => by simp [nS, nS_app s r]
  | .A n :: s, r => by simp [nS, nS_app s r]
theorem Eat.len {s : List Tok} {a p : List UInt8} {v : Vs} (h : Eat s a v p) : v.length = nW s := by
  induction h with
  | nil => rfl
  | b _ ih => exact ih
  | P _ _ ih => simp [nW, ih]
/-- a route goes ahead of another one: no two ways -/
theorem BT_irr : ∀ {s : List Tok}, ¬ BT s s
  | [] => fun h => h
  | _ :: _ => fun h => h.elim (fun h => BT_irr h.2) (fun h => h.1 rfl)
theorem BT_asym : ∀ {s r : List Tok}, BT s r → ¬ BT r s
  | [], _ => fun h => by cases h
  | _ :: _, [] => fun h => by cases h
  | a :: s, b :: r => fun h h2 => by
    rcases h with ⟨h, h1⟩ | ⟨h, h1⟩
    · rcases h2 with ⟨_, h3⟩ | ⟨h3, _⟩
      · exact BT_asym h1 h3
      · exact h3 h.symm
    · rcases h2 with ⟨h3, _⟩ | ⟨_, h3⟩
      · exact h h3.symm
      · omega
/-- two routes that go together up to a byte here and a parameter there -/
theorem BT_part : ∀ (pre : List Tok) (c : UInt8) (n : List UInt8) (s r : List Tok), BT (pre ++ .b c :: s) (pre ++ .P n :: r) ∧ sameT (pre ++ .b c :: s) (pre ++ .P n :: r) = pre.length
  | [], c, n, s, r => ⟨.inr ⟨by simp, by simp [rk]⟩, by simp [sameT]⟩
  | x :: pre, c, n, s, r => by
    obtain ⟨h1, h2⟩ := BT_part pre c n s r
    exact ⟨.inl ⟨rfl, h1⟩, by simp only [List.cons_append, sameT, if_true, h2, List.length_cons]⟩
/-- ahead of a parameter stands a slash -/
theorem Ok_before : ∀ {sl : Bool} {x : List Tok} {n : List UInt8} {s : List Tok}, Ok sl (x ++ .P n :: s) → (x = [] ∧ sl = true) ∨ ∃ y, x = y ++ [.b 47]
  | _, [], _, _, h => .inl ⟨rfl, h.1⟩
  | _, .b c :: x, n, s, h => by
    rcases Ok_before (x := x) h.2 with ⟨rfl, h2⟩ | ⟨y, rfl⟩
    · right
      have : c = 47 := by simpa using h2
      exact ⟨[], by rw [this]; rfl⟩
    · exact .inr ⟨.b c :: y, rfl⟩
  | _, .P m :: x, n, s, h => by
    rcases Ok_before (x := x) h.2.2.2 with ⟨rfl, h2⟩ | ⟨y, rfl⟩
    · cases h2
    · exact .inr ⟨.P m :: y, rfl⟩
  | _, .A m :: x, n, s, h => by
    have := h.2.2
    cases x <;> cases this
theorem Eat.behind : ∀ {y : List Tok} {a p : List UInt8} {v : Vs}, Eat (y ++ [.b 47]) a v p → (47 :: p) <:+ a
  | [], a, p, v, h => by
    cases h with
    | b h => cases h; exact List.suffix_refl _
  | .b c :: y, a, p, v, h => by
    cases h with
    | b h => exact h.behind.trans (List.suffix_cons _ _)
  | .P n :: y, a, p, v, h => by
    cases h with
    | P hs h => exact h.behind.trans (List.drop_suffix _ _)
  | .A n :: y, a, p, v, h => by cases h
end Gt

/- The machine's steps at a node that is known: the pops and the ends. No program in sight. -/
namespace Gt
open Gs Tr
section
variable {u : List UInt8 → List UInt8} {cP cS f : Nat} {P idx full : List UInt8} {wild : Bool} {nt pr : Nat} {h : Option Nat} {kids : List T0} {p : List UInt8} {ps : List (List UInt8 × List UInt8)} {sk : List Sk}
theorem popC_cons {e : Sk} {p : List UInt8} {n : Nat} (h1 : p <:+ e.path) (h2 : e.cnt ≤ n) : popC p n (e :: sk) = some (some (e, sk)) := by
  show (if p <:+ e.path ∧ e.cnt ≤ n then some (some (e, sk)) else none) = _
  rw [if_pos ⟨h1, h2⟩]
/-- no way on, back to what was kept -/
theorem get_popA {c : UInt8} {q : List UInt8} {e : Sk} (hp : p = P ++ c :: q) (hi : idxOf c idx = none) (hw : wild = false) (h47 : c :: q ≠ [47]) (h1 : (c :: q) <:+ e.path) (h2 : e.cnt ≤ ps.length) :
    getC u cP cS (f + 1) (.node () P idx wild nt pr h full kids) p ps (e :: sk) = getC u cP cS f e.node e.path (ps.take e.cnt) sk := by
  subst hp
  subst hw
  rw [getC]
  simp only [n_path, n_idx, n_kids, n_wild]
  rw [if_pos ⟨by simp, by simp⟩]
  have hd : (P ++ c :: q).drop P.length = c :: q := by simp
  simp only [hd, List.headD_cons, hi, if_true, if_pos h47, popC_cons h1 h2]
/-- no way on, nothing was kept -/
theorem get_endA {c : UInt8} {q : List UInt8} (hp : p = P ++ c :: q) (hi : idxOf c idx = none) (hw : wild = false) (h47 : c :: q = [47] ∨ sk = []) :
    getC u cP cS (f + 1) (.node () P idx wild nt pr h full kids) p ps sk = some ⟨none, ps, decide (c :: q = [47]) && h.isSome, []⟩ := by
  subst hp
  subst hw
  rw [getC]
  simp only [n_path, n_idx, n_kids, n_wild]
  rw [if_pos ⟨by simp, by simp⟩]
  have hd : (P ++ c :: q).drop P.length = c :: q := by simp
  by_cases h4 : c :: q = [47]
  · have : ¬ (c :: q ≠ [47]) := fun h => h h4
    simp only [hd, List.headD_cons, hi, if_true, if_neg this, Tr.h]
  · rcases h47 with h47 | rfl
    · exact absurd h47 h4
    · simp only [hd, List.headD_cons, hi, if_true, if_pos h4, popC, Tr.h]
/-- the path's end in a node, no route's; back to what was kept -/
theorem get_popB {e : Sk} (hp : p = P) (hh : h = none) (h47 : p ≠ [47]) (h1 : p <:+ e.path) (h2 : e.cnt ≤ ps.length) :
    getC u cP cS (f + 1) (.node () P idx wild nt pr h full kids) p ps (e :: sk) = getC u cP cS f e.node e.path (ps.take e.cnt) sk := by
  subst hp
  subst hh
  rw [getC]
  simp only [n_path, n_idx, n_kids, n_wild, n_h]
  have hc : ¬ (p.length < p.length ∧ p.take p.length = p) := fun h => Nat.lt_irrefl _ h.1
  rw [if_neg hc, if_pos trivial]
  simp only [Option.isNone_none, true_and, if_pos h47, popC_cons h1 h2]
/-- the path's end in a node, no route's -/
theorem get_endB (hp : p = P) (hh : h = none) (h47 : p = [47] ∨ sk = []) :
    getC u cP cS (f + 1) (.node () P idx wild nt pr h full kids) p ps sk =
      if p = [47] ∧ wild = true ∧ nt ≠ 1 then some ⟨none, ps, true, []⟩
        else if p = [47] ∧ nt = 0 then some ⟨none, ps, true, []⟩
        else match idxOf 47 idx with
        | some i =>
          match kids[i]? with
          | some k => (if k.nt = 3 ∧ k.kids = [] then none else some ⟨none, ps, (decide (k.path.length = 1) && k.h.isSome) || (decide (k.nt = 3) && ((k.kids.head?).map (·.h.isSome)).getD false), []⟩)
          | none => none
        | none => some ⟨none, ps, false, []⟩ := by
  subst hp
  subst hh
  have hc : ¬ (p.length < p.length ∧ p.take p.length = p) := fun h => Nat.lt_irrefl _ h.1
  rw [getC]
  simp only [n_path, n_idx, n_kids, n_wild, n_h, n_nt, n_full]
  rw [if_neg hc, if_pos trivial]
  by_cases h4 : p = [47]
  · simp [h4]; rfl
  · rcases h47 with h47 | rfl
    · exact absurd h47 h4
    · simp [h4, popC]; rfl
/-- a path that leaves the node's: back to what was kept -/
theorem get_popC {e : Sk} (hp : ¬ P <+: p) (ht : ¬ (p = [47] ∨ (P = p ++ [47] ∧ h.isSome = true))) (h1 : p <:+ e.path) (h2 : e.cnt ≤ ps.length) :
    getC u cP cS (f + 1) (.node () P idx wild nt pr h full kids) p ps (e :: sk) = getC u cP cS f e.node e.path (ps.take e.cnt) sk := by
  have e1 : (decide (p = [47]) || (decide (P = p ++ [47]) && h.isSome)) = false := by
    rw [Bool.or_eq_false_iff, Bool.and_eq_false_iff]
    exact ⟨decide_eq_false fun h => ht (.inl h), by
      by_cases h' : P = p ++ [47]
      · exact .inr (by
          cases hh : h.isSome with
          | false => rfl
          | true => exact absurd (.inr ⟨h', hh⟩) ht)
      · exact .inl (decide_eq_false h')⟩
  rw [getC]
  have hc : ¬ ((Tr.node () P idx wild nt pr h full kids).path.length < p.length ∧ p.take (Tr.node () P idx wild nt pr h full kids).path.length = (Tr.node () P idx wild nt pr h full kids).path) := fun h => hp (List.prefix_iff_eq_take.2 h.2.symm)
  have hc2 : ¬ (p = (Tr.node () P idx wild nt pr h full kids).path) := fun h => hp (h ▸ List.prefix_refl _)
  rw [if_neg hc, if_neg hc2]
  have e2 : (decide (p = [47]) || (decide ((Tr.node () P idx wild nt pr h full kids).path = p ++ [47]) && (Tr.node () P idx wild nt pr h full kids).h.isSome)) = false := e1
  rw [e2]
  simp only [if_true, popC_cons h1 h2]
/-- a path that leaves the node's -/
theorem get_endC (hp : ¬ P <+: p) (ht : (p = [47] ∨ (P = p ++ [47] ∧ h.isSome = true)) ∨ sk = []) :
    getC u cP cS (f + 1) (.node () P idx wild nt pr h full kids) p ps sk = some ⟨none, ps, decide (p = [47]) || (decide (P = p ++ [47]) && h.isSome), []⟩ := by
  have e1 : (if (decide (p = [47]) || (decide (P = p ++ [47]) && h.isSome)) = false then popC p ps.length sk else some none) = some none := by
    rcases ht with ht | rfl
    · rw [if_neg]
      rcases ht with ht | ⟨ht, hh⟩
      · rw [decide_eq_true ht]; simp
      · rw [decide_eq_true ht, hh]; simp
    · split <;> rfl
  rw [getC]
  have hc : ¬ ((Tr.node () P idx wild nt pr h full kids).path.length < p.length ∧ p.take (Tr.node () P idx wild nt pr h full kids).path.length = (Tr.node () P idx wild nt pr h full kids).path) := fun h => hp (List.prefix_iff_eq_take.2 h.2.symm)
  have hc2 : ¬ (p = (Tr.node () P idx wild nt pr h full kids).path) := fun h => hp (h ▸ List.prefix_refl _)
  rw [if_neg hc, if_neg hc2]
  have e2 : (if (decide (p = [47]) || (decide ((Tr.node () P idx wild nt pr h full kids).path = p ++ [47]) && (Tr.node () P idx wild nt pr h full kids).h.isSome)) = false then popC p ps.length sk else some none) = some none := e1
  rw [e2]
  rfl
/-- a parameter with a slash behind, and no way on -/
theorem get_Pno {c : UInt8} {q wn widx wfull : List UInt8} {ww : Bool} {wpr : Nat} {wh : Option Nat} (hp : p = P ++ c :: q) (hi : idxOf c idx = none) (hw : wild = true) (hl : kids[kids.length - 1]? = some (.node () (58 :: wn) widx ww 2 wpr wh wfull [])) (hwn : wn ≠ []) (hs : sl (c :: q) < (c :: q).length) (hr : ps.length < cP) :
    getC u cP cS (f + 1) (.node () P idx wild nt pr h full kids) p ps sk = some ⟨none, ps ++ [(wn, u ((c :: q).takeWhile (· ≠ 47)))], decide ((c :: q).length = sl (c :: q) + 1), []⟩ := by
  subst hp
  subst hw
  have hwl : 0 < wn.length := List.length_pos_iff.2 hwn
  have hd : (P ++ c :: q).drop P.length = c :: q := by simp
  have hs2 : ((c :: q).takeWhile (· ≠ 47)).length < (c :: q).length := hs
  have hs3 : ((c :: q).takeWhile (· ≠ 47)).length = sl (c :: q) := rfl
  rw [getC]
  simp only [n_path, n_idx, n_kids, n_wild]
  rw [if_pos ⟨by simp, by simp⟩]
  simp only [hd, List.headD_cons, hi, hl, Tr.nt, Tr.kids, Tr.path]
  rw [if_neg (by simp), if_neg (by simp only [List.length_cons]; omega), if_pos trivial, if_pos hs2, hs3]
  rfl
/-- a parameter at the path's end, no route's -/
theorem get_Pend0 {c : UInt8} {q wn widx wfull : List UInt8} {ww : Bool} {wpr : Nat} {wks : List T0} (hp : p = P ++ c :: q) (hi : idxOf c idx = none) (hw : wild = true) (hl : kids[kids.length - 1]? = some (.node () (58 :: wn) widx ww 2 wpr none wfull wks)) (hwn : wn ≠ []) (hs : ¬ sl (c :: q) < (c :: q).length) (hr : ps.length < cP) :
    ∃ ts, getC u cP cS (f + 1) (.node () P idx wild nt pr h full kids) p ps sk = some ⟨none, ps ++ [(wn, u ((c :: q).takeWhile (· ≠ 47)))], ts, []⟩ := by
  subst hp
  subst hw
  have hwl : 0 < wn.length := List.length_pos_iff.2 hwn
  have hd : (P ++ c :: q).drop P.length = c :: q := by simp
  have hs2 : ¬ ((c :: q).takeWhile (· ≠ 47)).length < (c :: q).length := hs
  rw [getC]
  simp only [n_path, n_idx, n_kids, n_wild]
  rw [if_pos ⟨by simp, by simp⟩]
  simp only [hd, List.headD_cons, hi, hl, Tr.nt, Tr.kids, Tr.path]
  rw [if_neg (by simp), if_neg (by simp only [List.length_cons]; omega), if_pos trivial, if_neg hs2]
  simp only [Tr.h, Option.isSome_none, Bool.false_eq_true, if_false]
  split <;> exact ⟨_, rfl⟩
end
end Gt

/- What is known of the machine's states. No program in sight. -/
namespace Gt
open Gs Tr
/-- what is known of a table and a path -/
structure Tb (F0 : F) (p0 : List UInt8) (cP cS : Nat) : Prop where
  ok : ∀ s v, F0 s = some v → Ok false s
  w : ∀ s v, F0 s = some v → nW s ≤ cP
  sl : ∀ s v, F0 s = some v → nS s ≤ cS
  nd : ∀ t, ¬ (47 :: 47 :: t) <:+ p0
/-- at a node -/
structure IA (F0 : F) (p0 : List UInt8) (n : T0) (f : F) (pre : List Tok) (p : List UInt8) (vs : Vs) : Prop where
  rep : Rep true n f
  nt : n.nt ≠ 2
  sub : ∀ s v, f s = some v → F0 (pre ++ s) = some v
  ne : ∃ s v, f s = some v
  hd : ∃ c q, p = c :: q ∧ ∀ s v, f s = some v → ∃ r, s = .b c :: r
  eat : Eat pre p0 vs p
/-- ahead of a parameter -/
structure IB (F0 : F) (p0 : List UInt8) (pre : List Tok) (c : UInt8) (q : List UInt8) (vs : Vs) (wn : List UInt8) (wk : T0) (fw : F) : Prop where
  rep : Rep true wk fw
  nt : wk.nt = 2
  path : wk.path = 58 :: wn
  wd : word wn
  sub : ∀ s v, fw s = some v → F0 (pre ++ .P wn :: s) = some v
  ne : ∃ s v, fw s = some v
  eat : Eat pre p0 vs (c :: q)
  c47 : c ≠ 47
/-- what is kept for later, and what it stands for -/
structure Gh where
  e : Sk
  pre : List Tok
  c : UInt8
  q : List UInt8
  vs : Vs
  wn : List UInt8
  wk : T0
  fw : F
structure IG (F0 : F) (p0 : List UInt8) (g : Gh) : Prop where
  ib : IB F0 p0 g.pre g.c g.q g.vs g.wn g.wk g.fw
  e : ∃ P nt pr h full kids, g.e = ⟨P ++ g.c :: g.q, .node () P [] true nt pr h full kids, g.vs.length⟩ ∧ kids[kids.length - 1]? = some g.wk
/-- the values as they are told -/
def U (u : List UInt8 → List UInt8) (vs : Vs) : Vs := vs.map fun x => (x.1, u x.2)
theorem U_len (u : List UInt8 → List UInt8) (vs : Vs) : (U u vs).length = vs.length := List.length_map _
theorem U_take (u : List UInt8 → List UInt8) (vs : Vs) (n : Nat) : (U u vs).take n = U u (vs.take n) := (List.map_take ..).symm
theorem U_app (u : List UInt8 → List UInt8) (vs ws : Vs) : U u (vs ++ ws) = U u vs ++ U u ws := List.map_append
/-- all that is kept -/
def SI (F0 : F) (p0 : List UInt8) : List UInt8 → Vs → List Gh → Prop
  | _, _, [] => True
  | p, vs, g :: gs => IG F0 p0 g ∧ p <:+ g.e.path ∧ vs.take g.vs.length = g.vs ∧ gs.length ≤ nS g.pre ∧ SI F0 p0 g.e.path g.vs gs
theorem SI.suf {F0 : F} {p0 p p' : List UInt8} {vs : Vs} : ∀ {gs : List Gh}, SI F0 p0 p vs gs → p' <:+ p → SI F0 p0 p' vs gs
  | [], _, _ => trivial
  | _ :: _, ⟨h1, h2, h3, h4, h5⟩, h => ⟨h1, h.trans h2, h3, h4, h5⟩
theorem SI.more {F0 : F} {p0 p : List UInt8} {vs : Vs} (ws : Vs) : ∀ {gs : List Gh}, SI F0 p0 p vs gs → SI F0 p0 p (vs ++ ws) gs
  | [], _ => trivial
  | g :: _, ⟨h1, h2, h3, h4, h5⟩ => ⟨h1, h2, by
      have hl : g.vs.length ≤ vs.length := by
        have := congrArg List.length h3
        rw [List.length_take] at this; omega
      rw [List.take_append_of_le_length hl]; exact h3, h4, h5⟩
def wts : List Gh → Nat
  | [] => 0
  | g :: gs => 1 + size g.wk + wts gs
/-- what is found is a route of the path -/
def Snd (F0 : F) (p0 : List UInt8) (u : List UInt8 → List UInt8) (r : Res) : Prop := (∃ s k v, r.h = some k ∧ F0 s = some (k, r.full) ∧ MT s p0 = some v ∧ r.ps = U u v) ∨ (r.h = none ∧ r.full = [])
/-- the route that is to be found -/
structure Bst (F0 : F) (p0 : List UInt8) (s : List Tok) (k : Nat) (full : List UInt8) (v : Vs) : Prop where
  f : F0 s = some (k, full)
  m : MT s p0 = some v
  best : ∀ x w, F0 x = some w → MT x p0 ≠ none → ¬ BT x s
  o1 : ∀ x w, F0 x = some w → BT x s → MT x (other p0) = none
  o2 : ∀ x w, F0 x = some w → BT x s → ¬ PT (sameT x s) x 0 p0
  o3 : (other p0).length < p0.length → ∀ x w, F0 x = some w → BT x s → ¬ BGT x (other p0)
abbrev CT := List Tok → Nat → List UInt8 → Prop
def Cur (pre : List Tok) (f : F) : CT := fun s k full => ∃ s', s = pre ++ s' ∧ f s' = some (k, full)
def CB (pre : List Tok) (wn : List UInt8) (fw : F) : CT := fun s k full => ∃ s3, s = pre ++ .P wn :: s3 ∧ fw s3 = some (k, full)
def Skip (pre : List Tok) (f : F) (gs : List Gh) : CT := fun s k full => ∃ g gs', gs = g :: gs' ∧ CB g.pre g.wn g.fw s k full ∧ pre ≠ [] ∧ ∀ y w, f y = some w → BT (pre ++ y) s ∧ sameT (pre ++ y) s ≤ pre.length
def CA (pre : List Tok) (f : F) (gs : List Gh) : CT := fun s k full => Cur pre f s k full ∨ Skip pre f gs s k full
structure Post (F0 : F) (p0 : List UInt8) (cP : Nat) (u : List UInt8 → List UInt8) (C : CT) (r : Res) : Prop where
  len : r.ps.length ≤ cP
  snd : Snd F0 p0 u r
  fnd : ∀ s k full v, Bst F0 p0 s k full v → C s k full → r.h = some k ∧ r.full = full ∧ r.ps = U u v
theorem Post.imp {F0 : F} {p0 : List UInt8} {cP : Nat} {u : List UInt8 → List UInt8} {C C' : CT} {r : Res} (h : Post F0 p0 cP u C r) (hc : ∀ s k full v, Bst F0 p0 s k full v → C' s k full → C s k full) : Post F0 p0 cP u C' r :=
  ⟨h.len, h.snd, fun s k full v hb hC => h.fnd s k full v hb (hc s k full v hb hC)⟩
/-- nothing is found, and there is nothing to find -/
theorem Post.no {F0 : F} {p0 : List UInt8} {cP : Nat} {u : List UInt8 → List UInt8} {C : CT} {ps : Vs} {ts : Bool} (hl : ps.length ≤ cP) (h : ∀ s k full v, Bst F0 p0 s k full v → ¬ C s k full) : Post F0 p0 cP u C ⟨none, ps, ts, []⟩ :=
  ⟨hl, .inr ⟨rfl, rfl⟩, fun s k full v hb hC => absurd hC (h s k full v hb)⟩
theorem Eat.lt {s : List Tok} {a p : List UInt8} {v : Vs} (h : Eat s a v p) (hs : s ≠ []) : p.length < a.length := by
  cases h with
  | nil => exact absurd rfl hs
  | b h => have := h.suf.length_le; simp only [List.length_cons]; omega
  | P h0 h =>
    have := h.suf.length_le
    rw [List.length_drop] at this
    have := sl_le a
    omega
theorem MT_nil {s : List Tok} {v : Vs} (h : MT s [] = some v) : s = [] ∨ ∃ n r, s = .A n :: r := by
  match s, h with
  | [], _ => exact .inl rfl
  | .b c :: s, h => simp [MT] at h
  | .P n :: s, h => simp [MT, sl_nil] at h
  | .A n :: s, _ => exact .inr ⟨n, s, rfl⟩
/-- what goes ahead, and begins with the path without its slash: it is left open -/
theorem Bst.beg {F0 : F} {p0 : List UInt8} {s : List Tok} {k : Nat} {full : List UInt8} {v vs : Vs} (hb : Bst F0 p0 s k full v) {y r : List Tok} {w} (hy : y ≠ []) (he : Eat y p0 vs [47]) (hx : F0 (y ++ r) = some w) (hbt : BT (y ++ r) s) : False := by
  have hlt := he.lt hy
  have hl1 : 1 < p0.length := hlt
  have hlast : p0[p0.length - 1]? = some 47 := by
    obtain ⟨t, rfl⟩ := he.suf
    simp
  have hoth : other p0 = p0.dropLast := by
    unfold other
    rw [if_pos ⟨hl1, hlast⟩, List.dropLast_eq_take]
  refine hb.o3 (by rw [hoth, List.length_dropLast]; omega) _ _ hx hbt ?_
  rw [hoth]
  have := he.last (by simp)
  exact this.BGT (BGT_nil r)
/-- what goes ahead is no route of the path with a slash more -/
theorem Bst.more {F0 : F} {p0 : List UInt8} {s : List Tok} {k : Nat} {full : List UInt8} {v vs : Vs} (hb : Bst F0 p0 s k full v) {pre : List Tok} {p : List UInt8} {w} (hpre : pre ≠ []) (hp : p ≠ []) (he : Eat pre p0 vs p) (hx : F0 (pre ++ bs (p ++ [47])) = some w) (hbt : BT (pre ++ bs (p ++ [47])) s) : False := by
  by_cases h47 : [47] <:+ p0
  · obtain ⟨t, ht⟩ := h47
    obtain ⟨p1, rfl⟩ : ∃ p1, p = p1 ++ [47] := by
      obtain ⟨a, ha⟩ := he.suf
      rcases List.eq_nil_or_concat p with e | ⟨l, x, e⟩
      · exact absurd e hp
      · rw [List.concat_eq_append] at e
        subst e
        rw [← ha, ← List.append_assoc] at ht
        have := List.append_inj_right' ht rfl
        exact ⟨l, by rw [this]⟩
    have h2 : pre ++ bs (p1 ++ [47] ++ [47]) = (pre ++ bs p1) ++ [.b 47, .b 47] := by simp [bs]
    rw [h2] at hx hbt
    exact hb.beg (by simp [hpre]) he.appb hx hbt
  · have hoth : other p0 = p0 ++ [47] := by
      unfold other
      rw [if_neg]
      rintro ⟨_, h⟩
      apply h47
      obtain ⟨h1, h2⟩ := List.getElem?_eq_some_iff.1 h
      refine ⟨p0.dropLast, ?_⟩
      have hne : p0 ≠ [] := by rintro rfl; simp at h1
      have := List.dropLast_concat_getLast hne
      rw [List.getLast_eq_getElem, h2] at this
      exact this
    have h1 := hb.o1 _ _ hx hbt
    have h3 := (he.snoc [47] hp).MT (r := bs (p ++ [47]))
    rw [← hoth, h1] at h3
    have h4 := MT_bs (p ++ [47]) [] (p ++ [47])
    rw [List.append_nil] at h4
    rw [h4, if_pos (by simp)] at h3
    simp [MT] at h3
end Gt

/- The machine ahead of a parameter. No program in sight. -/
namespace Gt
open Gs Tr
section
variable {F0 : F} {p0 : List UInt8} {u : List UInt8 → List UInt8} {cP cS : Nat}
/-- what is asked of the machine at nodes up to a size -/
def RA (F0 : F) (p0 : List UInt8) (u : List UInt8 → List UInt8) (cP cS M : Nat) : Prop := ∀ n f pre p vs gs, size n + wts gs ≤ M → IA F0 p0 n f pre p vs → SI F0 p0 p vs gs → gs.length ≤ nS pre → ∃ g r, getC u cP cS g n p (U u vs) (gs.map Gh.e) = some r ∧ Post F0 p0 cP u (CA pre f gs) r
def RB (F0 : F) (p0 : List UInt8) (u : List UInt8 → List UInt8) (cP cS M : Nat) : Prop := ∀ pre c q vs wn wk fw gs P idx nt pr h full kids, 1 + size wk + wts gs ≤ M → IB F0 p0 pre c q vs wn wk fw → SI F0 p0 (c :: q) vs gs → gs.length ≤ nS pre → idxOf c idx = none → kids[kids.length - 1]? = some wk →
  ∃ g r, getC u cP cS g (.node () P idx true nt pr h full kids) (P ++ c :: q) (U u vs) (gs.map Gh.e) = some r ∧ Post F0 p0 cP u (CB pre wn fw) r
theorem IB.room {pre c q vs wn wk fw} (tb : Tb F0 p0 cP cS) (h : IB F0 p0 pre c q vs wn wk fw) : vs.length + 1 ≤ cP := by
  obtain ⟨s, v, hs⟩ := h.ne
  have := tb.w _ _ (h.sub s v hs)
  rw [nW_app, ← h.eat.len] at this
  simp only [nW] at this
  omega
theorem take_sl (a : List UInt8) : a.takeWhile (· ≠ 47) = a.take (sl a) := List.prefix_iff_eq_take.1 (List.takeWhile_prefix _)
theorem stepB {M : Nat} (tb : Tb F0 p0 cP cS) (ih : RA F0 p0 u cP cS M) : RB F0 p0 u cP cS (M + 1) := by
  intro pre c q vs wn wk fw gs P idx nt pr h full kids hM hib hsi hgs hi hl
  have hroom := hib.room tb
  have hs0 : sl (c :: q) ≠ 0 := by rw [sl_cons, if_neg hib.c47]; omega
  have hUr : (U u vs).length < cP := by rw [U_len]; omega
  have hwn := hib.wd.1
  have eU : U u vs ++ [(wn, u ((c :: q).takeWhile (· ≠ 47)))] = U u (vs ++ [(wn, (c :: q).take (sl (c :: q)))]) := by
    rw [U_app, take_sl]; rfl
  have eat2 : Eat (pre ++ [.P wn]) p0 (vs ++ [(wn, (c :: q).take (sl (c :: q)))]) ((c :: q).drop (sl (c :: q))) := hib.eat.app (.P hs0 .nil)
  have hMT : ∀ s3, MT (pre ++ .P wn :: s3) p0 = (MT s3 ((c :: q).drop (sl (c :: q)))).map ((vs ++ [(wn, (c :: q).take (sl (c :: q)))]) ++ ·) := fun s3 => by
    have := eat2.MT (r := s3)
    rwa [List.append_assoc] at this
  have hlen : ∀ x : List UInt8 × List UInt8, (U u vs ++ [x]).length ≤ cP := fun x => by rw [List.length_append, U_len]; exact hroom
  by_cases hs : sl (c :: q) < (c :: q).length
  · obtain ⟨t, ht⟩ := sl_drop hs
    -- what is to be found goes on behind the parameter
    have hgo : ∀ s k full v s3, Bst F0 p0 s k full v → s = pre ++ .P wn :: s3 → s3 ≠ [] := by
      rintro s k full v s3 hb rfl rfl
      have := hb.m
      rw [hMT, ht] at this
      simp [MT] at this
    have hrep := hib.rep
    have hnt := hib.nt
    have hpa := hib.path
    have hsub := hib.sub
    cases hrep with
    | st wn' wk' hp hnt' =>
      simp only [n_nt] at hnt
      omega
    | ca hn => simp only [n_nt] at hnt; omega
    | pa hh hno =>
      simp only [n_path, List.cons.injEq, true_and] at hpa
      subst hpa
      refine ⟨1, _, get_Pno rfl hi rfl hl hwn hs hUr, Post.no (hlen _) fun s k full v hb hC => ?_⟩
      obtain ⟨s3, rfl, hf⟩ := hC
      have := hno s3 (hgo _ _ _ _ _ hb rfl)
      rw [this] at hf; cases hf
    | pk hh hidx hk hkn h47 hne =>
      rename_i n idx2 pr2 h2 full2 k
      simp only [n_path, List.cons.injEq, true_and] at hpa
      subst hpa
      obtain ⟨g, r, h1, h2⟩ := ih k _ (pre ++ [.P n]) ((c :: q).drop (sl (c :: q))) (vs ++ [(n, (c :: q).take (sl (c :: q)))]) gs (by simp only [size, size.sizes] at hM; omega)
        { rep := hk
          nt := by rw [hkn]; decide
          sub := fun s v hv => by
            have hv2 : (if s = [] then none else fw s) = some v := hv
            split at hv2
            · cases hv2
            · have := hsub s v hv2
              rwa [List.append_assoc]
          ne := by
            obtain ⟨s, v, hs1, hs2⟩ := hne
            exact ⟨s, v, (if_neg hs1).trans hs2⟩
          hd := ⟨47, t, ht, fun s v hv => by
            have hv2 : (if s = [] then none else fw s) = some v := hv
            split at hv2
            · cases hv2
            · rename_i hs1
              exact (h47 s v hv2).resolve_left hs1⟩
          eat := eat2 } ((hsi.more _).suf (List.drop_suffix _ _)) (by rw [nS_app]; simp only [nS]; omega)
      refine ⟨g + 1, r, ?_, h2.imp fun s k' full' v hb hC => ?_⟩
      · rw [get_P rfl hi rfl hl hwn hs hUr, eU]; exact h1
      · obtain ⟨s3, rfl, hf⟩ := hC
        exact .inl ⟨s3, by simp, (if_neg (hgo _ _ _ _ _ hb rfl)).trans hf⟩
  · have hdrop : (c :: q).drop (sl (c :: q)) = [] := List.drop_of_length_le (by omega)
    have hend : ∀ s k full v s3, Bst F0 p0 s k full v → s = pre ++ .P wn :: s3 → fw s3 = some (k, full) → s3 = [] ∧ v = vs ++ [(wn, (c :: q).take (sl (c :: q)))] := by
      rintro s k full v s3 hb rfl hf
      have hm := hb.m
      rw [hMT, hdrop] at hm
      obtain ⟨v3, hv3, hv4⟩ := Option.map_eq_some_iff.1 hm
      rcases MT_nil hv3 with rfl | ⟨n, r, rfl⟩
      · simp [MT] at hv3
        subst hv3
        exact ⟨rfl, by rw [← hv4]; simp⟩
      · exfalso
        have hok := tb.ok _ _ hb.f
        have e1 : pre ++ .P wn :: .A n :: r = (pre ++ [.P wn]) ++ .A n :: r := by simp
        have hbad : ∀ (x : List Tok) (sl : Bool), ¬ Ok sl (x ++ .P wn :: .A n :: r) := by
          intro x
          induction x with
          | nil =>
            intro sl hx
            rcases hx.2.2.1 with h | ⟨_, h⟩ <;> cases h
          | cons y x ihx =>
            intro sl hx
            cases y with
            | b d => exact ihx _ hx.2
            | P m => exact ihx _ hx.2.2.2
            | A m => have := hx.2.2; cases x <;> cases this
        exact hbad _ _ hok
    have key : ∀ (widx wfull : List UInt8) (ww : Bool) (wpr : Nat) (wh : Option Nat) (wks : List T0), wk = .node () (58 :: wn) widx ww 2 wpr wh wfull wks → fw [] = wh.map (fun k => (k, wfull)) →
        ∃ g r, getC u cP cS g (.node () P idx true nt pr h full kids) (P ++ c :: q) (U u vs) (gs.map Gh.e) = some r ∧ Post F0 p0 cP u (CB pre wn fw) r := by
      intro widx wfull ww wpr wh wks hwk hh
      subst hwk
      cases wh with
      | none =>
        obtain ⟨ts, h1⟩ := get_Pend0 (u := u) (cP := cP) (cS := cS) (f := 0) (P := P) (idx := idx) (full := full) (nt := nt) (pr := pr) (h := h) (ps := U u vs) (sk := gs.map Gh.e) rfl hi rfl hl hwn hs hUr
        refine ⟨1, _, h1, Post.no (hlen _) fun s k full v hb hC => ?_⟩
        obtain ⟨s3, rfl, hf⟩ := hC
        obtain ⟨rfl, _⟩ := hend _ _ _ _ _ hb rfl hf
        rw [hh] at hf; cases hf
      | some k =>
        refine ⟨1, _, get_Pend rfl hi rfl hl hwn hs hUr, hlen _, .inl ⟨pre ++ [.P wn], k, _, rfl, hib.sub [] _ hh, ?_, eU⟩, fun s k' full' v hb hC => ?_⟩
        · rw [hMT, hdrop]; simp [MT]
        · obtain ⟨s3, rfl, hf⟩ := hC
          obtain ⟨rfl, hv⟩ := hend _ _ _ _ _ hb rfl hf
          rw [hh] at hf
          cases hf
          exact ⟨rfl, rfl, by rw [hv]; exact eU⟩
    have hrep := hib.rep
    have hnt := hib.nt
    have hpa := hib.path
    cases hrep with
    | st wn' wk' hp hnt' =>
      simp only [n_nt] at hnt
      omega
    | ca hn => simp only [n_nt] at hnt; omega
    | pa hh hno =>
      simp only [n_path, List.cons.injEq, true_and] at hpa
      subst hpa
      exact key _ _ _ _ _ _ rfl hh
    | pk hh hidx hk hkn h47 hne =>
      simp only [n_path, List.cons.injEq, true_and] at hpa
      subst hpa
      exact key _ _ _ _ _ _ rfl hh
end
end Gt

/- The machine at a node; the whole run. No program in sight. -/
namespace Gt
open Gs Tr
section
variable {F0 : F} {p0 : List UInt8} {u : List UInt8 → List UInt8} {cP cS : Nat}
/-- back to what was kept -/
theorem stepPop {M : Nat} (ihB : RB F0 p0 u cP cS M) {g : Gh} {gs : List Gh} {p : List UInt8} {vs : Vs} (hsi : SI F0 p0 p vs (g :: gs)) (hM : wts (g :: gs) ≤ M) :
    (U u vs).take g.e.cnt = U u g.vs ∧ g.e.cnt ≤ (U u vs).length ∧ p <:+ g.e.path ∧ ∃ k r, getC u cP cS k g.e.node g.e.path (U u g.vs) (gs.map Gh.e) = some r ∧ Post F0 p0 cP u (CB g.pre g.wn g.fw) r := by
  obtain ⟨hg, h2, h3, h4, h5⟩ := hsi
  obtain ⟨P, nt, pr, h, full, kids, he, hl⟩ := hg.e
  have hc : g.e.cnt = g.vs.length := by rw [he]
  have hle : g.vs.length ≤ vs.length := by
    have := congrArg List.length h3
    rw [List.length_take] at this; omega
  refine ⟨by rw [hc, U_take, h3], by rw [hc, U_len]; exact hle, h2, ?_⟩
  have hp : g.e.path = P ++ g.c :: g.q := by rw [he]
  have hn : g.e.node = .node () P [] true nt pr h full kids := by rw [he]
  rw [hp] at h5
  rw [hn, hp]
  exact ihB g.pre g.c g.q g.vs g.wn g.wk g.fw gs P [] nt pr h full kids hM hg.ib (h5.suf (List.suffix_append _ _)) h4 rfl hl
theorem IA.room {n f pre p vs} (tb : Tb F0 p0 cP cS) (h : IA F0 p0 n f pre p vs) : vs.length ≤ cP ∧ nS pre ≤ cS := by
  obtain ⟨s, v, hs⟩ := h.ne
  have h1 := tb.w _ _ (h.sub s v hs)
  have h2 := tb.sl _ _ (h.sub s v hs)
  rw [nW_app, ← h.eat.len] at h1
  rw [nS_app] at h2
  omega
theorem Skip.one {pre : List Tok} {f : F} {gs : List Gh} {s k full} (h : Skip pre f gs s k full) : pre ≠ [] ∧ ∀ y w, f y = some w → BT (pre ++ y) s ∧ sameT (pre ++ y) s ≤ pre.length := by
  obtain ⟨_, _, _, _, h1, h2⟩ := h
  exact ⟨h1, h2⟩
/-- a catch-all's node -/
theorem stepCa {pr pr2 num : Nat} {full full2 n : List UInt8} {pre : List Tok} {p : List UInt8} {vs : Vs} {gs : List Gh} (tb : Tb F0 p0 cP cS) (hia : IA F0 p0 (.node () [] [] true 3 pr none full [.node () (47 :: 42 :: n) [] false 3 pr2 (some num) full2 []]) (one [.b 47, .A n] (num, full2)) pre p vs) :
    ∃ g r, getC u cP cS g (.node () [] [] true 3 pr none full [.node () (47 :: 42 :: n) [] false 3 pr2 (some num) full2 []]) p (U u vs) (gs.map Gh.e) = some r ∧ Post F0 p0 cP u (CA pre (one [.b 47, .A n] (num, full2)) gs) r := by
  obtain ⟨c, q, rfl, hd⟩ := hia.hd
  obtain ⟨r0, e0⟩ := hd _ _ (one_self _ _)
  have hc : c = 47 := by simp at e0; exact e0.1.symm
  subst hc
  have hF := hia.sub _ _ (one_self _ _)
  have hw := tb.w _ _ hF
  rw [nW_app, ← hia.eat.len] at hw
  simp only [nW] at hw
  have hm : MT (pre ++ [.b 47, .A n]) p0 = some (vs ++ [(n, 47 :: q)]) := by
    rw [hia.eat.MT]; simp [MT]
  have hU : U u vs ++ [(n, u (47 :: q))] = U u (vs ++ [(n, 47 :: q)]) := by rw [U_app]; rfl
  refine ⟨1, _, get_ca (by rw [U_len]; omega), by simp only [List.length_append, U_len, List.length_singleton]; omega, .inl ⟨_, num, _, rfl, hF, hm, hU⟩, fun s k full' v hb hC => ?_⟩
  rcases hC with ⟨s', rfl, hs'⟩ | hC
  · unfold one at hs'
    split at hs'
    · rename_i e
      subst e
      cases hs'
      have := hb.m
      rw [hm] at this
      cases this
      exact ⟨rfl, rfl, hU⟩
    · cases hs'
  · obtain ⟨h1, h2⟩ := hC.one
    obtain ⟨hbt, hsm⟩ := h2 _ _ (one_self _ _)
    refine absurd ?_ (hb.o2 _ _ hF hbt)
    refine hia.eat.PT (r := [.b 47, .A n]) (d := sameT (pre ++ [.b 47, .A n]) s) (i := 0) ⟨rfl, ?_⟩
    show if sameT (pre ++ [.b 47, .A n]) s < 0 + pre.length + 1 then True else _
    rw [if_pos (by omega)]
    trivial
theorem Rep.nt3 {b : Bool} {k : T0} {f : F} (hr : Rep b k f) (h1 : k.nt = 3) : k.kids ≠ [] := by
  cases hr with
  | st wn wk hp hnt => simp only [n_nt] at h1; omega
  | pa => cases h1
  | pk => cases h1
  | ca => exact fun h => by cases h
/-- ends that are no route's: how the recommendation is told -/
theorem St.endB {path idx : List UInt8} {wild : Bool} {nt : Nat} {h : Option Nat} {full : List UInt8} {kids : List T0} {f : F} (x : St true path idx wild nt h full kids f) (p : List UInt8) (ps : Vs) : ∃ ts, (if p = [47] ∧ wild = true ∧ nt ≠ 1 then some ⟨none, ps, true, []⟩
        else if p = [47] ∧ nt = 0 then some ⟨none, ps, true, []⟩
        else match idxOf 47 idx with
        | some i =>
          match kids[i]? with
          | some k => (if k.nt = 3 ∧ k.kids = [] then none else some ⟨none, ps, (decide (k.path.length = 1) && k.h.isSome) || (decide (k.nt = 3) && ((k.kids.head?).map (·.h.isSome)).getD false), []⟩)
          | none => none
        | none => some (⟨none, ps, false, []⟩ : Res)) = some ⟨none, ps, ts, []⟩ := by
  split
  · exact ⟨_, rfl⟩
  · split
    · exact ⟨_, rfl⟩
    · cases hi : idxOf 47 idx with
      | none => exact ⟨_, rfl⟩
      | some i =>
        have hj := idxOf_mem hi
        have hlt := (List.getElem?_eq_some_iff.1 hj).1
        have hlt2 : i < kids.length := by have := x.hlen; omega
        have hk := List.getElem?_eq_getElem hlt2
        have hr := x.hk i 47 _ hj hk
        simp only [hk]
        have hno : ¬ (kids[i].nt = 3 ∧ kids[i].kids = []) := by
          rintro ⟨h1, h2⟩
          exact Rep.nt3 hr h1 h2
        rw [if_neg hno]
        exact ⟨_, rfl⟩
end
end Gt

/- The machine at a node of text; the whole run. No program in sight. -/
namespace Gt
open Gs Tr
section
variable {F0 : F} {p0 : List UInt8} {u : List UInt8 → List UInt8} {cP cS : Nat}
variable {path idx full : List UInt8} {wild : Bool} {nt pr : Nat} {h : Option Nat} {kids : List T0} {f : F} {pre : List Tok} {p : List UInt8} {vs : Vs} {gs : List Gh}
/-- the route that is to be found goes through this node -/
theorem cur_shape (x : St true path idx wild nt h full kids f) (eat : Eat pre p0 vs p) {s : List Tok} {k : Nat} {fl : List UInt8} {v : Vs} (hb : Bst F0 p0 s k fl v) (hc : Cur pre f s k fl) :
    ∃ r, s = pre ++ (bs path ++ r) ∧ f (bs path ++ r) = some (k, fl) ∧ path <+: p ∧ ∃ v', MT r (p.drop path.length) = some v' ∧ v = vs ++ v' := by
  obtain ⟨s', rfl, hs'⟩ := hc
  obtain ⟨r, rfl⟩ := x.hpre _ _ hs'
  have hm := hb.m
  rw [eat.MT, MT_bs] at hm
  by_cases hp : path.isPrefixOf p = true
  · rw [if_pos hp] at hm
    obtain ⟨v', h1, h2⟩ := Option.map_eq_some_iff.1 hm
    exact ⟨r, rfl, hs', List.isPrefixOf_iff_prefix.1 hp, v', h1, h2.symm⟩
  · rw [if_neg hp] at hm; cases hm
/-- nothing goes through here but by the path and a byte or a parameter -/
theorem cur_on (x : St true path idx wild nt h full kids f) {c : UInt8} {q : List UInt8} (hp : p = path ++ c :: q) (eat : Eat pre p0 vs p) {s : List Tok} {k : Nat} {fl : List UInt8} {v : Vs} (hb : Bst F0 p0 s k fl v) (hc : Cur pre f s k fl) :
    (∃ r, s = (pre ++ bs path) ++ .b c :: r ∧ f (bs path ++ .b c :: r) = some (k, fl)) ∨ ∃ m r, s = (pre ++ bs path) ++ .P m :: r ∧ f (bs path ++ .P m :: r) = some (k, fl) := by
  obtain ⟨r, h1, h2, _, v', h4, _⟩ := cur_shape x eat hb hc
  subst hp
  rw [List.drop_left] at h4
  rw [← List.append_assoc] at h1
  match r, h1, h2, h4 with
  | [], _, _, h4 => simp [MT] at h4
  | .b d :: r, h1, h2, h4 =>
    have : d = c := by
      have h5 : (if some c = some d then MT r q else none) = some v' := h4
      by_cases e : c = d
      · exact e.symm
      · rw [if_neg (fun h => e (by simpa using h))] at h5; cases h5
    subst this
    exact .inl ⟨r, h1, h2⟩
  | .P m :: r, h1, h2, _ => exact .inr ⟨m, r, h1, h2⟩
  | .A m :: r, _, h2, _ => rw [x.hA] at h2; cases h2
/-- a way through a parameter, while what is to be found is kept: not so -/
theorem skip_wild (x : St true path idx true nt h full kids f) (sub : ∀ s v, f s = some v → F0 (pre ++ s) = some v) (hd : ∀ s v, f s = some v → ∃ r c, s = .b c :: r) {c : UInt8} {q : List UInt8} (eat : Eat (pre ++ bs path) p0 vs (c :: q)) {s : List Tok} {k : Nat} {fl : List UInt8} {v : Vs} (hb : Bst F0 p0 s k fl v) : ¬ Skip pre f gs s k fl := fun hs => by
  obtain ⟨wn, wk, _, _, _, _, ⟨t, w, ht⟩, _⟩ := x.hw rfl
  obtain ⟨_, h2⟩ := hs.one
  obtain ⟨hbt, hsm⟩ := h2 _ _ ht
  have hP : path ≠ [] := by
    rintro rfl
    obtain ⟨r, c, e⟩ := hd _ _ ht
    cases e
  have hl : 0 < path.length := List.length_pos_iff.2 hP
  refine hb.o2 _ _ (sub _ _ ht) hbt ?_
  have := eat.PT (r := .P wn :: t) (d := sameT (pre ++ (bs path ++ .P wn :: t)) s) (i := 0) (by
    show if sameT (pre ++ (bs path ++ .P wn :: t)) s < 0 + (pre ++ bs path).length then c :: q ≠ [] else _
    rw [if_pos (by rw [List.length_append, bs_len]; omega)]
    simp)
  rwa [List.append_assoc] at this
theorem stepSt {M : Nat} (tb : Tb F0 p0 cP cS) (ihA : RA F0 p0 u cP cS M) (ihB : RB F0 p0 u cP cS M) (x : St true path idx wild nt h full kids f) (hia : IA F0 p0 (.node () path idx wild nt pr h full kids) f pre p vs) (hsi : SI F0 p0 p vs gs) (hgs : gs.length ≤ nS pre) (hM : size (.node () path idx wild nt pr h full kids) + wts gs ≤ M + 1) :
    ∃ g r, getC u cP cS g (.node () path idx wild nt pr h full kids) p (U u vs) (gs.map Gh.e) = some r ∧ Post F0 p0 cP u (CA pre f gs) r := by
  have hroom := hia.room tb
  have hlen : (U u vs).length ≤ cP := by rw [U_len]; exact hroom.1
  obtain ⟨c0, q0, hp0, hd⟩ := hia.hd
  have hpne : p ≠ [] := by rw [hp0]; simp
  have hd2 : ∀ s v, f s = some v → ∃ r c, s = .b c :: r := fun s v hs => by
    obtain ⟨r, e⟩ := hd s v hs
    exact ⟨r, c0, e⟩
  have hwts : wts gs ≤ M := by simp only [size] at hM; omega
  -- a pop, where nothing that is to be found goes through here
  have pop : ∀ (ps : List UInt8), ps <:+ p → (∀ s k fl v, Bst F0 p0 s k fl v → ¬ Cur pre f s k fl) → (∀ (e : Sk) (sk : List Sk), ps <:+ e.path → e.cnt ≤ (U u vs).length → ∀ g, getC u cP cS (g + 1) (.node () path idx wild nt pr h full kids) p (U u vs) (e :: sk) = getC u cP cS g e.node e.path ((U u vs).take e.cnt) sk) → gs ≠ [] →
      ∃ g r, getC u cP cS g (.node () path idx wild nt pr h full kids) p (U u vs) (gs.map Gh.e) = some r ∧ Post F0 p0 cP u (CA pre f gs) r := by
    intro ps hps hcur hstep hne
    cases gs with
    | nil => exact absurd rfl hne
    | cons g gs =>
      obtain ⟨h1, h2, h3, k, r, h4, h5⟩ := stepPop ihB hsi hwts
      refine ⟨k + 1, r, ?_, h5.imp fun s k fl v hb hC => ?_⟩
      · rw [List.map_cons, hstep _ _ (hps.trans h3) h2, h1]; exact h4
      · rcases hC with hC | ⟨g', gs', e, hC, _⟩
        · exact absurd hC (hcur s k fl v hb)
        · cases e; exact hC
  by_cases hpp : path <+: p
  · obtain ⟨t, rfl⟩ := hpp
    cases t with
    | nil =>
      rw [List.append_nil] at *
      cases h with
      | some k =>
        have hf : f (bs path) = some (k, full) := x.hh
        have hm : MT (pre ++ bs path) p0 = some vs := by
          rw [hia.eat.MT]
          have := MT_bs path [] path
          rw [List.append_nil] at this
          rw [this]; simp [MT]
        refine ⟨1, _, get_eq rfl rfl, hlen, .inl ⟨_, k, vs, rfl, hia.sub _ _ hf, hm, rfl⟩, fun s k' fl v hb hC => ?_⟩
        rcases hC with hC | hC
        · obtain ⟨r, hs, hr, _, v', hv', hv⟩ := cur_shape x hia.eat hb hC
          have : r = [] := by
            rw [List.drop_length] at hv'
            rcases MT_nil hv' with e | ⟨n, r', rfl⟩
            · exact e
            · rw [x.hA] at hr; cases hr
          subst this
          rw [List.append_nil, hf] at hr
          cases hr
          simp [MT] at hv'
          subst hv'
          rw [List.append_nil] at hv
          exact ⟨rfl, rfl, by rw [hv]⟩
        · obtain ⟨_, h2⟩ := hC.one
          exact absurd (h2 _ _ hf).1 (hb.best _ _ (hia.sub _ _ hf) (by rw [hm]; simp))
      | none =>
        have hcur : ∀ s k fl v, Bst F0 p0 s k fl v → ¬ Cur pre f s k fl := fun s k fl v hb hC => by
          obtain ⟨r, _, hr, _, v', hv', _⟩ := cur_shape x hia.eat hb hC
          rw [List.drop_length] at hv'
          rcases MT_nil hv' with rfl | ⟨n, r', rfl⟩
          · rw [List.append_nil, x.hh] at hr; cases hr
          · rw [x.hA] at hr; cases hr
        by_cases hend : path = [47] ∨ gs = []
        · obtain ⟨ts, hts⟩ := x.endB path (U u vs)
          refine ⟨1, _, (get_endB (f := 0) rfl rfl (hend.imp id fun e => by rw [e]; rfl)).trans hts, Post.no hlen fun s k fl v hb hC => ?_⟩
          rcases hC with hC | hC
          · exact hcur s k fl v hb hC
          · rcases hend with he | rfl
            · obtain ⟨h1, h2⟩ := hC.one
              obtain ⟨s2, w, hs2⟩ := hia.ne
              have heat := hia.eat
              rw [he] at heat
              exact hb.beg h1 heat (hia.sub _ _ hs2) (h2 _ _ hs2).1
            · obtain ⟨_, _, e, _⟩ := hC; cases e
        · exact pop path (List.suffix_refl _) hcur (fun e sk h1 h2 g => get_popB rfl rfl (fun e => hend (.inl e)) h1 h2) (fun e => hend (.inr e))
    | cons c q =>
      have eat2 := hia.eat.appb
      cases hi : idxOf c idx with
      | some i =>
        have hj := idxOf_mem hi
        have hlt := (List.getElem?_eq_some_iff.1 hj).1
        have hlt2 : i < kids.length := by have := x.hlen; omega
        have hk := List.getElem?_eq_getElem hlt2
        have hr := x.hk i c _ hj hk
        have hkn := x.hkn i _ hlt hk
        have hmem : kids[i] ∈ kids := List.getElem_mem hlt2
        generalize hkk : kids[i] = k at hk hr hkn hmem
        have hia' : IA F0 p0 k (at_ f path c) (pre ++ bs path) (c :: q) vs :=
          { rep := hr
            nt := by rcases hkn with e | e <;> rw [e] <;> decide
            sub := fun s v hs => by
              unfold at_ at hs
              split at hs
              · have := hia.sub _ _ hs
                rwa [← List.append_assoc] at this
              · cases hs
            ne := by
              obtain ⟨s, v, hs⟩ := x.hne c (List.mem_of_getElem? hj)
              exact ⟨.b c :: s, v, (if_pos rfl).trans hs⟩
            hd := ⟨c, q, rfl, at_head⟩
            eat := eat2 }
        have hat : ∀ r v, f (bs path ++ .b c :: r) = some v → at_ f path c (.b c :: r) = some v := fun r v hv => by
          exact (if_pos rfl).trans hv
        have hat2 : ∀ y w, at_ f path c y = some w → f (bs path ++ y) = some w := fun y w hy => by
          unfold at_ at hy
          split at hy
          · exact hy
          · cases hy
        have hsz : size k ≤ size.sizes kids := size_kid hmem
        cases wild with
        | false =>
          obtain ⟨g, r, h1, h2⟩ := ihA k _ (pre ++ bs path) (c :: q) vs gs (by simp only [size] at hM; omega) hia' (hsi.suf (List.suffix_append _ _)) (by rw [nS_app]; omega)
          refine ⟨g + 1, r, (get_idx rfl hi hk rfl).trans h1, h2.imp fun s k' fl v hb hC => ?_⟩
          rcases hC with hC | ⟨g', gs', e, hC, hn, ha⟩
          · rcases cur_on x rfl hia.eat hb hC with ⟨r, e1, e2⟩ | ⟨m, r, _, e2⟩
            · exact .inl ⟨_, e1, hat _ _ e2⟩
            · rw [x.hnw rfl] at e2; cases e2
          · refine .inr ⟨g', gs', e, hC, by simp [hn], fun y w hy => ?_⟩
            have := ha _ _ (hat2 _ _ hy)
            rw [List.append_assoc]
            refine ⟨this.1, ?_⟩
            rw [List.length_append]
            omega
        | true =>
          obtain ⟨wn, wk, hw1, hw2, hw3, hw4, ⟨t, w, ht⟩, hw6, hw7⟩ := x.hw rfl
          have hF := hia.sub _ _ ht
          rw [← List.append_assoc] at hF
          have hok := tb.ok _ _ hF
          obtain ⟨y, hy⟩ : ∃ y, pre ++ bs path = y ++ [.b 47] := (Ok_before hok).resolve_left (fun h => by cases h.2)
          have hPne : path ≠ [] := by
            rintro rfl
            obtain ⟨r, c, e⟩ := hd2 _ _ ht
            cases e
          have hc47 : c ≠ 47 := by
            rintro rfl
            rw [hy] at eat2
            exact tb.nd q eat2.behind
          have hnsp : nS pre + 1 ≤ nS (pre ++ bs path) := by
            obtain ⟨l, d, hl⟩ : ∃ l d, path = l ++ [d] := by
              rcases List.eq_nil_or_concat path with e | ⟨l, d, e⟩
              · exact absurd e hPne
              · exact ⟨l, d, by rw [← List.concat_eq_append]; exact e⟩
            rw [hl, bs_app, ← List.append_assoc] at hy
            have e1 := List.append_inj_right' hy rfl
            have : d = 47 := by simpa [bs] using e1
            rw [hl, nS_app, this, bs_app, nS_app]
            simp [bs, nS]
          have hcS : gs.length < cS := by
            have := tb.sl _ _ hF
            rw [nS_app] at this
            omega
          let g0 : Gh := ⟨⟨path ++ c :: q, .node () path [] true nt pr h full kids, vs.length⟩, pre ++ bs path, c, q, vs, wn, wk, fun s => f (bs path ++ .P wn :: s)⟩
          have hlast : kids[kids.length - 1]? = some wk := by
            rw [← hw1]; congr 1; have := x.hlen; simp at this; omega
          have hsi' : SI F0 p0 (c :: q) vs (g0 :: gs) :=
            ⟨{ ib := { rep := hw7, nt := hw3, path := hw4, wd := hw2, sub := fun s v hs => by
                          have := hia.sub _ _ hs
                          rwa [← List.append_assoc] at this
                       ne := ⟨t, w, ht⟩, eat := eat2, c47 := hc47 }
               e := ⟨path, nt, pr, h, full, kids, rfl, hlast⟩ }, List.suffix_append _ _, List.take_length, by show gs.length ≤ nS (pre ++ bs path); omega, hsi⟩
          have hsz2 : size k + size wk ≤ size.sizes kids := by
            have hlen2 := x.hlen
            simp at hlen2
            have hne : i ≠ idx.length := by omega
            have e1 : kids = kids.take idx.length ++ [wk] := by
              have hlt3 : idx.length < kids.length := by omega
              have e2 : kids.drop idx.length = [wk] := by
                rw [List.drop_eq_getElem_cons hlt3, List.drop_of_length_le (by omega)]
                rw [List.getElem?_eq_getElem hlt3] at hw1
                cases hw1; rfl
              rw [← e2, List.take_append_drop]
            have hm2 : k ∈ kids.take idx.length := by
              rw [List.mem_take_iff_getElem]
              exact ⟨i, by omega, by rw [← hkk]⟩
            have hz : ∀ (l : List T0) (b : T0), size.sizes (l ++ [b]) = size.sizes l + size b := by
              intro l b
              induction l with
              | nil => simp [size.sizes]
              | cons a l ih => simp only [List.cons_append, size.sizes, ih]; omega
            have := size_kid hm2
            rw [e1, hz]
            omega
          obtain ⟨g, r, h1, h2⟩ := ihA k _ (pre ++ bs path) (c :: q) vs (g0 :: gs) (by show size k + (1 + size wk + wts gs) ≤ M; simp only [size] at hM; omega) hia' hsi' (by show gs.length + 1 ≤ _; omega)
          refine ⟨g + 1, r, (get_push rfl hi hk rfl (by rw [List.length_map]; exact hcS)).trans (by rw [U_len]; exact h1), h2.imp fun s k' fl v hb hC => ?_⟩
          rcases hC with hC | hC
          · rcases cur_on x rfl hia.eat hb hC with ⟨r, e1, e2⟩ | ⟨m, r, e1, e2⟩
            · exact .inl ⟨_, e1, hat _ _ e2⟩
            · have hm : m = wn := Decidable.byContradiction fun hm => by
                rw [hw6 m hm] at e2; cases e2
              subst hm
              refine .inr ⟨g0, gs, rfl, ⟨r, e1, e2⟩, by simp [hPne, bs], fun y w hy => ?_⟩
              obtain ⟨y', rfl⟩ := at_head _ _ hy
              rw [e1]
              have := BT_part (pre ++ bs path) c m y' r
              exact ⟨this.1, by rw [this.2]; exact Nat.le_refl _⟩
          · exact absurd hC (skip_wild x hia.sub hd2 eat2 hb)
      | none =>
        cases wild with
        | true =>
          obtain ⟨wn, wk, hw1, hw2, hw3, hw4, ⟨t, w, ht⟩, hw6, hw7⟩ := x.hw rfl
          have hF := hia.sub _ _ ht
          rw [← List.append_assoc] at hF
          have hok := tb.ok _ _ hF
          obtain ⟨y, hy⟩ : ∃ y, pre ++ bs path = y ++ [.b 47] := (Ok_before hok).resolve_left (fun h => by cases h.2)
          have hc47 : c ≠ 47 := by
            rintro rfl
            rw [hy] at eat2
            exact tb.nd q eat2.behind
          have hlast : kids[kids.length - 1]? = some wk := by
            rw [← hw1]; congr 1; have := x.hlen; simp at this; omega
          have hmem : wk ∈ kids := List.mem_of_getElem? hw1
          have hsz : size wk ≤ size.sizes kids := size_kid hmem
          obtain ⟨g, r, h1, h2⟩ := ihB (pre ++ bs path) c q vs wn wk (fun s => f (bs path ++ .P wn :: s)) gs path idx nt pr h full kids (by simp only [size] at hM; omega)
            { rep := hw7, nt := hw3, path := hw4, wd := hw2, sub := fun s v hs => by
                          have := hia.sub _ _ hs
                          rwa [← List.append_assoc] at this
              ne := ⟨t, w, ht⟩, eat := eat2, c47 := hc47 } (hsi.suf (List.suffix_append _ _)) (by rw [nS_app]; omega) hi hlast
          refine ⟨g, r, h1, h2.imp fun s k' fl v hb hC => ?_⟩
          rcases hC with hC | hC
          · rcases cur_on x rfl hia.eat hb hC with ⟨r, _, e2⟩ | ⟨m, r, e1, e2⟩
            · rw [x.hno c (idxOf_not.1 hi)] at e2; cases e2
            · have hm : m = wn := Decidable.byContradiction fun hm => by
                rw [hw6 m hm] at e2; cases e2
              subst hm
              exact ⟨r, e1, e2⟩
          · exact absurd hC (skip_wild x hia.sub hd2 eat2 hb)
        | false =>
          have hcur : ∀ s k fl v, Bst F0 p0 s k fl v → ¬ Cur pre f s k fl := fun s k fl v hb hC => by
            rcases cur_on x rfl hia.eat hb hC with ⟨r, _, e2⟩ | ⟨m, r, _, e2⟩
            · rw [x.hno c (idxOf_not.1 hi)] at e2; cases e2
            · rw [x.hnw rfl] at e2; cases e2
          by_cases hend : c :: q = [47] ∨ gs = []
          · refine ⟨1, _, get_endA (f := 0) rfl hi rfl (hend.imp id fun e => by rw [e]; rfl), Post.no hlen fun s k fl v hb hC => ?_⟩
            rcases hC with hC | hC
            · exact hcur s k fl v hb hC
            · rcases hend with he | rfl
              · obtain ⟨h1, h2⟩ := hC.one
                obtain ⟨s2, w, hs2⟩ := hia.ne
                obtain ⟨r, rfl⟩ := x.hpre _ _ hs2
                have hF := hia.sub _ _ hs2
                have hbt := (h2 _ _ hs2).1
                rw [← List.append_assoc] at hF hbt
                rw [he] at eat2
                exact hb.beg (by simp [h1]) eat2 hF hbt
              · obtain ⟨_, _, e, _⟩ := hC; cases e
          · exact pop (c :: q) (List.suffix_append _ _) hcur (fun e sk h1 h2 g => get_popA rfl hi rfl (fun e => hend (.inl e)) h1 h2) (fun e => hend (.inr e))
  · have hcur : ∀ s k fl v, Bst F0 p0 s k fl v → ¬ Cur pre f s k fl := fun s k fl v hb hC => by
      obtain ⟨_, _, _, h3, _⟩ := cur_shape x hia.eat hb hC
      exact hpp h3
    by_cases hend : (p = [47] ∨ (path = p ++ [47] ∧ h.isSome = true)) ∨ gs = []
    · refine ⟨1, _, get_endC (f := 0) hpp (hend.imp id fun e => by rw [e]; rfl), Post.no hlen fun s k fl v hb hC => ?_⟩
      rcases hC with hC | hC
      · exact hcur s k fl v hb hC
      · obtain ⟨h1, h2⟩ := hC.one
        rcases hend with (he | ⟨he, hh⟩) | rfl
        · obtain ⟨s2, w, hs2⟩ := hia.ne
          have heat := hia.eat
          rw [he] at heat
          exact hb.beg h1 heat (hia.sub _ _ hs2) (h2 _ _ hs2).1
        · obtain ⟨k2, hk2⟩ := Option.isSome_iff_exists.1 hh
          have hf : f (bs path) = some (k2, full) := by rw [x.hh, hk2]; rfl
          have hF := hia.sub _ _ hf
          have hbt := (h2 _ _ hf).1
          rw [he] at hF hbt
          exact hb.more h1 hpne hia.eat hF hbt
        · obtain ⟨_, _, e, _⟩ := hC; cases e
    · exact pop p (List.suffix_refl _) hcur (fun e sk h1 h2 g => get_popC hpp (fun e => hend (.inl e)) h1 h2) (fun e => hend (.inr e))
theorem run_all (tb : Tb F0 p0 cP cS) : ∀ M, RA F0 p0 u cP cS M ∧ RB F0 p0 u cP cS M
  | 0 => ⟨fun n f pre p vs gs hM => by
      cases n
      simp only [size] at hM; omega, fun pre c q vs wn wk fw gs P idx nt pr h full kids hM => by omega⟩
  | M + 1 => by
    obtain ⟨ihA, ihB⟩ := run_all tb M
    refine ⟨fun n f pre p vs gs hM hia hsi hgs => ?_, stepB tb ihA⟩
    have hrep := hia.rep
    have hnt := hia.nt
    cases hrep with
    | st wn wk hp hnt2 hpre hh hnd hpl hlen hk hkn hne hno hw hwr hnw hA hmin =>
      exact stepSt tb ihA ihB (hia.rep.toSt hnt2) hia hsi hgs hM
    | pa => exact absurd rfl hnt
    | pk => exact absurd rfl hnt
    | ca => exact stepCa tb hia
end
end Gt

/- What a table's tree finds. No program in sight. -/
namespace Gt
open Gs Tr
theorem fAdd_not : ∀ {rs : List (List Tok)} {f : F} {k : Nat} {s : List Tok}, s ∉ rs → fAdd f k rs s = f s
  | [], _, _, _, _ => rfl
  | r :: rs, f, k, s, h => by
    have h1 : s ≠ r := fun e => h (e ▸ .head _)
    show fAdd (upd f r (k + 1, txt r)) (k + 1) rs s = f s
    rw [fAdd_not (fun hm => h (.tail _ hm)), upd_ne _ h1]
theorem fAdd_at : ∀ {rs : List (List Tok)} {f : F} {k i : Nat} {s : List Tok}, rs.Nodup → rs[i]? = some s → fAdd f k rs s = some (k + i + 1, txt s)
  | [], _, _, _, _, _, h => by simp at h
  | r :: rs, f, k, 0, s, hn, h => by
    have e : r = s := by simpa using h
    subst e
    show fAdd (upd f r (k + 1, txt r)) (k + 1) rs r = _
    rw [fAdd_not (List.nodup_cons.1 hn).1, upd_self]
  | r :: rs, f, k, i + 1, s, hn, h => by
    show fAdd (upd f r (k + 1, txt r)) (k + 1) rs s = _
    rw [fAdd_at (List.nodup_cons.1 hn).2 (i := i) (by simpa using h)]
    congr 2; omega
theorem pw_nodup {rs : List (List Tok)} (h : rs.Pairwise (fun a b => apart a b = true)) : rs.Nodup :=
  h.imp fun {a b} hab e => by
    subst e
    rw [apart_self] at hab; cases hab
theorem fAdd_of {rs : List (List Tok)} (h : rs.Nodup) {s : List Tok} {v : Nat × List UInt8} (hs : fAdd (fun _ => none) 0 rs s = some v) : ∃ i, rs[i]? = some s ∧ v = (i + 1, txt s) := by
  rcases fAdd_some hs with hm | hm
  · obtain ⟨i, hi⟩ := List.mem_iff_getElem?.1 hm
    rw [fAdd_at h hi] at hs
    cases hs
    exact ⟨i, hi, by simp⟩
  · cases hm
/-- the machine on a table's tree -/
theorem table_run {rs : List (List Tok)} (hg : ∀ r ∈ rs, Good r) (hp : rs.Pairwise (fun a b => apart a b = true)) {p0 : List UInt8} (h47 : ∃ q, p0 = 47 :: q) (hnd : ∀ t, ¬ (47 :: 47 :: t) <:+ p0) {cP cS : Nat} (hw : ∀ r ∈ rs, nW r ≤ cP ∧ nS r ≤ cS) (u : List UInt8 → List UInt8) {t : T0} (ht : addAll new (rs.map txt) 0 = .inl t) :
    ∃ g r, getC u cP cS g t p0 [] [] = some r ∧ Post (fAdd (fun _ => none) 0 rs) p0 cP u (fun _ _ _ => True) r := by
  obtain ⟨t', h1, h2⟩ := addAll_ok rs new (fun _ => none) 0 (.inl ⟨rfl, rfl⟩) hg (fun _ _ _ _ h => by cases h) hp
  rw [ht] at h1
  cases h1
  have hn := pw_nodup hp
  obtain ⟨q, rfl⟩ := h47
  rcases h2 with ⟨rfl, hf⟩ | ⟨hrep, hnt, hhd⟩
  · refine ⟨1, _, get_endA (P := []) (c := 47) (q := q) (f := 0) rfl rfl rfl (.inr rfl), Post.no (by simp) fun s k full v hb _ => ?_⟩
    have := hb.f
    rw [hf] at this; cases this
  · by_cases hne : rs = []
    · subst hne
      exfalso
      simp only [List.map_nil, addAll] at ht
      cases ht
      cases hnt
    · obtain ⟨r0, rs', rfl⟩ := List.exists_cons_of_ne_nil hne
      have tb : Tb (fAdd (fun _ => none) 0 (r0 :: rs')) (47 :: q) cP cS :=
        { ok := fun s v hs => by obtain ⟨i, hi, _⟩ := fAdd_of hn hs; exact (hg _ (List.mem_of_getElem? hi)).1
          w := fun s v hs => by obtain ⟨i, hi, _⟩ := fAdd_of hn hs; exact (hw _ (List.mem_of_getElem? hi)).1
          sl := fun s v hs => by obtain ⟨i, hi, _⟩ := fAdd_of hn hs; exact (hw _ (List.mem_of_getElem? hi)).2
          nd := hnd }
      obtain ⟨g, r, h3, h4⟩ := (run_all (u := u) tb (size t)).1 t _ [] (47 :: q) [] [] (by simp [wts])
        { rep := hrep, nt := by rw [hnt]; decide, sub := fun s v h => h, ne := ⟨r0, _, fAdd_at hn (i := 0) rfl⟩, hd := ⟨47, q, rfl, hhd⟩, eat := .nil } trivial (Nat.zero_le _)
      exact ⟨g, r, h3, h4.imp fun s k full v hb _ => .inl ⟨s, rfl, hb.f⟩⟩
/-! ### which one is the best -/
theorem BT_tr : ∀ {a b c : List Tok}, BT a b → BT b c → BT a c
  | [], _, _, h, _ => by cases h
  | _ :: _, [], _, h, _ => by cases h
  | _ :: _, _ :: _, [], _, h => by cases h
  | x :: a, y :: b, z :: c, h, h2 => by
    rcases h with ⟨rfl, h⟩ | ⟨hn, h⟩
    · rcases h2 with ⟨rfl, h2⟩ | ⟨hn2, h2⟩
      · exact .inl ⟨rfl, BT_tr h h2⟩
      · exact .inr ⟨hn2, h2⟩
    · rcases h2 with ⟨rfl, h2⟩ | ⟨hn2, h2⟩
      · exact .inr ⟨hn, h⟩
      · exact .inr ⟨by rintro rfl; omega, by omega⟩
theorem BT_tot : ∀ {a b : List Tok} {p : List UInt8} {sa sb : Bool}, Ok sa a → Ok sb b → apart a b = true → MT a p ≠ none → MT b p ≠ none → BT a b ∨ BT b a
  | [], [], _, _, _, _, _, h, _, _ => by cases h
  | [], y :: r, p, _, _, _, _, h, ha, hb => by
    exfalso
    have hp : p = [] := Decidable.byContradiction fun hp => ha (if_neg hp)
    subst hp
    cases y with
    | b c => exact hb rfl
    | P n => exact hb rfl
    | A n => cases h
  | x :: s, [], p, _, _, _, _, h, ha, hb => by
    exfalso
    have hp : p = [] := Decidable.byContradiction fun hp => hb (if_neg hp)
    subst hp
    cases x with
    | b c => exact ha rfl
    | P n => exact ha rfl
    | A n => cases h
  | x :: s, y :: r, p, _, _, oa, ob, h, ha, hb => by
    by_cases e : x = y
    · subst e
      rw [apart_cons] at h
      cases x with
      | b c =>
        have h1 : (if p.head? = some c then MT s (p.drop 1) else none) ≠ none := ha
        have h2 : (if p.head? = some c then MT r (p.drop 1) else none) ≠ none := hb
        by_cases hc : p.head? = some c
        · rw [if_pos hc] at h1 h2
          exact (BT_tot oa.2 ob.2 h h1 h2).imp (fun h => .inl ⟨rfl, h⟩) (fun h => .inl ⟨rfl, h⟩)
        · rw [if_neg hc] at h1; exact absurd rfl h1
      | P n =>
        have h1 : (if sl p = 0 then none else (MT s (p.drop (sl p))).map ((n, p.take (sl p)) :: ·)) ≠ none := ha
        have h2 : (if sl p = 0 then none else (MT r (p.drop (sl p))).map ((n, p.take (sl p)) :: ·)) ≠ none := hb
        by_cases hc : sl p = 0
        · rw [if_pos hc] at h1; exact absurd rfl h1
        · rw [if_neg hc] at h1 h2
          exact (BT_tot oa.2.2.2 ob.2.2.2 h (fun e => h1 (by rw [e]; rfl)) (fun e => h2 (by rw [e]; rfl))).imp (fun h => .inl ⟨rfl, h⟩) (fun h => .inl ⟨rfl, h⟩)
      | A n =>
        exfalso
        have e1 : s = [] := oa.2.2
        have e2 : r = [] := ob.2.2
        rw [e1, e2] at h; cases h
    · rw [apart_ne e] at h
      cases x with
      | A n => cases h
      | b c =>
        cases y with
        | A n => cases h
        | P n => exact .inl (.inr ⟨e, by simp [rk]⟩)
        | b d =>
          exfalso
          have h1 : (if p.head? = some c then MT s (p.drop 1) else none) ≠ none := ha
          have h2 : (if p.head? = some d then MT r (p.drop 1) else none) ≠ none := hb
          by_cases hc : p.head? = some c
          · by_cases hd : p.head? = some d
            · rw [hc] at hd
              cases hd
              exact e rfl
            · rw [if_neg hd] at h2; exact h2 rfl
          · rw [if_neg hc] at h1; exact h1 rfl
      | P n =>
        cases y with
        | A n => cases h
        | P m => cases h
        | b d => exact .inr (.inr ⟨fun e2 => e e2.symm, by simp [rk]⟩)
end Gt

/- What a path finds in a table of clean routes. No program in sight. -/
namespace Gt
open Gs Tr
theorem nW_le : ∀ s : List Tok, nW s ≤ (txt s).count 58 + (txt s).count 42
  | [] => Nat.zero_le _
  | .b c :: s => by
    have := nW_le s
    simp only [nW, txt, List.count_cons]
    omega
  | .P n :: s => by
    have := nW_le s
    simp only [nW, txt, List.count_cons, List.count_append, beq_self_eq_true, if_true]
    omega
  | .A n :: s => by
    have := nW_le s
    simp only [nW, txt, List.count_cons, List.count_append, beq_self_eq_true, if_true]
    omega
theorem nS_le : ∀ s : List Tok, nS s ≤ (txt s).count 47
  | [] => Nat.zero_le _
  | .b c :: s => by
    have := nS_le s
    simp only [nS, txt, List.count_cons, beq_iff_eq]
    omega
  | .P n :: s => by
    have := nS_le s
    simp only [nS, txt, List.count_cons, List.count_append]
    omega
  | .A n :: s => by
    have := nS_le s
    simp only [nS, txt, List.count_cons, List.count_append]
    omega
theorem Dbl_suf {p : List UInt8} (h : ¬ Dbl p) : ∀ t, ¬ (47 :: 47 :: t) <:+ p := fun t ⟨a, ha⟩ => by
  refine h ⟨a.length, ?_, ?_⟩ <;> rw [← ha] <;> simp
/-- the best one of those that match -/
theorem bestN_spec {l : List (List Prt)} (ht : TableN l) (path : List UInt8) : ∀ {n : Nat}, n ≤ l.length →
    (bestN l path n = none → ∀ i a, i < n → l[i]? = some a → matchN a path = none) ∧
    ∀ m, bestN l path n = some m → ∃ b, m < n ∧ l[m]? = some b ∧ matchN b path ≠ none ∧ ∀ i a, i < n → i ≠ m → l[i]? = some a → matchN a path ≠ none → BetterN (tks b) (tks a)
  | 0, _ => ⟨fun _ _ _ h => absurd h (Nat.not_lt_zero _), fun m h => by cases h⟩
  | n + 1, hn => by
    obtain ⟨ih1, ih2⟩ := bestN_spec ht path (n := n) (by omega)
    have ha := List.getElem?_eq_getElem (show n < l.length by omega)
    generalize l[n] = a at ha
    have hca := ht.clean a (List.mem_of_getElem? ha)
    have e : bestN l path (n + 1) = match matchN a path, bestN l path n with
      | none, b => b
      | some _, none => some n
      | some _, some m => match l[m]? with
        | none => some m
        | some b => if dec (BetterN (tks a) (tks b)) then some n else some m := by
      show (match l[n]? with
        | none => bestN l path n
        | some a => match matchN a path, bestN l path n with
          | none, b => b
          | some _, none => some n
          | some _, some m => match l[m]? with
            | none => some m
            | some b => if dec (BetterN (tks a) (tks b)) then some n else some m) = _
      rw [ha]
    rw [e]
    cases hma : matchN a path with
    | none =>
      constructor
      · intro h i x hi hx
        rcases Nat.lt_succ_iff_lt_or_eq.1 hi with hi | rfl
        · exact ih1 h i x hi hx
        · rw [ha] at hx; cases hx; exact hma
      · intro m h
        obtain ⟨b, h1, h2, h3, h4⟩ := ih2 m h
        refine ⟨b, by omega, h2, h3, fun i x hi hne hx hm => ?_⟩
        rcases Nat.lt_succ_iff_lt_or_eq.1 hi with hi | rfl
        · exact h4 i x hi hne hx hm
        · rw [ha] at hx; cases hx; exact absurd hma hm
    | some v =>
      cases hb : bestN l path n with
      | none =>
        constructor
        · intro h; cases h
        · intro m h
          cases h
          refine ⟨a, Nat.lt_succ_self _, ha, by rw [hma]; simp, fun i x hi hne hx hm => ?_⟩
          exact absurd (ih1 hb i x (by omega) hx) hm
      | some m =>
        obtain ⟨b, h1, h2, h3, h4⟩ := ih2 m hb
        have hcb := ht.clean b (List.mem_of_getElem? h2)
        simp only [h2]
        constructor
        · intro h; split at h <;> cases h
        · intro m' h
          by_cases hd : dec (BetterN (tks a) (tks b)) = true
          · rw [if_pos hd] at h
            cases h
            have hab := (hca.better hcb).1 (dec_true.1 hd)
            refine ⟨a, Nat.lt_succ_self _, ha, by rw [hma]; simp, fun i x hi hne hx hm => ?_⟩
            have hcx := ht.clean x (List.mem_of_getElem? hx)
            by_cases him : i = m
            · subst him
              rw [h2] at hx; cases hx
              exact dec_true.1 hd
            · exact (hca.better hcx).2 (BT_tr hab ((hcb.better hcx).1 (h4 i x (by omega) him hx hm)))
          · rw [if_neg hd] at h
            cases h
            refine ⟨b, by omega, h2, h3, fun i x hi hne hx hm => ?_⟩
            rcases Nat.lt_succ_iff_lt_or_eq.1 hi with hi | rfl
            · exact h4 i x hi hne hx hm
            · rw [ha] at hx
              cases hx
              have hap : apart (tokT a) (tokT b) = true := (hca.apart hcb).1 ((ht i a ha).2 b (List.mem_take_iff_getElem.2 ⟨m, by
                have := (List.getElem?_eq_some_iff.1 h2).1; omega, (List.getElem?_eq_some_iff.1 h2).2⟩))
              rw [hca.match] at hm
              rw [hcb.match] at h3
              rcases BT_tot hca.good.1 hcb.good.1 hap hm h3 with hh | hh
              · exact absurd (dec_true.2 ((hca.better hcb).2 hh)) hd
              · exact (hcb.better hca).2 hh
/-- what is found is a route of the path -/
def SoundN (l : List (List Prt)) (path : List UInt8) (u : List UInt8 → List UInt8) (r : Res) : Prop := (∃ i a v, l[i]? = some a ∧ r.h = some (i + 1) ∧ r.full = rtT a ∧ matchN a path = some v ∧ r.ps = U u v) ∨ (r.h = none ∧ r.full = [])
/-- what is found is the best one -/
def FoundN (l : List (List Prt)) (path : List UInt8) (u : List UInt8 → List UInt8) (r : Res) : Prop := (bestN l path l.length = none ∧ r.h = none ∧ r.full = []) ∨ ∃ m a v, bestN l path l.length = some m ∧ l[m]? = some a ∧ matchN a path = some v ∧ r.h = some (m + 1) ∧ r.full = rtT a ∧ r.ps = U u v
theorem map_at {l : List (List Prt)} {i : Nat} {s : List Tok} (h : (l.map tokT)[i]? = some s) : ∃ a, l[i]? = some a ∧ s = tokT a := by
  rw [List.getElem?_map] at h
  obtain ⟨a, h1, h2⟩ := Option.map_eq_some_iff.1 h
  exact ⟨a, h1, h2.symm⟩
theorem gin_found {l : List (List Prt)} {path : List UInt8} (hf : FitsN l path) {cP cS : Nat} (hw : ∀ r ∈ l.map tokT, nW r ≤ cP ∧ nS r ≤ cS) (u : List UInt8 → List UInt8) {t : T0} (ht : addAll new ((l.map tokT).map txt) 0 = .inl t) :
    ∃ g r, getC u cP cS g t path [] [] = some r ∧ r.ps.length ≤ cP ∧ SoundN l path u r ∧ (¬ OpenN l path → FoundN l path u r) := by
  obtain ⟨_, htab, ⟨q, hq⟩, hnd, _⟩ := hf
  have hcl := htab.clean
  have hg : ∀ r ∈ l.map tokT, Good r := fun r hr => by
    obtain ⟨x, hx, rfl⟩ := List.mem_map.1 hr
    exact (hcl x hx).good
  have hn := pw_nodup htab.pw
  obtain ⟨g, r, h1, h2⟩ := table_run hg htab.pw ⟨q, hq.symm⟩ (Dbl_suf hnd) hw u ht
  have htx : ∀ i a, l[i]? = some a → txt (tokT a) = rtT a := fun i a hi => txt_tokT (hcl a (List.mem_of_getElem? hi)).k2
  have hsnd : SoundN l path u r := by
    rcases h2.snd with ⟨s, k, v, h3, h4, h5, h6⟩ | h3
    · obtain ⟨i, hi, he⟩ := fAdd_of hn h4
      obtain ⟨a, ha, rfl⟩ := map_at hi
      obtain ⟨rfl, he2⟩ := Prod.mk.inj he
      exact .inl ⟨i, a, v, ha, h3, he2.trans (htx i a ha), by rw [(hcl a (List.mem_of_getElem? ha)).match]; exact h5, h6⟩
    · exact .inr h3
  refine ⟨g, r, h1, h2.len, hsnd, fun ho => ?_⟩
  obtain ⟨hb1, hb2⟩ := bestN_spec htab path (Nat.le_refl l.length)
  cases hb : bestN l path l.length with
  | none =>
    rcases hsnd with ⟨i, a, v, ha, _, _, hm, _⟩ | h3
    · have := hb1 hb i a (List.getElem?_eq_some_iff.1 ha).1 ha
      rw [hm] at this; cases this
    · exact .inl ⟨hb, h3⟩
  | some m =>
    obtain ⟨b, hml, hbm, hmb, hbest⟩ := hb2 m hb
    have hcb := hcl b (List.mem_of_getElem? hbm)
    obtain ⟨v, hv⟩ := Option.ne_none_iff_exists'.1 hmb
    have hV : ∀ x ∈ l, ∀ t ∈ tks x, TkV t := fun x hx => tks_V (hcl x hx).k2
    have hno : ∀ x ∈ l, BetterN (tks x) (tks b) → ¬ OpenX x b path := fun x hx hbt hox => ho (by
      unfold OpenN
      rw [hb]
      exact ⟨b, hbm, x, hx, hbt, hox⟩)
    have key : ∀ x w, fAdd (fun _ => none) 0 (l.map tokT) x = some w → ∃ a i, l[i]? = some a ∧ a ∈ l ∧ x = tokT a := fun x w hx => by
      obtain ⟨i, hi, _⟩ := fAdd_of hn hx
      obtain ⟨a, ha, e⟩ := map_at hi
      exact ⟨a, i, ha, List.mem_of_getElem? ha, e⟩
    have hmem : b ∈ l := List.mem_of_getElem? hbm
    have hbst : Bst (fAdd (fun _ => none) 0 (l.map tokT)) path (tokT b) (m + 1) (txt (tokT b)) v :=
      { f := by
          have := fAdd_at (f := fun _ => none) (k := 0) hn (i := m) (s := tokT b) (by rw [List.getElem?_map, hbm]; rfl)
          rw [this]; simp
        m := by rw [← hcb.match]; exact hv
        best := fun x w hx hm hbt => by
          obtain ⟨a, i, ha, hal, rfl⟩ := key x w hx
          have hca := hcl a hal
          rw [← hca.match] at hm
          by_cases him : i = m
          · subst him
            rw [hbm] at ha; cases ha
            exact BT_irr hbt
          · exact BT_asym hbt ((hcb.better hca).1 (hbest i a (List.getElem?_eq_some_iff.1 ha).1 him ha hm))
        o1 := fun x w hx hbt => by
          obtain ⟨a, i, ha, hal, rfl⟩ := key x w hx
          have hca := hcl a hal
          rw [← hca.match]
          exact Decidable.byContradiction fun hne => hno a hal ((hca.better hcb).2 hbt) (.inl hne)
        o2 := fun x w hx hbt hpt => by
          obtain ⟨a, i, ha, hal, rfl⟩ := key x w hx
          have hca := hcl a hal
          refine hno a hal ((hca.better hcb).2 hbt) (.inr (.inl ?_))
          unfold PassN
          rw [pass_tk path _ (tks a) 0 0 (hV a hal) (Nat.zero_le _), same_tk (hV a hal) (hV b hmem), ← tokT_tk, ← tokT_tk, List.drop_zero]
          exact hpt
        o3 := fun hlt x w hx hbt hbg => by
          obtain ⟨a, i, ha, hal, rfl⟩ := key x w hx
          have hca := hcl a hal
          refine hno a hal ((hca.better hcb).2 hbt) (.inr (.inr ⟨hlt, ?_⟩))
          unfold BeginN
          rw [begin_tk (other path) (tks a) 0 (hV a hal) (Nat.zero_le _), ← tokT_tk, List.drop_zero]
          exact hbg }
    obtain ⟨h3, h4, h5⟩ := h2.fnd _ _ _ _ hbst trivial
    exact .inr ⟨m, b, v, hb, hbm, hv, h3, by rw [h4, htx m b hbm], h5⟩
end Gt
