/- Lemmas of the walk and plain facts (GtC1 .. GtC3). -/
import Derived.Test.YtdjnbehdiohggaaDoorP11
import Derived.Test.YtdjnbehdiohggaaDoorP12
/- The search whatever the letters are, as a machine. No program in sight. -/
namespace Gt
open Gs Tr
def lo (c : UInt8) : UInt8 := if 65 ≤ c.toNat ∧ c.toNat ≤ 90 then c + 32 else c
def up (c : UInt8) : UInt8 := if 97 ≤ c.toNat ∧ c.toNat ≤ 122 then c - 32 else c
/-- the rune's byte that is looked for: the byte kept, else none -/
def rbK (P : List UInt8) (rb : UInt8) : UInt8 := if P.length = 0 then rb else 0
/-- the rune that is read -/
def runeK (P p : List UInt8) : UInt8 := if P.length = 0 then 0 else p.headD 0
/-- the byte that is kept behind the kids by index -/
def rbW (P idx p : List UInt8) (rb : UInt8) : UInt8 :=
  if idx = [] then rb else if rbK P rb ≠ 0 then rbK P rb else if up (runeK P p) ≠ lo (runeK P p) then up (runeK P p) else lo (runeK P p)
/-- a kid by index; the byte is kept -/
def subC (rec : T0 → List UInt8 → UInt8 → List UInt8 → Option (Option (List UInt8))) (idx : List UInt8) (kids : List T0) (p cur : List UInt8) (x : UInt8) : Option (Option (List UInt8)) :=
  match idxOf x idx with
  | some i => (match kids[i]? with
    | some k => rec k p x cur
    | none => none)
  | none => some none
/-- the same as the last try: ms, if there is none -/
def lastC (rec : T0 → List UInt8 → UInt8 → List UInt8 → Option (Option (List UInt8))) (idx : List UInt8) (kids : List T0) (p cur : List UInt8) (ms : Option (List UInt8)) (x : UInt8) : Option (Option (List UInt8)) :=
  match idxOf x idx with
  | some i => (match kids[i]? with
    | some k => rec k p x cur
    | none => none)
  | none => some ms
/-- the kids by index, where there is a wildcard, too -/
def staC (rec : T0 → List UInt8 → UInt8 → List UInt8 → Option (Option (List UInt8))) (P idx : List UInt8) (kids : List T0) (p : List UInt8) (rb : UInt8) (cur : List UInt8) : Option (Option (List UInt8)) :=
  if idx = [] then some none
  else if rbK P rb ≠ 0 then subC rec idx kids p cur (rbK P rb)
  else match subC rec idx kids p cur (lo (runeK P p)) with
    | none => none
    | some (some o) => some (some o)
    | some none => if up (runeK P p) ≠ lo (runeK P p) then subC rec idx kids p cur (up (runeK P p)) else some none
/-- behind a parameter at the path's end -/
def tailC (fix : Bool) (ks : List T0) (o : List UInt8) : Option (List UInt8) :=
  if fix then
    match ks with
    | [c] => if c.path = [47] ∧ c.h.isSome then some (o ++ [47]) else none
    | _ => none
  else none
/-- a slash more at a kid -/
def slC (k : T0) (o : List UInt8) : Option (List UInt8) := if (decide (k.path.length = 1) && k.h.isSome) || (decide (k.nt = 3) && ((k.kids.head?).map (·.h.isSome)).getD false) then some (o ++ [47]) else none
/-- what may not be asked of a kid -/
def badC (k : T0) : Prop := ¬ (k.path.length = 1 ∧ k.h.isSome) ∧ k.nt = 3 ∧ k.kids = []
instance (k : T0) : Decidable (badC k) := by unfold badC; infer_instance
/-- none: not told; some none: nothing is found. E: texts that are equal whatever their letters are; rb: the byte that is kept -/
def caseS (E : List UInt8 → List UInt8 → Bool) (fix : Bool) (rec : T0 → List UInt8 → UInt8 → List UInt8 → Option (Option (List UInt8))) (P idx : List UInt8) (wild : Bool) (h : Option Nat) (kids : List T0) (path : List UInt8) (rb : UInt8) (cur : List UInt8) : Option (Option (List UInt8)) :=
    if P.length ≤ path.length ∧ (P.length = 0 ∨ E ((path.take P.length).drop 1) (P.drop 1) = true) then
      let p := path.drop P.length
      if p = [] then
        if h.isSome then some (some (cur ++ P))
        else if fix then
          match idxOf 47 idx with
          | some i =>
            match kids[i]? with
            | some k => if badC k then none else some (slC k (cur ++ P))
            | none => none
          | none => some none
        else some none
      else
        let miss : Option (List UInt8) := if fix ∧ p = [47] ∧ h.isSome then some (cur ++ P) else none
        let r := runeK P p
        if wild = false then
          if rbK P rb ≠ 0 then
            lastC rec idx kids p (cur ++ P) miss (rbK P rb)
          else match subC rec idx kids p (cur ++ P) (lo r) with
            | none => none
            | some (some o) => some (some o)
            | some none =>
              if up r ≠ lo r then lastC rec idx kids p (cur ++ P) miss (up r) else some miss
        else
          match staC rec P idx kids p rb (cur ++ P) with
          | none => none
          | some (some o) => some (some o)
          | some none =>
            match kids[kids.length - 1]? with
            | none => none
            | some k =>
              if k.nt = 2 then
                if (p.takeWhile (· ≠ 47)).length < p.length then
                  match k.kids with
                  | c :: _ => rec c (p.drop (p.takeWhile (· ≠ 47)).length) (rbW P idx p rb) (cur ++ P ++ p.takeWhile (· ≠ 47))
                  | [] => some (if fix ∧ p.length = (p.takeWhile (· ≠ 47)).length + 1 then some (cur ++ P ++ p.takeWhile (· ≠ 47)) else none)
                else if k.h.isSome then some (some (cur ++ P ++ p))
                else some (tailC fix k.kids (cur ++ P ++ p))
              else if k.nt = 3 then some (some (cur ++ P ++ p))
              else none
    else if fix ∧ path = [47] then some (some cur)
    else some (if fix ∧ path.length + 1 = P.length ∧ P[path.length]? = some 47 ∧ E (path.drop 1) ((P.take path.length).drop 1) = true ∧ h.isSome then some (cur ++ P) else none)
def caseC (E : List UInt8 → List UInt8 → Bool) (fix : Bool) : Nat → T0 → List UInt8 → UInt8 → List UInt8 → Option (Option (List UInt8))
  | 0, _, _, _, _ => none
  | f + 1, n, path, rb, cur => caseS E fix (caseC E fix f) n.path n.idx n.wild n.h n.kids path rb cur
end Gt

/- Clean routes as tokens of the tree. No program in sight. -/
namespace Gt
open Gs Tr
def tokP (p : Prt) : List Tok := if p.k.toNat = 0 then bs p.nm else if p.k.toNat = 1 then [.P p.nm] else [.A p.nm]
def tokT (l : List Prt) : List Tok := l.flatMap tokP
theorem txt_tokP {p : Prt} (h : p.k.toNat ≤ 2) : txt (tokP p) = rtP p := by
  unfold tokP rtP
  by_cases h0 : p.k.toNat = 0
  · rw [if_pos h0, if_neg (by omega), if_neg (by omega), txt_bs]; rfl
  · rw [if_neg h0]
    by_cases h1 : p.k.toNat = 1
    · rw [if_pos h1, if_pos h1]; simp [txt]
    · rw [if_neg h1, if_neg h1, if_pos (by omega)]; simp [txt]
theorem txt_tokT : ∀ {l : List Prt}, (∀ p ∈ l, p.k.toNat ≤ 2) → txt (tokT l) = rtT l
  | [], _ => rfl
  | p :: l, h => by
    have e1 : tokT (p :: l) = tokP p ++ tokT l := by simp [tokT]
    have e2 : rtT (p :: l) = rtP p ++ rtT l := by simp [rtT]
    rw [e1, e2, txt_app, txt_tokP (h p (.head _)), txt_tokT fun q hq => h q (.tail _ hq)]
theorem Clean.k2 {l : List Prt} (h : Clean l) : ∀ p ∈ l, p.k.toNat ≤ 2 := fun p hp => by
  obtain ⟨j, hj⟩ := List.getElem?_of_mem hp
  exact (h.2.2.2 j p hj).2.1
theorem plain_of {c : UInt8} (h : plainN c) : plainB c ∧ c ≠ 92 := by
  refine ⟨⟨fun e => h.1 (by rw [e]; rfl), fun e => h.2.1 (by rw [e]; rfl)⟩, fun e => h.2.2 (by rw [e]; rfl)⟩
theorem wordc_of {c : UInt8} (h : wordc c) : c ≠ 47 ∧ c ≠ 58 ∧ c ≠ 42 ∧ c ≠ 92 := by
  refine ⟨fun e => ?_, fun e => ?_, fun e => ?_, fun e => ?_⟩ <;> subst e <;> revert h <;> unfold wordc <;> decide
theorem word_of {s : List UInt8} (h : wordN s) : word s := ⟨h.2.1, fun c hc => ⟨(wordc_of (h.1 c hc)).1, (wordc_of (h.1 c hc)).2.1, (wordc_of (h.1 c hc)).2.2.1⟩⟩
theorem Ok_text : ∀ (t : List UInt8) (s : List Tok), (∀ c ∈ t, plainB c) → t ≠ [] → (Ok (t.getLast? == some 47) s) → ∀ sl, Ok sl (bs t ++ s)
  | [], s, _, h, _ => absurd rfl h
  | [c], s, hp, _, hs => fun sl => by
    refine ⟨hp c (.head _), ?_⟩
    have e : ([c].getLast? == some 47) = (c == 47) := by
      simp only [List.getLast?_singleton]
      by_cases h : c = 47 <;> simp [h]
    rw [e] at hs
    exact hs
  | c :: d :: t, s, hp, _, hs => fun sl => ⟨hp c (.head _), Ok_text (d :: t) s (fun x hx => hp x (.tail _ hx)) (by simp) (by rw [List.getLast?_cons_cons] at hs; exact hs) _⟩
theorem Ok_true {s : List Tok} : ∀ {b : Bool}, b = true → Ok true s → Ok b s := fun h hs => h ▸ hs
theorem drop_at {l : List Prt} {j : Nat} {p : Prt} (h : l[j]? = some p) : l.drop j = p :: l.drop (j + 1) := by
  rw [List.drop_eq_getElem_cons (List.getElem?_eq_some_iff.1 h).1]
  congr 1
  exact (List.getElem?_eq_some_iff.1 h).2
theorem Clean.ok {l : List Prt} (h : Clean l) : ∀ (n j : Nat), n + j = l.length → (j % 2 = 0 → ∀ sl, Ok sl (tokT (l.drop j))) ∧ (j % 2 = 1 → Ok true (tokT (l.drop j)))
  | 0, j, hj => by
    rw [List.drop_of_length_le (by omega)]
    exact ⟨fun _ sl => by cases sl <;> trivial, fun _ => trivial⟩
  | n + 1, j, hj => by
    obtain ⟨p, hp⟩ : ∃ p, l[j]? = some p := ⟨_, List.getElem?_eq_getElem (by omega)⟩
    have hop := h.2.2.2 j p hp
    have ih := Clean.ok h n (j + 1) (by omega)
    have e1 : tokT (l.drop j) = tokP p ++ tokT (l.drop (j + 1)) := by rw [drop_at hp]; simp [tokT]
    refine ⟨fun h0 => ?_, fun h0 => ?_⟩
    · have hk : p.k.toNat = 0 := hop.1.2 h0
      have ht := hop.2.2.2.1 hk
      have e2 : tokP p = bs p.nm := if_pos hk
      rw [e1, e2]
      refine Ok_text _ _ (fun c hc => (plain_of (ht.2.2.2.2 c hc)).1) ht.1 ?_
      by_cases hn : j + 1 < l.length
      · obtain ⟨q, hq⟩ : ∃ q, l[j + 1]? = some q := ⟨_, List.getElem?_eq_getElem hn⟩
        have hoq := h.2.2.2 (j + 1) q hq
        have hkq : q.k.toNat ≠ 0 := fun e => by have := hoq.1.1 e; omega
        obtain ⟨t, ht2⟩ := (hoq.2.2.2.2 hkq).2.1 p (by rw [Nat.add_sub_cancel]; exact hp)
        refine Ok_true ?_ (ih.2 (by omega))
        rw [← ht2, List.getLast?_append]
        rfl
      · rw [List.drop_of_length_le (by omega)]
        cases (p.nm.getLast? == some 47) <;> trivial
    · have hk : p.k.toNat ≠ 0 := fun e => by have := hop.1.1 e; omega
      have hw := hop.2.2.2.2 hk
      rw [e1]
      by_cases hk1 : p.k.toNat = 1
      · have e2 : tokP p = [.P p.nm] := by unfold tokP; rw [if_neg hk, if_pos hk1]
        rw [e2]
        refine ⟨rfl, word_of hw.1, ?_, ih.1 (by omega) false⟩
        by_cases hn : j + 1 < l.length
        · obtain ⟨q, hq⟩ : ∃ q, l[j + 1]? = some q := ⟨_, List.getElem?_eq_getElem hn⟩
          have hoq := h.2.2.2 (j + 1) q hq
          have hkq : q.k.toNat = 0 := hoq.1.2 (by omega)
          have hhd := (hoq.2.2.2.1 hkq).2.2.2.1 (by omega)
          have e3 : tokP q = bs q.nm := if_pos hkq
          have e4 : tokT (l.drop (j + 1)) = tokP q ++ tokT (l.drop (j + 1 + 1)) := by rw [drop_at hq]; simp [tokT]
          refine .inr ?_
          rw [e4, e3]
          cases hqn : q.nm with
          | nil => rw [hqn] at hhd; cases hhd
          | cons c r => rw [hqn] at hhd; cases hhd; exact ⟨bs r ++ tokT (l.drop (j + 1 + 1)), rfl⟩
        · rw [List.drop_of_length_le (by omega)]; exact .inl rfl
      · have e2 : tokP p = [.A p.nm] := by unfold tokP; rw [if_neg hk, if_neg hk1]
        have hend := hop.2.2.1 (by have := hop.2.1; omega)
        rw [e2, List.drop_of_length_le (by omega)]
        exact ⟨rfl, word_of hw.1, rfl⟩
theorem Clean.good {l : List Prt} (h : Clean l) : Good (tokT l) := by
  have h0 := (Clean.ok h l.length 0 (by omega)).1 rfl false
  rw [List.drop_zero] at h0
  refine ⟨h0, ?_⟩
  obtain ⟨p, hp⟩ : ∃ p, l[0]? = some p := ⟨_, List.getElem?_eq_getElem (List.length_pos_iff.2 h.1)⟩
  obtain ⟨hk, r, hr⟩ := h.2.2.1 p hp
  have e1 : tokT (l.drop 0) = tokP p ++ tokT (l.drop (0 + 1)) := by rw [drop_at hp]; simp [tokT]
  have e2 : tokP p = bs p.nm := if_pos hk
  rw [List.drop_zero, e2, ← hr] at e1
  exact ⟨_, e1⟩
theorem Clean.part {l : List Prt} (h : Clean l) : ∀ p ∈ l, (∀ c ∈ rtP p, c ≠ 92) ∧ (rtP p).length ≤ 101 := fun p hp => by
  obtain ⟨j, hj⟩ := List.getElem?_of_mem hp
  have hop := h.2.2.2 j p hj
  unfold rtP
  by_cases hk : p.k.toNat = 0
  · have ht := hop.2.2.2.1 hk
    rw [if_neg (by omega), if_neg (by omega), List.nil_append]
    exact ⟨fun c hc => (plain_of (ht.2.2.2.2 c hc)).2, by omega⟩
  · have hw := (hop.2.2.2.2 hk).1
    refine ⟨fun c hc => ?_, ?_⟩
    · rcases List.mem_append.1 hc with hc | hc
      · split at hc
        · rw [List.mem_singleton.1 hc]; decide
        · split at hc
          · rw [List.mem_singleton.1 hc]; decide
          · cases hc
      · exact (wordc_of (hw.1 c hc)).2.2.2
    · rw [List.length_append]
      have := hw.2.2
      split
      · simp; omega
      · split <;> simp <;> omega
theorem Clean.txt {l : List Prt} (h : Clean l) : (rtT l).length ≤ 20000 ∧ ∀ c ∈ rtT l, c ≠ 92 := by
  have key : ∀ m : List Prt, (∀ p ∈ m, p ∈ l) → (rtT m).length ≤ 101 * m.length ∧ ∀ c ∈ rtT m, c ≠ 92 := by
    intro m
    induction m with
    | nil => intro _; exact ⟨by simp [rtT], fun c hc => by cases hc⟩
    | cons p m ih =>
      intro hm
      obtain ⟨h1, h2⟩ := ih fun q hq => hm q (.tail _ hq)
      obtain ⟨h3, h4⟩ := h.part p (hm p (.head _))
      have e2 : rtT (p :: m) = rtP p ++ rtT m := by simp [rtT]
      rw [e2, List.length_append, List.length_cons]
      exact ⟨by omega, fun c hc => (List.mem_append.1 hc).elim (h3 c) (h2 c)⟩
  obtain ⟨h1, h2⟩ := key l fun p hp => hp
  have := h.2.1
  exact ⟨by omega, h2⟩
/-! ### apart -/
def tk1 (t : Tk) : Tok := if t.k.toNat = 0 then .b t.c else if t.k.toNat = 1 then .P t.nm else .A t.nm
def TkV (t : Tk) : Prop := (t.k.toNat = 0 ∧ t.nm = []) ∨ (t.k.toNat ≠ 0 ∧ t.k.toNat ≤ 2 ∧ t.c = 0)
theorem tk1_inj {x y : Tk} (hx : TkV x) (hy : TkV y) (h : tk1 x = tk1 y) : x = y := by
  obtain ⟨k, c, n⟩ := x
  obtain ⟨k2, c2, n2⟩ := y
  unfold tk1 at h
  unfold TkV at hx hy
  simp only at h hx hy
  have hkk : k.toNat = k2.toNat → k = k2 := fun e => UInt8.toNat_inj.1 e
  by_cases h0 : k.toNat = 0
  · rw [if_pos h0] at h
    by_cases h02 : k2.toNat = 0
    · rw [if_pos h02] at h
      cases h
      rcases hx with hx | hx
      · rcases hy with hy | hy
        · rw [hkk (by omega), hx.2, hy.2]
        · exact absurd h02 hy.1
      · exact absurd h0 hx.1
    · rw [if_neg h02] at h
      split at h <;> cases h
  · rw [if_neg h0] at h
    by_cases h02 : k2.toNat = 0
    · rw [if_pos h02] at h
      split at h <;> cases h
    · rw [if_neg h02] at h
      rcases hx with hx | hx
      · exact absurd hx.1 h0
      rcases hy with hy | hy
      · exact absurd hy.1 h02
      by_cases h1 : k.toNat = 1
      · rw [if_pos h1] at h
        split at h
        · rename_i h12
          cases h; rw [hkk (by omega), hx.2.2, hy.2.2]
        · cases h
      · rw [if_neg h1] at h
        split at h
        · cases h
        · cases h; rw [hkk (by omega), hx.2.2, hy.2.2]
theorem parts_tk {x y : Tk} (hx : TkV x) (hy : TkV y) (_hne : x ≠ y) : parts (tk1 x) (tk1 y) = true ↔ x.k.toNat ≠ 2 ∧ y.k.toNat ≠ 2 ∧ ¬ (x.k.toNat = 1 ∧ y.k.toNat = 1) := by
  have ux : x.k.toNat ≤ 2 := by rcases hx with h | h <;> omega
  have uy : y.k.toNat ≤ 2 := by rcases hy with h | h <;> omega
  unfold tk1
  by_cases h0 : x.k.toNat = 0
  · rw [if_pos h0]
    by_cases h2 : y.k.toNat = 0
    · rw [if_pos h2]; simp [parts]; omega
    · rw [if_neg h2]
      by_cases h3 : y.k.toNat = 1
      · rw [if_pos h3]; simp [parts]; omega
      · rw [if_neg h3]; simp [parts]; omega
  · rw [if_neg h0]
    by_cases h1 : x.k.toNat = 1
    · rw [if_pos h1]
      by_cases h2 : y.k.toNat = 0
      · rw [if_pos h2]; simp [parts]; omega
      · rw [if_neg h2]
        by_cases h3 : y.k.toNat = 1
        · rw [if_pos h3]; simp [parts]; omega
        · rw [if_neg h3]; simp [parts]; omega
    · rw [if_neg h1]; simp [parts]; omega
theorem noA_tk {x : Tk} (hx : TkV x) (s : List Tok) : noA (tk1 x :: s) = true ↔ x.k.toNat ≠ 2 := by
  have ux : x.k.toNat ≤ 2 := by rcases hx with h | h <;> omega
  unfold tk1
  by_cases h0 : x.k.toNat = 0
  · rw [if_pos h0]; simp [noA]; omega
  · rw [if_neg h0]
    by_cases h1 : x.k.toNat = 1
    · rw [if_pos h1]; simp [noA]; omega
    · rw [if_neg h1]; simp [noA]; omega
theorem apart_tk : ∀ {x y : List Tk}, (∀ t ∈ x, TkV t) → (∀ t ∈ y, TkV t) → (ApartN x y ↔ apart (x.map tk1) (y.map tk1) = true)
  | [], [], _, _ => by simp [ApartN, apart]
  | [], b :: r, _, hy => by
    show _ ↔ noA (tk1 b :: r.map tk1) = true
    rw [noA_tk (hy b (.head _))]; rfl
  | a :: s, [], hx, _ => by
    show _ ↔ noA (tk1 a :: s.map tk1) = true
    rw [noA_tk (hx a (.head _))]; rfl
  | a :: s, b :: r, hx, hy => by
    have ih := apart_tk (x := s) (y := r) (fun t ht => hx t (.tail _ ht)) (fun t ht => hy t (.tail _ ht))
    show ((a = b ∧ ApartN s r) ∨ (a ≠ b ∧ _)) ↔ (if tk1 a = tk1 b then apart (s.map tk1) (r.map tk1) else parts (tk1 a) (tk1 b)) = true
    by_cases hab : a = b
    · rw [if_pos (by rw [hab]), ← ih]
      exact ⟨fun h => h.elim (fun h => h.2) (fun h => absurd hab h.1), fun h => .inl ⟨hab, h⟩⟩
    · rw [if_neg fun e => hab (tk1_inj (hx a (.head _)) (hy b (.head _)) e), parts_tk (hx a (.head _)) (hy b (.head _)) hab]
      exact ⟨fun h => h.elim (fun h => absurd h.1 hab) (fun h => h.2), fun h => .inr ⟨hab, h⟩⟩
theorem tokP_tk {p : Prt} : tokP p = (tkP p).map tk1 := by
  unfold tokP tkP
  by_cases h0 : p.k.toNat = 0
  · rw [if_pos h0, if_pos h0]
    simp [bs, tk1]
  · rw [if_neg h0, if_neg h0]
    simp [tk1, h0]
    split <;> rfl
theorem tokT_tk (l : List Prt) : tokT l = (tks l).map tk1 := by
  unfold tokT tks
  rw [List.map_flatMap]
  congr 1
  funext p
  exact tokP_tk
theorem tks_V {l : List Prt} (h : ∀ p ∈ l, p.k.toNat ≤ 2) : ∀ t ∈ tks l, TkV t := fun t ht => by
  obtain ⟨p, hp, htp⟩ := List.mem_flatMap.1 ht
  unfold tkP at htp
  split at htp
  · obtain ⟨c, _, rfl⟩ := List.mem_map.1 htp
    exact .inl ⟨rfl, rfl⟩
  · rw [List.mem_singleton.1 htp]
    rename_i h0
    exact .inr ⟨h0, h p hp, rfl⟩
theorem Clean.apart {a b : List Prt} (ha : Clean a) (hb : Clean b) : ApartN (tks a) (tks b) ↔ apart (tokT a) (tokT b) = true := by
  rw [tokT_tk, tokT_tk]
  exact apart_tk (tks_V ha.k2) (tks_V hb.k2)
/-! ### tables -/
theorem TableN.clean {l : List (List Prt)} (h : TableN l) : ∀ r ∈ l, Clean r := fun r hr => by
  obtain ⟨j, hj⟩ := List.getElem?_of_mem hr
  exact (h j r hj).1
theorem TableN.pw {l : List (List Prt)} (h : TableN l) : (l.map tokT).Pairwise (fun a b => Gt.apart a b = true) := by
  rw [List.pairwise_map, List.pairwise_iff_getElem]
  intro i j hi hj hij
  have h1 := h j l[j] (List.getElem?_eq_getElem hj)
  have h2 := h i l[i] (List.getElem?_eq_getElem hi)
  rw [apart_comm]
  exact (h1.1.apart h2.1).1 (h1.2 l[i] (List.mem_of_getElem? (i := i) (by rw [List.getElem?_take_of_lt hij]; exact List.getElem?_eq_getElem hi)))
end Gt

/- What the reference finds in a table. No program in sight. -/
namespace Gt
open Gs Tr
/-- a route goes ahead of another one -/
def BetterN : List Tk → List Tk → Prop
  | a :: s, b :: r => (a = b ∧ BetterN s r) ∨ (a ≠ b ∧ a.k.toNat < b.k.toNat)
  | _, _ => False
/-- ginMatch from a place of the path on -/
def mAt (path : List UInt8) : List Prt → Nat → List (List UInt8 × List UInt8) → Option (List (List UInt8 × List UInt8))
  | [], i, acc => if i = path.length then some acc else none
  | p :: l, i, acc =>
    if p.k.toNat = 0 then (if p.nm.isPrefixOf (path.drop i) then mAt path l (i + p.nm.length) acc else none)
    else if p.k.toNat = 1 then
      (if ((path.drop i).takeWhile (· ≠ 47)).length = 0 then none else mAt path l (i + ((path.drop i).takeWhile (· ≠ 47)).length) (acc ++ [(p.nm, (path.drop i).takeWhile (· ≠ 47))]))
    else mAt path l path.length (acc ++ [(p.nm, path.drop (i - 1))])
def matchN (l : List Prt) (path : List UInt8) : Option (List (List UInt8 × List UInt8)) := mAt path l 0 []
/-- the best one of the first routes: its place -/
noncomputable def bestN (rs : List (List Prt)) (path : List UInt8) : Nat → Option Nat
  | 0 => none
  | n + 1 => match rs[n]? with
    | none => bestN rs path n
    | some a => match matchN a path, bestN rs path n with
      | none, b => b
      | some _, none => some n
      | some _, some m => match rs[m]? with
        | none => some m
        | some b => if dec (BetterN (tks a) (tks b)) then some n else some m
end Gt

/- What the reference leaves open. No program in sight. -/
namespace Gt
open Gs Tr
/-- how far the next slash is -/
def sl (d : List UInt8) : Nat := (d.takeWhile (· ≠ 47)).length
theorem sl_le (d : List UInt8) : sl d ≤ d.length := (List.takeWhile_sublist _).length_le
theorem sl_lt : ∀ {d : List UInt8} {q : Nat}, q < sl d → ∃ x, d[q]? = some x ∧ x ≠ 47
  | [], q, h => by simp [sl] at h
  | c :: d, q, h => by
    unfold sl at h
    rw [List.takeWhile_cons] at h
    split at h
    · rename_i hc
      cases q with
      | zero => exact ⟨c, rfl, by simpa using hc⟩
      | succ q => simpa using sl_lt (d := d) (q := q) (by unfold sl; simpa using h)
    · simp at h
theorem sl_end : ∀ {d : List UInt8} {x : UInt8}, d[sl d]? = some x → x = 47
  | [], x, h => by simp at h
  | c :: d, x, h => by
    unfold sl at h
    rw [List.takeWhile_cons] at h
    split at h
    · exact sl_end (d := d) (by unfold sl; simpa using h)
    · rename_i hc
      have hcx : c = x := by simpa using h
      rw [← hcx]; simpa using hc
theorem sl_no {d : List UInt8} (h : ¬ (47 : UInt8) ∈ d) : sl d = d.length := by
  refine Nat.le_antisymm (sl_le d) (Nat.not_lt.1 fun hlt => h ?_)
  have := sl_end (List.getElem?_eq_getElem hlt)
  exact this ▸ List.getElem_mem hlt
/-- how far two routes go together -/
noncomputable def same : List Tk → List Tk → Nat
  | a :: s, b :: r => @ite _ (a = b) (Classical.propDecidable _) (same s r + 1) 0
  | _, _ => 0
end Gt

/- When it is left open what a path finds. No program in sight. -/
namespace Gt
open Gs Tr
/-- the path with another end -/
def other (path : List UInt8) : List UInt8 := @ite _ (1 < path.length ∧ path[path.length - 1]? = some 47) inferInstance (path.take (path.length - 1)) (path ++ [47])
end Gt

/- Loose matching on tokens. No program in sight. -/
namespace Gt
open Gs Tr
end Gt

/- Strict matching on tokens. No program in sight. -/
namespace Gt
open Gs Tr
/-- the values of a route that a path is one of -/
def MT : List Tok → List UInt8 → Option (List (List UInt8 × List UInt8))
  | [], p => if p = [] then some [] else none
  | .b c :: s, p => if p.head? = some c then MT s (p.drop 1) else none
  | .P n :: s, p => if sl p = 0 then none else (MT s (p.drop (sl p))).map ((n, p.take (sl p)) :: ·)
  | .A n :: _, p => some [(n, 47 :: p)]
theorem MT_bs : ∀ (t : List UInt8) (s : List Tok) (p : List UInt8), MT (bs t ++ s) p = if t.isPrefixOf p then MT s (p.drop t.length) else none
  | [], s, p => by simp [bs]
  | c :: t, s, p => by
    show (if p.head? = some c then MT (bs t ++ s) (p.drop 1) else none) = _
    cases p with
    | nil => simp
    | cons d q =>
      by_cases hcd : d = c
      · subst hcd
        simp [MT_bs t s q]
      · simp only [List.head?_cons, Option.some.injEq]
        rw [if_neg hcd, if_neg]
        simp only [List.isPrefixOf, Bool.and_eq_true, beq_iff_eq]
        exact fun h => hcd h.1.symm
end Gt

/- ginMatch on parts and on tokens. No program in sight. -/
namespace Gt
open Gs Tr
/-- a catch-all is the last part, behind a slash; kinds are three -/
def ChA : List Prt → Prop
  | [] => True
  | p :: l => p.k.toNat ≤ 2 ∧ (p.k.toNat = 2 → l = []) ∧ (∀ q r, l = q :: r → q.k.toNat = 2 → p.k.toNat = 0 ∧ [47] <:+ p.nm) ∧ ChA l
theorem Clean.chA {l : List Prt} (h : Clean l) : ChA l := by
  have key : ∀ (n j : Nat), n + j = l.length → ChA (l.drop j) := by
    intro n
    induction n with
    | zero => intro j hj; rw [List.drop_of_length_le (by omega)]; trivial
    | succ n ih =>
      intro j hj
      obtain ⟨p, hp⟩ : ∃ p, l[j]? = some p := ⟨_, List.getElem?_eq_getElem (by omega)⟩
      have hop := h.2.2.2 j p hp
      rw [drop_at hp]
      refine ⟨hop.2.1, fun h2 => List.drop_of_length_le (by have := hop.2.2.1 h2; omega), fun q r hqr hk => ?_, ih (j + 1) (by omega)⟩
      have hq : l[j + 1]? = some q := by
        have e : (l.drop (j + 1))[0]? = some q := by rw [hqr]; rfl
        rw [List.getElem?_drop] at e
        simpa using e
      have hoq := h.2.2.2 (j + 1) q hq
      have hj0 : j % 2 = 0 := by
        have : ¬ (j + 1) % 2 = 0 := fun e => by have := hoq.1.2 e; omega
        omega
      exact ⟨hop.1.2 hj0, (hoq.2.2.2.2 (by omega)).2.1 p (by rw [Nat.add_sub_cancel]; exact hp)⟩
  have := key l.length 0 (by omega)
  rwa [List.drop_zero] at this
theorem mAt_MT (path : List UInt8) : ∀ (l : List Prt) (i : Nat) (acc : List (List UInt8 × List UInt8)), ChA l → i ≤ path.length → (∀ q r, l = q :: r → q.k.toNat = 2 → 1 ≤ i ∧ path[i - 1]? = some 47) → mAt path l i acc = (MT (tokT l) (path.drop i)).map (acc ++ ·)
  | [], i, acc, _, hi, _ => by
    have e : tokT [] = [] := rfl
    rw [e]
    unfold mAt MT
    by_cases h : i = path.length
    · rw [if_pos h, if_pos (by rw [List.drop_eq_nil_iff]; omega)]; simp
    · rw [if_neg h, if_neg (by rw [List.drop_eq_nil_iff]; omega)]; rfl
  | p :: l, i, acc, h, hi, hs => by
    have e1 : tokT (p :: l) = tokP p ++ tokT l := by simp [tokT]
    rw [e1]
    unfold mAt tokP
    by_cases h0 : p.k.toNat = 0
    · rw [if_pos h0, if_pos h0, MT_bs]
      by_cases hp : p.nm.isPrefixOf (path.drop i) = true
      · rw [if_pos hp, if_pos hp, List.drop_drop]
        obtain ⟨t, ht⟩ := List.isPrefixOf_iff_prefix.1 hp
        have hl := congrArg List.length ht
        rw [List.length_append, List.length_drop] at hl
        refine mAt_MT path l _ acc h.2.2.2 (by omega) (fun q r hqr hk => ?_)
        obtain ⟨u, hu⟩ := (h.2.2.1 q r hqr hk).2
        have hul : p.nm.length = u.length + 1 := by rw [← hu]; simp
        refine ⟨by omega, ?_⟩
        have e2 : path[i + p.nm.length - 1]? = (path.drop i)[p.nm.length - 1]? := by
          rw [List.getElem?_drop]; congr 1; omega
        rw [e2, ← ht, ← hu]
        simp
      · rw [if_neg hp, if_neg hp]; rfl
    · rw [if_neg h0, if_neg h0]
      by_cases h1 : p.k.toNat = 1
      · rw [if_pos h1, if_pos h1]
        have hsl := sl_le (path.drop i)
        rw [List.length_drop] at hsl
        have etw : (path.drop i).takeWhile (· ≠ 47) = (path.drop i).take (sl (path.drop i)) := List.prefix_iff_eq_take.1 (List.takeWhile_prefix _)
        show (if sl (path.drop i) = 0 then none else mAt path l (i + sl (path.drop i)) (acc ++ [(p.nm, (path.drop i).takeWhile (· ≠ 47))])) = (if sl (path.drop i) = 0 then none else (MT (tokT l) ((path.drop i).drop (sl (path.drop i)))).map ((p.nm, (path.drop i).take (sl (path.drop i))) :: ·)).map (acc ++ ·)
        by_cases hz : sl (path.drop i) = 0
        · rw [if_pos hz, if_pos hz]; rfl
        · rw [if_neg hz, if_neg hz, List.drop_drop, etw, mAt_MT path l _ _ h.2.2.2 (by omega) (fun q r hqr hk => by have := (h.2.2.1 q r hqr hk).1; omega)]
          rw [Option.map_map]
          congr 1
          funext x
          simp
      · rw [if_neg h1, if_neg h1]
        have hk2 : p.k.toNat = 2 := by have := h.1; omega
        have hl : l = [] := h.2.1 hk2
        subst hl
        obtain ⟨hi1, h47⟩ := hs p [] rfl hk2
        have e3 : path.drop (i - 1) = 47 :: path.drop i := by
          obtain ⟨hlt, hv⟩ := List.getElem?_eq_some_iff.1 h47
          rw [List.drop_eq_getElem_cons hlt, hv]; congr 2; omega
        show mAt path [] path.length _ = (some [(p.nm, 47 :: path.drop i)]).map (acc ++ ·)
        unfold mAt
        rw [if_pos rfl, e3]; rfl
theorem Clean.match {l : List Prt} (h : Clean l) (path : List UInt8) : matchN l path = MT (tokT l) path := by
  have := mAt_MT path l 0 [] h.chA (Nat.zero_le _) (fun q r hqr hk => by
    have := (h.2.2.2 0 q (by rw [hqr]; rfl)).1.2 rfl
    omega)
  unfold matchN
  rw [this]
  simp
end Gt

/- Which route goes ahead, on tokens; how far two go together. No program in sight. -/
namespace Gt
open Gs Tr
def rk : Tok → Nat
  | .b _ => 0
  | .P _ => 1
  | .A _ => 2
/-- a route goes ahead of another one -/
def BT : List Tok → List Tok → Prop
  | a :: s, b :: r => (a = b ∧ BT s r) ∨ (a ≠ b ∧ rk a < rk b)
  | _, _ => False
/-- how far two routes go together -/
def sameT : List Tok → List Tok → Nat
  | a :: s, b :: r => if a = b then sameT s r + 1 else 0
  | _, _ => 0
theorem rk_tk {t : Tk} (h : TkV t) : rk (tk1 t) = t.k.toNat := by
  have u : t.k.toNat ≤ 2 := by rcases h with h | h <;> omega
  unfold tk1
  by_cases h0 : t.k.toNat = 0
  · rw [if_pos h0, h0]; rfl
  · rw [if_neg h0]
    by_cases h1 : t.k.toNat = 1
    · rw [if_pos h1, h1]; rfl
    · rw [if_neg h1]; show 2 = _; omega
theorem better_tk : ∀ {x y : List Tk}, (∀ t ∈ x, TkV t) → (∀ t ∈ y, TkV t) → (BetterN x y ↔ BT (x.map tk1) (y.map tk1))
  | [], y, _, _ => by cases y <;> exact ⟨fun h => h, fun h => h⟩
  | a :: s, [], _, _ => ⟨fun h => h, fun h => h⟩
  | a :: s, b :: r, hx, hy => by
    have ih := better_tk (x := s) (y := r) (fun t ht => hx t (.tail _ ht)) (fun t ht => hy t (.tail _ ht))
    show ((a = b ∧ BetterN s r) ∨ (a ≠ b ∧ a.k.toNat < b.k.toNat)) ↔ ((tk1 a = tk1 b ∧ BT (s.map tk1) (r.map tk1)) ∨ (tk1 a ≠ tk1 b ∧ rk (tk1 a) < rk (tk1 b)))
    have he : tk1 a = tk1 b ↔ a = b := ⟨fun e => tk1_inj (hx a (.head _)) (hy b (.head _)) e, fun e => by rw [e]⟩
    rw [rk_tk (hx a (.head _)), rk_tk (hy b (.head _)), ih, he, ne_eq, ne_eq, he]
theorem Clean.better {a b : List Prt} (ha : Clean a) (hb : Clean b) : BetterN (tks a) (tks b) ↔ BT (tokT a) (tokT b) := by
  rw [tokT_tk, tokT_tk]
  exact better_tk (tks_V ha.k2) (tks_V hb.k2)
end Gt

/- What is left open, on tokens. No program in sight. -/
namespace Gt
open Gs Tr
/-- passes, from a token on -/
def PT (d : Nat) : List Tok → Nat → List UInt8 → Prop
  | [], _, _ => False
  | .b c :: s, i, p => p.head? = some c ∧ PT d s (i + 1) (p.drop 1)
  | .P _ :: s, i, p => if d < i then p ≠ [] else PT d s (i + 1) (p.drop (sl p))
  | .A _ :: s, i, p => if d < i then True else PT d s (i + 1) (p.drop (sl p))
/-- begins, from a token on -/
def BGT : List Tok → List UInt8 → Prop
  | [], p => p = []
  | .b c :: s, p => p = [] ∨ (p.head? = some c ∧ BGT s (p.drop 1))
  | .P _ :: s, p => p = [] ∨ ¬ (47 : UInt8) ∈ p ∨ BGT s (p.drop (sl p))
  | .A _ :: _, _ => True
end Gt

/- How long the machine can run. No program in sight. -/
namespace Gt
open Gs Tr
/-- a bound of the steps below a node -/
def size : T0 → Nat
  | .node _ _ _ _ _ _ _ _ kids => 2 + sizes kids
where sizes : List T0 → Nat
  | [] => 0
  | k :: ks => size k + sizes ks
theorem size_kid {k : T0} : ∀ {kids : List T0}, k ∈ kids → size k ≤ size.sizes kids
  | [], h => by cases h
  | a :: ks, h => by
    show size k ≤ size a + size.sizes ks
    rcases List.mem_cons.1 h with rfl | h
    · omega
    · have := size_kid h; omega
end Gt

/- The machine's steps at a node that is known. No program in sight. -/
namespace Gt
open Gs Tr
section
variable {u : List UInt8 → List UInt8} {cP cS f : Nat} {P idx full : List UInt8} {wild : Bool} {nt pr : Nat} {h : Option Nat} {kids : List T0} {p : List UInt8} {ps : List (List UInt8 × List UInt8)} {sk : List Sk}
end
end Gt

/- Tokens that eat a path; what follows for the ways of matching. No program in sight. -/
namespace Gt
open Gs Tr
abbrev Vs := List (List UInt8 × List UInt8)
/-- tokens eat the beginning of a path: the values, what is left -/
inductive Eat : List Tok → List UInt8 → Vs → List UInt8 → Prop
  | nil {p : List UInt8} : Eat [] p [] p
  | b {c : UInt8} {s : List Tok} {q p : List UInt8} {v : Vs} (h : Eat s q v p) : Eat (.b c :: s) (c :: q) v p
  | P {n : List UInt8} {s : List Tok} {a p : List UInt8} {v : Vs} (hs : sl a ≠ 0) (h : Eat s (a.drop (sl a)) v p) : Eat (.P n :: s) a ((n, a.take (sl a)) :: v) p
theorem Eat.app {s r : List Tok} {a p q : List UInt8} {v w : Vs} (h : Eat s a v p) (h2 : Eat r p w q) : Eat (s ++ r) a (v ++ w) q := by
  induction h with
  | nil => exact h2
  | b _ ih => exact .b (ih h2)
  | P hs _ ih => exact .P hs (ih h2)
theorem Eat.bs : ∀ (t p : List UInt8), Eat (bs t) (t ++ p) [] p
  | [], _ => .nil
  | _ :: t, p => .b (Eat.bs t p)
theorem Eat.appb {s : List Tok} {a p : List UInt8} {v : Vs} {t : List UInt8} (h : Eat s a v (t ++ p)) : Eat (s ++ Gt.bs t) a v p := by
  have := h.app (Eat.bs t p)
  rwa [List.append_nil] at this
theorem Eat.MT {s r : List Tok} {a p : List UInt8} {v : Vs} (h : Eat s a v p) : MT (s ++ r) a = (MT r p).map (v ++ ·) := by
  induction h with
  | nil => simp
  | @b c s q p v _ ih => simp [Gt.MT, ih]
  | @P n s a p v hs _ ih =>
    simp only [List.cons_append, Gt.MT]
    rw [if_neg hs, ih, Option.map_map]
    congr 1
theorem Eat.suf {s : List Tok} {a p : List UInt8} {v : Vs} (h : Eat s a v p) : p <:+ a := by
  induction h with
  | nil => exact List.suffix_refl _
  | b _ ih => exact ih.trans (List.suffix_cons _ _)
  | P _ _ ih => exact ih.trans (List.drop_suffix _ _)
theorem Eat.PT {s r : List Tok} {a p : List UInt8} {v : Vs} (h : Eat s a v p) {d : Nat} : ∀ {i : Nat}, PT d r (i + s.length) p → PT d (s ++ r) i a := by
  induction h with
  | nil => exact fun h => h
  | @b c s q p v _ ih =>
    intro i h
    refine ⟨rfl, ih (i := i + 1) ?_⟩
    rw [List.length_cons] at h
    rwa [Nat.add_assoc, Nat.add_comm 1]
  | @P n s a p v hs _ ih =>
    intro i h
    show if d < i then a ≠ [] else Gt.PT d (s ++ r) (i + 1) (a.drop (sl a))
    by_cases hd : d < i
    · rw [if_pos hd]; rintro rfl; exact hs rfl
    · rw [if_neg hd]
      refine ih (i := i + 1) ?_
      rw [List.length_cons] at h
      rwa [Nat.add_assoc, Nat.add_comm 1]
theorem Eat.BGT {s r : List Tok} {a p : List UInt8} {v : Vs} (h : Eat s a v p) (hb : BGT r p) : BGT (s ++ r) a := by
  induction h with
  | nil => exact hb
  | b _ ih => exact .inr ⟨rfl, ih hb⟩
  | P _ _ ih => exact .inr (.inr (ih hb))
theorem BGT_nil : ∀ (r : List Tok), BGT r []
  | [] => rfl
  | .b _ :: _ => .inl rfl
  | .P _ :: _ => .inl rfl
  | .A _ :: _ => trivial
/-- values, and no more -/
theorem sl_cons {c : UInt8} {d : List UInt8} : sl (c :: d) = if c = 47 then 0 else sl d + 1 := by
  unfold sl
  by_cases h : c = 47
  · subst h; simp
  · rw [if_neg h, List.takeWhile_cons_of_pos (by simpa using h)]; rfl
theorem sl_append : ∀ {a t : List UInt8}, sl a < a.length → sl (a ++ t) = sl a
  | [], _, h => by simp at h
  | c :: a, t, h => by
    rw [List.cons_append, sl_cons, sl_cons]
    by_cases hc : c = 47
    · rw [if_pos hc, if_pos hc]
    · rw [sl_cons, if_neg hc] at h
      rw [if_neg hc, if_neg hc, sl_append (by simpa using h)]
theorem sl_take (a : List UInt8) : (47 : UInt8) ∉ a.take (sl a) := fun h => by
  obtain ⟨i, hi⟩ := List.mem_iff_getElem?.1 h
  rw [List.getElem?_take] at hi
  split at hi
  · rename_i hlt
    obtain ⟨x, hx, hx2⟩ := sl_lt hlt
    rw [hi] at hx
    cases hx
    exact hx2 rfl
  · cases hi
/-- what is left begins with a slash -/
theorem sl_drop {a : List UInt8} (h : sl a < a.length) : ∃ t, a.drop (sl a) = 47 :: t := by
  have h2 := List.getElem?_eq_getElem h
  have := sl_end h2
  exact ⟨_, by rw [List.drop_eq_getElem_cons h, this]⟩
theorem dropLast_drop {a : List UInt8} {n : Nat} (h : n < a.length) : a.dropLast.drop n = (a.drop n).dropLast := by
  rw [List.dropLast_eq_take, List.dropLast_eq_take, List.drop_take, List.length_drop]; congr 1; omega
theorem sl_dropLast {a : List UInt8} (h : sl a < a.length) : sl a.dropLast = sl a := by
  by_cases h2 : sl a < a.dropLast.length
  · have e : a = a.dropLast ++ [a.getLast (by rintro rfl; simp at h)] := (List.dropLast_concat_getLast _).symm
    by_cases h3 : sl a.dropLast < a.dropLast.length
    · conv => rhs; rw [e]
      rw [sl_append h3]
    · exfalso
      have h4 : sl a.dropLast = a.dropLast.length := Nat.le_antisymm (sl_le _) (by omega)
      have hm := sl_take a.dropLast
      rw [h4, List.take_length] at hm
      obtain ⟨t, ht⟩ := sl_drop h
      have : (47 : UInt8) ∈ a.dropLast.drop (sl a) := by
        rw [dropLast_drop h, ht]
        cases t with
        | nil =>
          exfalso
          have hl := congrArg List.length ht
          rw [List.length_drop] at hl
          rw [List.length_dropLast] at h2
          simp at hl; omega
        | cons x t => simp
      exact hm (List.mem_of_mem_drop this)
  · have h3 : sl a = a.dropLast.length := by rw [List.length_dropLast] at h2 ⊢; omega
    have hm : (47 : UInt8) ∉ a.dropLast := by
      have := sl_take a
      rwa [h3, List.length_dropLast, ← List.dropLast_eq_take] at this
    rw [sl_no hm, h3]
theorem Eat.last {s : List Tok} {a p : List UInt8} {v : Vs} (h : Eat s a v p) : p ≠ [] → Eat s a.dropLast v p.dropLast := by
  induction h with
  | nil => exact fun _ => .nil
  | @b c s q p v h ih =>
    intro hp
    have hq : q ≠ [] := by
      rintro rfl
      have := h.suf
      simp at this
      exact hp this
    rw [List.dropLast_cons_of_ne_nil hq]
    exact .b (ih hp)
  | @P n s a p v hs h ih =>
    intro hp
    have hlt : sl a < a.length := by
      have := h.suf.length_le
      rw [List.length_drop] at this
      have := List.length_pos_iff.2 hp
      omega
    have e1 := sl_dropLast hlt
    have e2 : a.take (sl a) = a.dropLast.take (sl a.dropLast) := by
      rw [e1, List.dropLast_eq_take, List.take_take]; congr 1; omega
    rw [e2]
    refine .P (by rw [e1]; exact hs) ?_
    rw [e1, dropLast_drop hlt]
    exact ih hp
theorem Eat.snoc {s : List Tok} {a p : List UInt8} {v : Vs} (t : List UInt8) (h : Eat s a v p) : p ≠ [] → Eat s (a ++ t) v (p ++ t) := by
  induction h with
  | nil => exact fun _ => .nil
  | b _ ih => exact fun hp => .b (ih hp)
  | @P n s a p v hs h ih =>
    intro hp
    have hlt : sl a < a.length := by
      have := h.suf.length_le
      rw [List.length_drop] at this
      have := List.length_pos_iff.2 hp
      omega
    have e1 : sl (a ++ t) = sl a := sl_append hlt
    have e2 : a.take (sl a) = (a ++ t).take (sl (a ++ t)) := by
      rw [e1, List.take_append_of_le_length (by omega)]
    rw [e2]
    refine .P (by rw [e1]; exact hs) ?_
    rw [e1, List.drop_append_of_le_length (by omega)]
    exact ih hp
/-- how many wildcards, how many slashes -/
def nW : List Tok → Nat
  | [] => 0
  | .b _ :: s => nW s
  | .P _ :: s => nW s + 1
  | .A _ :: s => nW s + 1
def nS : List Tok → Nat
  | [] => 0
  | .b c :: s => nS s + (if c = 47 then 1 else 0)
  | .P _ :: s => nS s
  | .A _ :: s => nS s
theorem nW_app : ∀ (s r : List Tok), nW (s ++ r) = nW s + nW r
  | [], r => by simp [nW]
  | .b c :: s, r => by simp [nW, nW_app s r]
  | .P n :: s, r => by simp [nW, nW_app s r]; omega
  | .A n :: s, r => by simp [nW, nW_app s r]; omega
theorem nS_app : ∀ (s r : List Tok), nS (s ++ r) = nS s + nS r
  | [], r => by simp [nS]
  | .b c :: s, r => by simp [nS, nS_app s r]; omega
  | .P n :: s, r => by simp [nS, nS_app s r]
  | .A n :: s, r => by simp [nS, nS_app s r]
theorem Eat.len {s : List Tok} {a p : List UInt8} {v : Vs} (h : Eat s a v p) : v.length = nW s := by
  induction h with
  | nil => rfl
  | b _ ih => exact ih
  | P _ _ ih => simp [nW, ih]
/-- ahead of a parameter stands a slash -/
theorem Ok_before : ∀ {sl : Bool} {x : List Tok} {n : List UInt8} {s : List Tok}, Ok sl (x ++ .P n :: s) → (x = [] ∧ sl = true) ∨ ∃ y, x = y ++ [.b 47]
  | _, [], _, _, h => .inl ⟨rfl, h.1⟩
  | _, .b c :: x, n, s, h => by
    rcases Ok_before (x := x) h.2 with ⟨rfl, h2⟩ | ⟨y, rfl⟩
    · right
      have : c = 47 := by simpa using h2
      exact ⟨[], by rw [this]; rfl⟩
    · exact .inr ⟨.b c :: y, rfl⟩
  | _, .P m :: x, n, s, h => by
    rcases Ok_before (x := x) h.2.2.2 with ⟨rfl, h2⟩ | ⟨y, rfl⟩
    · cases h2
    · exact .inr ⟨.P m :: y, rfl⟩
  | _, .A m :: x, n, s, h => by
    have := h.2.2
    cases x <;> cases this
theorem Eat.behind : ∀ {y : List Tok} {a p : List UInt8} {v : Vs}, Eat (y ++ [.b 47]) a v p → (47 :: p) <:+ a
  | [], a, p, v, h => by
    cases h with
    | b h => cases h; exact List.suffix_refl _
  | .b c :: y, a, p, v, h => by
    cases h with
    | b h => exact h.behind.trans (List.suffix_cons _ _)
  | .P n :: y, a, p, v, h => by
    cases h with
    | P hs h => exact h.behind.trans (List.drop_suffix _ _)
  | .A n :: y, a, p, v, h => by cases h
end Gt

/- The machine's steps at a node that is known: the pops and the ends. No program in sight. -/
namespace Gt
open Gs Tr
section
variable {u : List UInt8 → List UInt8} {cP cS f : Nat} {P idx full : List UInt8} {wild : Bool} {nt pr : Nat} {h : Option Nat} {kids : List T0} {p : List UInt8} {ps : List (List UInt8 × List UInt8)} {sk : List Sk}
end
end Gt

/- What is known of the machine's states. No program in sight. -/
namespace Gt
open Gs Tr
/-- what is known of a table and a path -/
structure Tb (F0 : F) (p0 : List UInt8) (cP cS : Nat) : Prop where
  ok : ∀ s v, F0 s = some v → Ok false s
  w : ∀ s v, F0 s = some v → nW s ≤ cP
  sl : ∀ s v, F0 s = some v → nS s ≤ cS
  nd : ∀ t, ¬ (47 :: 47 :: t) <:+ p0
/-- at a node -/
structure IA (F0 : F) (p0 : List UInt8) (n : T0) (f : F) (pre : List Tok) (p : List UInt8) (vs : Vs) : Prop where
  rep : Rep true n f
  nt : n.nt ≠ 2
  sub : ∀ s v, f s = some v → F0 (pre ++ s) = some v
  ne : ∃ s v, f s = some v
  hd : ∃ c q, p = c :: q ∧ ∀ s v, f s = some v → ∃ r, s = .b c :: r
  eat : Eat pre p0 vs p
/-- ahead of a parameter -/
structure IB (F0 : F) (p0 : List UInt8) (pre : List Tok) (c : UInt8) (q : List UInt8) (vs : Vs) (wn : List UInt8) (wk : T0) (fw : F) : Prop where
  rep : Rep true wk fw
  nt : wk.nt = 2
  path : wk.path = 58 :: wn
  wd : word wn
  sub : ∀ s v, fw s = some v → F0 (pre ++ .P wn :: s) = some v
  ne : ∃ s v, fw s = some v
  eat : Eat pre p0 vs (c :: q)
  c47 : c ≠ 47
/-- what is kept for later, and what it stands for -/
structure Gh where
  e : Sk
  pre : List Tok
  c : UInt8
  q : List UInt8
  vs : Vs
  wn : List UInt8
  wk : T0
  fw : F
structure IG (F0 : F) (p0 : List UInt8) (g : Gh) : Prop where
  ib : IB F0 p0 g.pre g.c g.q g.vs g.wn g.wk g.fw
  e : ∃ P nt pr h full kids, g.e = ⟨P ++ g.c :: g.q, .node () P [] true nt pr h full kids, g.vs.length⟩ ∧ kids[kids.length - 1]? = some g.wk
/-- the values as they are told -/
def U (u : List UInt8 → List UInt8) (vs : Vs) : Vs := vs.map fun x => (x.1, u x.2)
/-- all that is kept -/
def SI (F0 : F) (p0 : List UInt8) : List UInt8 → Vs → List Gh → Prop
  | _, _, [] => True
  | p, vs, g :: gs => IG F0 p0 g ∧ p <:+ g.e.path ∧ vs.take g.vs.length = g.vs ∧ gs.length ≤ nS g.pre ∧ SI F0 p0 g.e.path g.vs gs
theorem SI.suf {F0 : F} {p0 p p' : List UInt8} {vs : Vs} : ∀ {gs : List Gh}, SI F0 p0 p vs gs → p' <:+ p → SI F0 p0 p' vs gs
  | [], _, _ => trivial
  | _ :: _, ⟨h1, h2, h3, h4, h5⟩, h => ⟨h1, h.trans h2, h3, h4, h5⟩
theorem SI.more {F0 : F} {p0 p : List UInt8} {vs : Vs} (ws : Vs) : ∀ {gs : List Gh}, SI F0 p0 p vs gs → SI F0 p0 p (vs ++ ws) gs
  | [], _ => trivial
  | g :: _, ⟨h1, h2, h3, h4, h5⟩ => ⟨h1, h2, by
      have hl : g.vs.length ≤ vs.length := by
        have := congrArg List.length h3
        rw [List.length_take] at this; omega
      rw [List.take_append_of_le_length hl]; exact h3, h4, h5⟩
/-- what is found is a route of the path -/
def Snd (F0 : F) (p0 : List UInt8) (u : List UInt8 → List UInt8) (r : Res) : Prop := (∃ s k v, r.h = some k ∧ F0 s = some (k, r.full) ∧ MT s p0 = some v ∧ r.ps = U u v) ∨ (r.h = none ∧ r.full = [])
/-- the route that is to be found -/
structure Bst (F0 : F) (p0 : List UInt8) (s : List Tok) (k : Nat) (full : List UInt8) (v : Vs) : Prop where
  f : F0 s = some (k, full)
  m : MT s p0 = some v
  best : ∀ x w, F0 x = some w → MT x p0 ≠ none → ¬ BT x s
  o1 : ∀ x w, F0 x = some w → BT x s → MT x (other p0) = none
  o2 : ∀ x w, F0 x = some w → BT x s → ¬ PT (sameT x s) x 0 p0
  o3 : (other p0).length < p0.length → ∀ x w, F0 x = some w → BT x s → ¬ BGT x (other p0)
abbrev CT := List Tok → Nat → List UInt8 → Prop
def CB (pre : List Tok) (wn : List UInt8) (fw : F) : CT := fun s k full => ∃ s3, s = pre ++ .P wn :: s3 ∧ fw s3 = some (k, full)
def Skip (pre : List Tok) (f : F) (gs : List Gh) : CT := fun s k full => ∃ g gs', gs = g :: gs' ∧ CB g.pre g.wn g.fw s k full ∧ pre ≠ [] ∧ ∀ y w, f y = some w → BT (pre ++ y) s ∧ sameT (pre ++ y) s ≤ pre.length
structure Post (F0 : F) (p0 : List UInt8) (cP : Nat) (u : List UInt8 → List UInt8) (C : CT) (r : Res) : Prop where
  len : r.ps.length ≤ cP
  snd : Snd F0 p0 u r
  fnd : ∀ s k full v, Bst F0 p0 s k full v → C s k full → r.h = some k ∧ r.full = full ∧ r.ps = U u v
theorem Post.imp {F0 : F} {p0 : List UInt8} {cP : Nat} {u : List UInt8 → List UInt8} {C C' : CT} {r : Res} (h : Post F0 p0 cP u C r) (hc : ∀ s k full v, Bst F0 p0 s k full v → C' s k full → C s k full) : Post F0 p0 cP u C' r :=
  ⟨h.len, h.snd, fun s k full v hb hC => h.fnd s k full v hb (hc s k full v hb hC)⟩
/-- nothing is found, and there is nothing to find -/
theorem Post.no {F0 : F} {p0 : List UInt8} {cP : Nat} {u : List UInt8 → List UInt8} {C : CT} {ps : Vs} {ts : Bool} (hl : ps.length ≤ cP) (h : ∀ s k full v, Bst F0 p0 s k full v → ¬ C s k full) : Post F0 p0 cP u C ⟨none, ps, ts, []⟩ :=
  ⟨hl, .inr ⟨rfl, rfl⟩, fun s k full v hb hC => absurd hC (h s k full v hb)⟩
theorem Eat.lt {s : List Tok} {a p : List UInt8} {v : Vs} (h : Eat s a v p) (hs : s ≠ []) : p.length < a.length := by
  cases h with
  | nil => exact absurd rfl hs
  | b h => have := h.suf.length_le; simp only [List.length_cons]; omega
  | P h0 h =>
    have := h.suf.length_le
    rw [List.length_drop] at this
    have := sl_le a
    omega
/-- what goes ahead, and begins with the path without its slash: it is left open -/
theorem Bst.beg {F0 : F} {p0 : List UInt8} {s : List Tok} {k : Nat} {full : List UInt8} {v vs : Vs} (hb : Bst F0 p0 s k full v) {y r : List Tok} {w} (hy : y ≠ []) (he : Eat y p0 vs [47]) (hx : F0 (y ++ r) = some w) (hbt : BT (y ++ r) s) : False := by
  have hlt := he.lt hy
  have hl1 : 1 < p0.length := hlt
  have hlast : p0[p0.length - 1]? = some 47 := by
    obtain ⟨t, rfl⟩ := he.suf
    simp
  have hoth : other p0 = p0.dropLast := by
    unfold other
    rw [if_pos ⟨hl1, hlast⟩, List.dropLast_eq_take]
  refine hb.o3 (by rw [hoth, List.length_dropLast]; omega) _ _ hx hbt ?_
  rw [hoth]
  have := he.last (by simp)
  exact this.BGT (BGT_nil r)
/-- what goes ahead is no route of the path with a slash more -/
theorem Bst.more {F0 : F} {p0 : List UInt8} {s : List Tok} {k : Nat} {full : List UInt8} {v vs : Vs} (hb : Bst F0 p0 s k full v) {pre : List Tok} {p : List UInt8} {w} (hpre : pre ≠ []) (hp : p ≠ []) (he : Eat pre p0 vs p) (hx : F0 (pre ++ bs (p ++ [47])) = some w) (hbt : BT (pre ++ bs (p ++ [47])) s) : False := by
  by_cases h47 : [47] <:+ p0
  · obtain ⟨t, ht⟩ := h47
    obtain ⟨p1, rfl⟩ : ∃ p1, p = p1 ++ [47] := by
      obtain ⟨a, ha⟩ := he.suf
      rcases List.eq_nil_or_concat p with e | ⟨l, x, e⟩
      · exact absurd e hp
      · rw [List.concat_eq_append] at e
        subst e
        rw [← ha, ← List.append_assoc] at ht
        have := List.append_inj_right' ht rfl
        exact ⟨l, by rw [this]⟩
    have h2 : pre ++ bs (p1 ++ [47] ++ [47]) = (pre ++ bs p1) ++ [.b 47, .b 47] := by simp [bs]
    rw [h2] at hx hbt
    exact hb.beg (by simp [hpre]) he.appb hx hbt
  · have hoth : other p0 = p0 ++ [47] := by
      unfold other
      rw [if_neg]
      rintro ⟨_, h⟩
      apply h47
      obtain ⟨h1, h2⟩ := List.getElem?_eq_some_iff.1 h
      refine ⟨p0.dropLast, ?_⟩
      have hne : p0 ≠ [] := by rintro rfl; simp at h1
      have := List.dropLast_concat_getLast hne
      rw [List.getLast_eq_getElem, h2] at this
      exact this
    have h1 := hb.o1 _ _ hx hbt
    have h3 := (he.snoc [47] hp).MT (r := bs (p ++ [47]))
    rw [← hoth, h1] at h3
    have h4 := MT_bs (p ++ [47]) [] (p ++ [47])
    rw [List.append_nil] at h4
    rw [h4, if_pos (by simp)] at h3
    simp [MT] at h3
end Gt

/- The machine ahead of a parameter. No program in sight. -/
namespace Gt
open Gs Tr
section
variable {F0 : F} {p0 : List UInt8} {u : List UInt8 → List UInt8} {cP cS : Nat}
theorem IB.room {pre c q vs wn wk fw} (tb : Tb F0 p0 cP cS) (h : IB F0 p0 pre c q vs wn wk fw) : vs.length + 1 ≤ cP := by
  obtain ⟨s, v, hs⟩ := h.ne
  have := tb.w _ _ (h.sub s v hs)
  rw [nW_app, ← h.eat.len] at this
  simp only [nW] at this
  omega
end
end Gt

/- The machine at a node; the whole run. No program in sight. -/
namespace Gt
open Gs Tr
section
variable {F0 : F} {p0 : List UInt8} {u : List UInt8 → List UInt8} {cP cS : Nat}
theorem IA.room {n f pre p vs} (tb : Tb F0 p0 cP cS) (h : IA F0 p0 n f pre p vs) : vs.length ≤ cP ∧ nS pre ≤ cS := by
  obtain ⟨s, v, hs⟩ := h.ne
  have h1 := tb.w _ _ (h.sub s v hs)
  have h2 := tb.sl _ _ (h.sub s v hs)
  rw [nW_app, ← h.eat.len] at h1
  rw [nS_app] at h2
  omega
theorem Skip.one {pre : List Tok} {f : F} {gs : List Gh} {s k full} (h : Skip pre f gs s k full) : pre ≠ [] ∧ ∀ y w, f y = some w → BT (pre ++ y) s ∧ sameT (pre ++ y) s ≤ pre.length := by
  obtain ⟨_, _, _, _, h1, h2⟩ := h
  exact ⟨h1, h2⟩
end
end Gt

/- The machine at a node of text; the whole run. No program in sight. -/
namespace Gt
open Gs Tr
section
variable {F0 : F} {p0 : List UInt8} {u : List UInt8 → List UInt8} {cP cS : Nat}
variable {path idx full : List UInt8} {wild : Bool} {nt pr : Nat} {h : Option Nat} {kids : List T0} {f : F} {pre : List Tok} {p : List UInt8} {vs : Vs} {gs : List Gh}
end
end Gt

/- What a table's tree finds. No program in sight. -/
namespace Gt
open Gs Tr
theorem fAdd_not : ∀ {rs : List (List Tok)} {f : F} {k : Nat} {s : List Tok}, s ∉ rs → fAdd f k rs s = f s
  | [], _, _, _, _ => rfl
  | r :: rs, f, k, s, h => by
    have h1 : s ≠ r := fun e => h (e ▸ .head _)
    show fAdd (upd f r (k + 1, txt r)) (k + 1) rs s = f s
    rw [fAdd_not (fun hm => h (.tail _ hm)), upd_ne _ h1]
theorem fAdd_at : ∀ {rs : List (List Tok)} {f : F} {k i : Nat} {s : List Tok}, rs.Nodup → rs[i]? = some s → fAdd f k rs s = some (k + i + 1, txt s)
  | [], _, _, _, _, _, h => by simp at h
  | r :: rs, f, k, 0, s, hn, h => by
    have e : r = s := by simpa using h
    subst e
    show fAdd (upd f r (k + 1, txt r)) (k + 1) rs r = _
    rw [fAdd_not (List.nodup_cons.1 hn).1, upd_self]
  | r :: rs, f, k, i + 1, s, hn, h => by
    show fAdd (upd f r (k + 1, txt r)) (k + 1) rs s = _
    rw [fAdd_at (List.nodup_cons.1 hn).2 (i := i) (by simpa using h)]
    congr 2; omega
theorem pw_nodup {rs : List (List Tok)} (h : rs.Pairwise (fun a b => apart a b = true)) : rs.Nodup :=
  h.imp fun {a b} hab e => by
    subst e
    rw [apart_self] at hab; cases hab
theorem fAdd_of {rs : List (List Tok)} (h : rs.Nodup) {s : List Tok} {v : Nat × List UInt8} (hs : fAdd (fun _ => none) 0 rs s = some v) : ∃ i, rs[i]? = some s ∧ v = (i + 1, txt s) := by
  rcases fAdd_some hs with hm | hm
  · obtain ⟨i, hi⟩ := List.mem_iff_getElem?.1 hm
    rw [fAdd_at h hi] at hs
    cases hs
    exact ⟨i, hi, by simp⟩
  · cases hm
/-! ### which one is the best -/
theorem BT_tr : ∀ {a b c : List Tok}, BT a b → BT b c → BT a c
  | [], _, _, h, _ => by cases h
  | _ :: _, [], _, h, _ => by cases h
  | _ :: _, _ :: _, [], _, h => by cases h
  | x :: a, y :: b, z :: c, h, h2 => by
    rcases h with ⟨rfl, h⟩ | ⟨hn, h⟩
    · rcases h2 with ⟨rfl, h2⟩ | ⟨hn2, h2⟩
      · exact .inl ⟨rfl, BT_tr h h2⟩
      · exact .inr ⟨hn2, h2⟩
    · rcases h2 with ⟨rfl, h2⟩ | ⟨hn2, h2⟩
      · exact .inr ⟨hn, h⟩
      · exact .inr ⟨by rintro rfl; omega, by omega⟩
theorem BT_tot : ∀ {a b : List Tok} {p : List UInt8} {sa sb : Bool}, Ok sa a → Ok sb b → apart a b = true → MT a p ≠ none → MT b p ≠ none → BT a b ∨ BT b a
  | [], [], _, _, _, _, _, h, _, _ => by cases h
  | [], y :: r, p, _, _, _, _, h, ha, hb => by
    exfalso
    have hp : p = [] := Decidable.byContradiction fun hp => ha (if_neg hp)
    subst hp
    cases y with
    | b c => exact hb rfl
    | P n => exact hb rfl
    | A n => cases h
  | x :: s, [], p, _, _, _, _, h, ha, hb => by
    exfalso
    have hp : p = [] := Decidable.byContradiction fun hp => hb (if_neg hp)
    subst hp
    cases x with
    | b c => exact ha rfl
    | P n => exact ha rfl
    | A n => cases h
  | x :: s, y :: r, p, _, _, oa, ob, h, ha, hb => by
    by_cases e : x = y
    · subst e
      rw [apart_cons] at h
      cases x with
      | b c =>
        have h1 : (if p.head? = some c then MT s (p.drop 1) else none) ≠ none := ha
        have h2 : (if p.head? = some c then MT r (p.drop 1) else none) ≠ none := hb
        by_cases hc : p.head? = some c
        · rw [if_pos hc] at h1 h2
          exact (BT_tot oa.2 ob.2 h h1 h2).imp (fun h => .inl ⟨rfl, h⟩) (fun h => .inl ⟨rfl, h⟩)
        · rw [if_neg hc] at h1; exact absurd rfl h1
      | P n =>
        have h1 : (if sl p = 0 then none else (MT s (p.drop (sl p))).map ((n, p.take (sl p)) :: ·)) ≠ none := ha
        have h2 : (if sl p = 0 then none else (MT r (p.drop (sl p))).map ((n, p.take (sl p)) :: ·)) ≠ none := hb
        by_cases hc : sl p = 0
        · rw [if_pos hc] at h1; exact absurd rfl h1
        · rw [if_neg hc] at h1 h2
          exact (BT_tot oa.2.2.2 ob.2.2.2 h (fun e => h1 (by rw [e]; rfl)) (fun e => h2 (by rw [e]; rfl))).imp (fun h => .inl ⟨rfl, h⟩) (fun h => .inl ⟨rfl, h⟩)
      | A n =>
        exfalso
        have e1 : s = [] := oa.2.2
        have e2 : r = [] := ob.2.2
        rw [e1, e2] at h; cases h
    · rw [apart_ne e] at h
      cases x with
      | A n => cases h
      | b c =>
        cases y with
        | A n => cases h
        | P n => exact .inl (.inr ⟨e, by simp [rk]⟩)
        | b d =>
          exfalso
          have h1 : (if p.head? = some c then MT s (p.drop 1) else none) ≠ none := ha
          have h2 : (if p.head? = some d then MT r (p.drop 1) else none) ≠ none := hb
          by_cases hc : p.head? = some c
          · by_cases hd : p.head? = some d
            · rw [hc] at hd
              cases hd
              exact e rfl
            · rw [if_neg hd] at h2; exact h2 rfl
          · rw [if_neg hc] at h1; exact h1 rfl
      | P n =>
        cases y with
        | A n => cases h
        | P m => cases h
        | b d => exact .inr (.inr ⟨fun e2 => e e2.symm, by simp [rk]⟩)
end Gt

/- What a path finds in a table of clean routes. No program in sight. -/
namespace Gt
open Gs Tr
theorem Dbl_suf {p : List UInt8} (h : ¬ Dbl p) : ∀ t, ¬ (47 :: 47 :: t) <:+ p := fun t ⟨a, ha⟩ => by
  refine h ⟨a.length, ?_, ?_⟩ <;> rw [← ha] <;> simp
/-- the best one of those that match -/
theorem bestN_spec {l : List (List Prt)} (ht : TableN l) (path : List UInt8) : ∀ {n : Nat}, n ≤ l.length →
    (bestN l path n = none → ∀ i a, i < n → l[i]? = some a → matchN a path = none) ∧
    ∀ m, bestN l path n = some m → ∃ b, m < n ∧ l[m]? = some b ∧ matchN b path ≠ none ∧ ∀ i a, i < n → i ≠ m → l[i]? = some a → matchN a path ≠ none → BetterN (tks b) (tks a)
  | 0, _ => ⟨fun _ _ _ h => absurd h (Nat.not_lt_zero _), fun m h => by cases h⟩
  | n + 1, hn => by
    obtain ⟨ih1, ih2⟩ := bestN_spec ht path (n := n) (by omega)
    have ha := List.getElem?_eq_getElem (show n < l.length by omega)
    generalize l[n] = a at ha
    have hca := ht.clean a (List.mem_of_getElem? ha)
    have e : bestN l path (n + 1) = match matchN a path, bestN l path n with
      | none, b => b
      | some _, none => some n
      | some _, some m => match l[m]? with
        | none => some m
        | some b => if dec (BetterN (tks a) (tks b)) then some n else some m := by
      show (match l[n]? with
        | none => bestN l path n
        | some a => match matchN a path, bestN l path n with
          | none, b => b
          | some _, none => some n
          | some _, some m => match l[m]? with
            | none => some m
            | some b => if dec (BetterN (tks a) (tks b)) then some n else some m) = _
      rw [ha]
    rw [e]
    cases hma : matchN a path with
    | none =>
      constructor
      · intro h i x hi hx
        rcases Nat.lt_succ_iff_lt_or_eq.1 hi with hi | rfl
        · exact ih1 h i x hi hx
        · rw [ha] at hx; cases hx; exact hma
      · intro m h
        obtain ⟨b, h1, h2, h3, h4⟩ := ih2 m h
        refine ⟨b, by omega, h2, h3, fun i x hi hne hx hm => ?_⟩
        rcases Nat.lt_succ_iff_lt_or_eq.1 hi with hi | rfl
        · exact h4 i x hi hne hx hm
        · rw [ha] at hx; cases hx; exact absurd hma hm
    | some v =>
      cases hb : bestN l path n with
      | none =>
        constructor
        · intro h; cases h
        · intro m h
          cases h
          refine ⟨a, Nat.lt_succ_self _, ha, by rw [hma]; simp, fun i x hi hne hx hm => ?_⟩
          exact absurd (ih1 hb i x (by omega) hx) hm
      | some m =>
        obtain ⟨b, h1, h2, h3, h4⟩ := ih2 m hb
        have hcb := ht.clean b (List.mem_of_getElem? h2)
        simp only [h2]
        constructor
        · intro h; split at h <;> cases h
        · intro m' h
          by_cases hd : dec (BetterN (tks a) (tks b)) = true
          · rw [if_pos hd] at h
            cases h
            have hab := (hca.better hcb).1 (dec_true.1 hd)
            refine ⟨a, Nat.lt_succ_self _, ha, by rw [hma]; simp, fun i x hi hne hx hm => ?_⟩
            have hcx := ht.clean x (List.mem_of_getElem? hx)
            by_cases him : i = m
            · subst him
              rw [h2] at hx; cases hx
              exact dec_true.1 hd
            · exact (hca.better hcx).2 (BT_tr hab ((hcb.better hcx).1 (h4 i x (by omega) him hx hm)))
          · rw [if_neg hd] at h
            cases h
            refine ⟨b, by omega, h2, h3, fun i x hi hne hx hm => ?_⟩
            rcases Nat.lt_succ_iff_lt_or_eq.1 hi with hi | rfl
            · exact h4 i x hi hne hx hm
            · rw [ha] at hx
              cases hx
              have hap : apart (tokT a) (tokT b) = true := (hca.apart hcb).1 ((ht i a ha).2 b (List.mem_take_iff_getElem.2 ⟨m, by
                have := (List.getElem?_eq_some_iff.1 h2).1; omega, (List.getElem?_eq_some_iff.1 h2).2⟩))
              rw [hca.match] at hm
              rw [hcb.match] at h3
              rcases BT_tot hca.good.1 hcb.good.1 hap hm h3 with hh | hh
              · exact absurd (dec_true.2 ((hca.better hcb).2 hh)) hd
              · exact (hcb.better hca).2 hh
theorem map_at {l : List (List Prt)} {i : Nat} {s : List Tok} (h : (l.map tokT)[i]? = some s) : ∃ a, l[i]? = some a ∧ s = tokT a := by
  rw [List.getElem?_map] at h
  obtain ⟨a, h1, h2⟩ := Option.map_eq_some_iff.1 h
  exact ⟨a, h1, h2.symm⟩
end Gt

/- What is told, whatever the letters are, is the path but for its letters, and one of a route's. No program in sight. -/
namespace Gt
open Gs Tr
/-- texts that are equal but for their letters -/
def Ef (a b : List UInt8) : Bool := decide (a.map lo = b.map lo)
theorem lo_nat (c : UInt8) : (lo c).toNat = if 65 ≤ c.toNat ∧ c.toNat ≤ 90 then c.toNat + 32 else c.toNat := by
  unfold lo
  split
  · rw [UInt8.toNat_add]; have : (32 : UInt8).toNat = 32 := rfl
    rw [this]; omega
  · rfl
theorem up_nat (c : UInt8) : (up c).toNat = if 97 ≤ c.toNat ∧ c.toNat ≤ 122 then c.toNat - 32 else c.toNat := by
  unfold up
  split
  · rename_i h
    rw [UInt8.toNat_sub_of_le _ _ (by rw [UInt8.le_iff_toNat_le]; have : (32 : UInt8).toNat = 32 := rfl; omega)]; rfl
  · rfl
theorem lo_lo (c : UInt8) : lo (lo c) = lo c := by
  refine UInt8.toNat_inj.1 ?_
  rw [lo_nat, lo_nat]
  (repeat' split) <;> omega
theorem lo_up (c : UInt8) : lo (up c) = lo c := by
  refine UInt8.toNat_inj.1 ?_
  rw [lo_nat, lo_nat, up_nat]
  (repeat' split) <;> omega
theorem lo_47 {c : UInt8} (h : lo c = 47) : c = 47 := by
  have h1 := lo_nat c
  rw [h] at h1
  have h2 : (47 : UInt8).toNat = 47 := rfl
  refine UInt8.toNat_inj.1 ?_
  rw [h2] at h1 ⊢
  split at h1 <;> omega
/-- where a search enters a node -/
structure CI (f : F) (path : List UInt8) : Prop where
  ok : ∀ s v, f s = some v → ∃ sl, Ok sl s
  ne : ∃ s v, f s = some v
  hd : ∃ c d q, path = d :: q ∧ lo d = lo c ∧ ∀ s v, f s = some v → ∃ r, s = .b c :: r
  nd : ∀ t, ¬ (47 :: 47 :: t) <:+ path
/-- what is told from there on -/
def CP (f : F) (path told : List UInt8) : Prop := told.map lo = path.map lo ∧ ∃ s v, f s = some v ∧ MT s told ≠ none
theorem Ok_drop : ∀ {sl : Bool} {x : List Tok} {s : List Tok}, Ok sl (x ++ s) → ∃ sl', Ok sl' s
  | sl, [], _, h => ⟨sl, h⟩
  | _, .b _ :: _, _, h => Ok_drop h.2
  | _, .P _ :: _, _, h => Ok_drop h.2.2.2
  | _, .A _ :: x, s, h => by
    have h1 : x ++ s = [] := h.2.2
    rw [(List.append_eq_nil_iff.1 h1).2]
    exact ⟨true, trivial⟩
theorem sl_app {v t : List UInt8} (hv : ∀ c ∈ v, c ≠ 47) (ht : t = [] ∨ ∃ q, t = 47 :: q) : sl (v ++ t) = v.length := by
  unfold sl
  rw [List.takeWhile_append_of_pos (fun c hc => by simpa using hv c hc)]
  rcases ht with rfl | ⟨q, rfl⟩ <;> simp
theorem tw_no (p : List UInt8) : ∀ c ∈ p.takeWhile (· ≠ 47), c ≠ 47 := fun c hc => by
  have := List.all_eq_true.1 (List.all_takeWhile (p := (· ≠ (47 : UInt8))) (l := p)) c hc
  simpa using this
theorem tw_drop (p : List UInt8) : p.drop (p.takeWhile (· ≠ 47)).length = [] ∨ ∃ q, p.drop (p.takeWhile (· ≠ 47)).length = 47 :: q := by
  cases h : p.drop (p.takeWhile (· ≠ 47)).length with
  | nil => exact .inl rfl
  | cons a q =>
    have : p[sl p]? = some a := by
      have h2 : (p.drop (sl p))[0]? = some a := by
        show (p.drop (p.takeWhile (· ≠ 47)).length)[0]? = some a
        rw [h]; rfl
      simpa [List.getElem?_drop] using h2
    rw [sl_end this]
    exact .inr ⟨q, rfl⟩
theorem tw_app (p : List UInt8) : p.takeWhile (· ≠ 47) ++ p.drop (p.takeWhile (· ≠ 47)).length = p := by
  conv => rhs; rw [← List.takeWhile_append_dropWhile (p := (· ≠ 47)) (l := p)]
  congr 1
  have := congrArg (List.drop (p.takeWhile (· ≠ 47)).length) (List.takeWhile_append_dropWhile (p := (· ≠ 47)) (l := p))
  rw [List.drop_left] at this
  exact this.symm
theorem MT_pre {t : List UInt8} {s : List Tok} {p : List UInt8} : MT (bs t ++ s) (t ++ p) = MT s p := by
  rw [MT_bs, if_pos (by simp), List.drop_left]
theorem MT_val {n : List UInt8} {s : List Tok} {v t : List UInt8} (hv : ∀ c ∈ v, c ≠ 47) (h0 : v ≠ []) (ht : t = [] ∨ ∃ q, t = 47 :: q) (h : MT s t ≠ none) : MT (.P n :: s) (v ++ t) ≠ none := by
  unfold MT
  rw [sl_app hv ht, if_neg (by simpa using h0), List.drop_left]
  cases hm : MT s t with
  | none => exact absurd hm h
  | some x => simp
theorem map_hd47 {t q : List UInt8} (h : t.map lo = (47 :: q).map lo) : ∃ r, t = 47 :: r := by
  cases t with
  | nil => cases h
  | cons a r =>
    have h1 : lo a = lo 47 := (List.cons.inj h).1
    rw [lo_47 h1]
    exact ⟨r, rfl⟩
theorem case_sound : ∀ (g : Nat) (n : T0) (f : F) (b : Bool) (path : List UInt8) (rb : UInt8) (cur out : List UInt8), caseC Ef false g n path rb cur = some (some out) → Rep b n f → n.nt ≠ 2 → CI f path → ∃ told, out = cur ++ told ∧ CP f path told
  | 0, _, _, _, _, _, _, _, h, _, _, _ => by cases h
  | g + 1, n, f, b, path, rb, cur, out, h, hrep, hnt, ci => by
    obtain ⟨c, d, q0, hpath, hcd, hhd⟩ := ci.hd
    cases hrep with
    | pa => exact absurd rfl hnt
    | pk => exact absurd rfl hnt
    | @ca _ pr pr2 num full full2 wn hw =>
      subst hpath
      have h47 : c = 47 := by
        obtain ⟨r, e⟩ := hhd _ _ (one_self _ _)
        simp at e
        exact e.1.symm
      subst h47
      have hd : d = 47 := lo_47 hcd
      subst hd
      unfold caseC caseS staC at h
      simp [n_path, n_idx, n_wild, n_kids, n_nt] at h
      refine ⟨47 :: q0, h.symm, rfl, _, _, one_self _ _, ?_⟩
      simp [MT]
    | @st _ P idx wild nt pr hh0 full kids _ wn wk hp hnt2 hpre hh hnd hpl hlen hk hkn hne hno hw hwr hnw hA hmin =>
      have h : caseS Ef false (caseC Ef false g) P idx wild hh0 kids path rb cur = some (some out) := h
      unfold caseS at h
      by_cases hm : P.length ≤ path.length ∧ (P.length = 0 ∨ Ef ((path.take P.length).drop 1) (P.drop 1) = true)
      · rw [if_pos hm] at h
        obtain ⟨p, hpd⟩ : ∃ p, p = path.drop P.length := ⟨_, rfl⟩
        have happ : path.take P.length ++ p = path := by rw [hpd]; exact List.take_append_drop _ _
        -- the node's text is the path's but for its letters
        have hmap : (path.take P.length).map lo = P.map lo := by
          rcases hm.2 with h0 | hE
          · rw [List.length_eq_zero_iff.1 h0]; rfl
          · have hE2 : ((path.take P.length).drop 1).map lo = (P.drop 1).map lo := by simpa [Ef] using hE
            cases P with
            | nil => rfl
            | cons c' P' =>
              obtain ⟨s, v, hs⟩ := ci.ne
              obtain ⟨r, rfl⟩ := hhd s v hs
              obtain ⟨r2, e⟩ := hpre _ _ hs
              have : c = c' := by simp [bs] at e; exact e.1
              subst this hpath
              simp at hE2 ⊢
              exact ⟨hcd, hE2⟩
        have fin : ∀ {s : List Tok} {v : Nat × List UInt8} {t : List UInt8}, f (bs P ++ s) = some v → t.map lo = p.map lo → MT s t ≠ none → CP f path (P ++ t) := fun {s v t} h1 h2 h3 => by
          refine ⟨?_, _, _, h1, by rw [MT_pre]; exact h3⟩
          rw [List.map_append, ← hmap, h2, ← List.map_append, happ]
        have hndp : ∀ t, ¬ (47 :: 47 :: t) <:+ p := fun t ht => ci.nd t (ht.trans (by rw [hpd]; exact List.drop_suffix _ _))
        simp only [← hpd] at h
        by_cases hp0 : p = []
        · rw [if_pos hp0] at h
          cases hho : hh0 with
          | none => rw [hho] at h; simp at h
          | some k =>
            rw [hho] at h hh
            simp at h
            refine ⟨P, h.symm, ?_⟩
            have := fin (s := []) (t := []) (by rw [List.append_nil]; exact hh) (by rw [hp0]) (by simp [MT])
            rwa [List.append_nil] at this
        · rw [if_neg hp0] at h
          obtain ⟨d1, q1, hp1⟩ := List.exists_cons_of_ne_nil hp0
          -- a kid by index
          have sub : ∀ (x : UInt8) (i : Nat) (k : T0), idxOf x idx = some i → kids[i]? = some k → (P = [] ∨ lo d1 = lo x) → caseC Ef false g k p x (cur ++ P) = some (some out) → ∃ told, out = cur ++ told ∧ CP f path told := fun x i k hi hki hx hc => by
            have him := idxOf_mem hi
            have hlt := (List.getElem?_eq_some_iff.1 him).1
            have hxm : x ∈ idx := List.mem_of_getElem? him
            obtain ⟨s1, v1, hs1⟩ := hne x hxm
            obtain ⟨told, h1, h2, s, v, h3, h4⟩ := case_sound g k (at_ f P x) true p x (cur ++ P) out hc (hk i x k him hki) (by rcases hkn i k hlt hki with e | e <;> rw [e] <;> decide)
              { ok := fun s v hs => by
                  unfold at_ at hs
                  split at hs
                  · obtain ⟨sl, ho⟩ := ci.ok _ _ hs
                    exact Ok_drop ho
                  · cases hs
                ne := ⟨.b x :: s1, v1, (if_pos rfl).trans hs1⟩
                hd := ⟨x, d1, q1, hp1, by
                  rcases hx with hx | hx
                  · subst hx
                    obtain ⟨r, e⟩ := hhd _ _ hs1
                    simp [bs] at e
                    rw [e.1, ← hcd]
                    have : p = path := by rw [hpd]; rfl
                    rw [this, hpath] at hp1
                    cases hp1
                    rfl
                  · exact hx, fun s v hs => by
                  unfold at_ at hs
                  split at hs
                  · rename_i e
                    cases s with
                    | nil => cases e
                    | cons a r => simp at e; rw [e]; exact ⟨r, rfl⟩
                  · cases hs⟩
                nd := hndp }
            unfold at_ at h3
            split at h3
            · exact ⟨P ++ told, by rw [h1, List.append_assoc], fin h3 h2 h4⟩
            · cases h3
          have sub2 : ∀ x : UInt8, (P = [] ∨ lo d1 = lo x) → subC (caseC Ef false g) idx kids p (cur ++ P) x = some (some out) → ∃ told, out = cur ++ told ∧ CP f path told := fun x hx hc => by
            unfold subC at hc
            cases hi : idxOf x idx with
            | none => rw [hi] at hc; simp at hc
            | some i =>
              rw [hi] at hc
              simp only at hc
              cases hki : kids[i]? with
              | none => rw [hki] at hc; simp at hc
              | some k => rw [hki] at hc; exact sub x i k hi hki hx hc
          have sub3 : ∀ x : UInt8, (P = [] ∨ lo d1 = lo x) → ∀ ms, ms = none → lastC (caseC Ef false g) idx kids p (cur ++ P) ms x = some (some out) → ∃ told, out = cur ++ told ∧ CP f path told := fun x hx ms hms hc => by
            subst hms
            exact sub2 x hx hc
          have hrk : P = [] ∨ runeK P p = d1 := by
            by_cases e : P = []
            · exact .inl e
            · right
              unfold runeK
              simp [e, hp1]
          have hrb : rbK P rb ≠ 0 → P = [] := fun e => by
            by_cases e2 : P.length = 0
            · exact List.length_eq_zero_iff.1 e2
            · exact absurd (if_neg e2) e
          generalize rbW P idx p rb = rw0 at h
          unfold staC at h
          generalize rbK P rb = rk at h hrb
          generalize runeK P p = ru at h hrk
          have hlo : P = [] ∨ lo d1 = lo (lo ru) := hrk.imp id fun e => by rw [lo_lo, e]
          have hup : P = [] ∨ lo d1 = lo (up ru) := hrk.imp id fun e => by rw [lo_up, e]
          cases wild with
          | false =>
            rw [if_pos rfl] at h
            by_cases hr0 : rk ≠ 0
            · rw [if_pos hr0] at h
              exact sub3 rk (.inl (hrb hr0)) _ (by simp) h
            · rw [if_neg hr0] at h
              split at h
              · cases h
              · rename_i o ho
                cases h
                exact sub2 _ hlo ho
              · split at h
                · exact sub3 _ hup _ (by simp) h
                · simp at h
          | true =>
            rw [if_neg (by decide)] at h
            obtain ⟨hw1, hw2, hw3, hw4, ⟨ws, wv, hws⟩, hw6⟩ := hw rfl
            split at h
            · cases h
            · rename_i o ho
              cases h
              by_cases hix : idx = []
              · rw [if_pos hix] at ho; cases ho
              · rw [if_neg hix] at ho
                by_cases hr0 : rk ≠ 0
                · rw [if_pos hr0] at ho
                  exact sub2 _ (.inl (hrb hr0)) ho
                · rw [if_neg hr0] at ho
                  split at ho
                  · cases ho
                  · rename_i o2 ho2
                    cases ho
                    exact sub2 _ hlo ho2
                  · split at ho
                    · exact sub2 _ hup ho
                    · cases ho
            · clear sub sub2
              have hlast : kids[kids.length - 1]? = some wk := by
                have : kids.length - 1 = idx.length := by rw [hlen]; simp
                rw [this]; exact hw1
              rw [hlast] at h
              simp only at h
              rw [if_pos hw3] at h
              -- a slash is ahead: the value is not empty
              have hv0 : p.takeWhile (· ≠ 47) ≠ [] := by
                intro e
                have hd47 : d1 = 47 := by
                  rw [hp1, List.takeWhile_cons] at e
                  by_cases h47 : d1 = 47
                  · exact h47
                  · rw [if_pos (by simpa using h47)] at e; cases e
                obtain ⟨sl0, hok⟩ := ci.ok _ _ hws
                rcases Ok_before hok with ⟨e2, _⟩ | ⟨y, e2⟩
                · obtain ⟨r, e3⟩ := hhd _ _ hws
                  rw [e2] at e3
                  simp at e3
                · obtain ⟨P0, rfl⟩ : ∃ P0, P = P0 ++ [47] := by
                    rcases List.eq_nil_or_concat P with e4 | ⟨P0, x, e4⟩
                    · rw [e4] at e2; simp [bs] at e2
                    · rw [List.concat_eq_append] at e4
                      rw [e4, bs_app] at e2
                      have := congrArg List.getLast? e2
                      simp [bs] at this
                      exact ⟨P0, by rw [e4, this]⟩
                  have hm2 := congrArg List.getLast? hmap
                  rw [List.getLast?_map, List.map_append] at hm2
                  simp only [List.map_cons, List.map_nil, List.getLast?_append, List.getLast?_singleton, Option.some_or] at hm2
                  obtain ⟨z, hz1, hz2⟩ := Option.map_eq_some_iff.1 hm2
                  have hz : z = 47 := lo_47 hz2
                  subst hz
                  obtain ⟨t0, ht0⟩ := List.getLast?_eq_some_iff.1 hz1
                  refine ci.nd q1 ⟨t0, ?_⟩
                  rw [← happ, ht0, hp1, hd47]
                  simp
              by_cases hlt : (p.takeWhile (· ≠ 47)).length < p.length
              · rw [if_pos hlt] at h
                have hrw := hwr rfl
                cases hks : wk.kids with
                | nil => rw [hks] at h; simp at h
                | cons c0 cr =>
                  rw [hks] at h
                  simp only at h
                  obtain ⟨q2, hq2⟩ : ∃ q2, p.drop (p.takeWhile (· ≠ 47)).length = 47 :: q2 := by
                    rcases tw_drop p with e | e
                    · rw [List.drop_eq_nil_iff] at e; omega
                    · exact e
                  generalize hgf : (fun s => f (bs P ++ .P wn :: s)) = fw at hrw
                  cases hrw with
                  | st _ _ _ hnt3 => rcases hnt3 with e | e <;> simp only [n_nt] at hw3 <;> omega
                  | ca => simp only [n_nt] at hw3; omega
                  | pa => simp [n_kids] at hks
                  | @pk _ n2 idx2 pr2 h2 full2 k2 _ hh2 hidx2 hk2 hkn2 h472 hne2 =>
                    simp only [n_kids] at hks
                    cases hks
                    subst hgf
                    obtain ⟨s2, v2, hs2, hs2f⟩ := hne2
                    have hf47 : ∀ s v, (if s = [] then none else f (bs P ++ .P wn :: s)) = some v → ∃ r, s = .b 47 :: r := fun s v hs => by
                      split at hs
                      · cases hs
                      · rename_i e
                        rcases h472 _ _ hs with e2 | e2
                        · exact absurd e2 e
                        · exact e2
                    obtain ⟨told, h1, h2, s, v, h3, h4⟩ := case_sound g c0 _ true _ _ _ out h hk2 (by rw [hkn2]; decide)
                      { ok := fun s v hs => by
                          split at hs
                          · cases hs
                          · obtain ⟨sl0, ho⟩ := ci.ok _ _ hs
                            obtain ⟨sl1, ho⟩ := Ok_drop ho
                            exact Ok_drop (x := [.P wn]) ho
                        ne := ⟨s2, v2, by rw [if_neg hs2]; exact hs2f⟩
                        hd := ⟨47, 47, q2, hq2, rfl, hf47⟩
                        nd := fun t ht => hndp t (ht.trans (List.drop_suffix _ _)) }
                    simp only at h3
                    split at h3
                    · cases h3
                    · refine ⟨P ++ (p.takeWhile (· ≠ 47) ++ told), by rw [h1]; simp, fin h3 ?_ ?_⟩
                      · rw [List.map_append, h2, ← List.map_append, tw_app]
                      · rw [hq2] at h2
                        exact MT_val (tw_no p) hv0 (.inr (map_hd47 h2)) h4
              · rw [if_neg hlt] at h
                have hall : p.takeWhile (· ≠ 47) = p := by
                  have h1 := tw_app p
                  rw [List.drop_of_length_le (by omega), List.append_nil] at h1
                  exact h1
                have hlast2 : ∀ k, wk.h = some k → ∃ v, f (bs P ++ .P wn :: []) = some v := fun k hk2 => by
                  have hrw := hwr rfl
                  generalize hgf : (fun s => f (bs P ++ .P wn :: s)) = fw at hrw
                  cases hrw with
                  | st _ _ _ hnt3 => rcases hnt3 with e | e <;> simp only [n_nt] at hw3 <;> omega
                  | ca => simp only [n_nt] at hw3; omega
                  | pa hh2 => subst hgf; simp only [n_h] at hk2; rw [hk2] at hh2; exact ⟨_, hh2⟩
                  | pk hh2 => subst hgf; simp only [n_h] at hk2; rw [hk2] at hh2; exact ⟨_, hh2⟩
                cases hwh : wk.h with
                | none => rw [hwh] at h; simp [tailC] at h
                | some k =>
                  rw [hwh] at h
                  simp at h
                  obtain ⟨v, hv⟩ := hlast2 k hwh
                  refine ⟨P ++ p, by rw [← h], fin hv rfl ?_⟩
                  have := MT_val (n := wn) (s := []) (t := []) (tw_no p) hv0 (.inl rfl) (by simp [MT])
                  rw [List.append_nil, hall] at this
                  exact this
      · rw [if_neg hm] at h
        simp at h
end Gt

/- The search whatever the letters are, at a table's tree. No program in sight. -/
namespace Gt
open Gs Tr
theorem case_tot (E : List UInt8 → List UInt8 → Bool) (fix : Bool) : ∀ (g : Nat) (n : T0) (f : F) (b : Bool) (path : List UInt8) (rb : UInt8) (cur : List UInt8), size n ≤ g → Rep b n f → n.nt ≠ 2 → ∃ r, caseC E fix g n path rb cur = some r
  | 0, n, _, _, _, _, _, h, _, _ => by
    cases n with
    | node => simp [size] at h
  | g + 1, n, f, b, path, rb, cur, hsz, hrep, hnt => by
    cases hrep with
    | pa => exact absurd rfl hnt
    | pk => exact absurd rfl hnt
    | @ca _ pr pr2 num full full2 wn hw =>
      unfold caseC caseS staC
      by_cases hp : path = []
      · subst hp; cases fix <;> simp [n_path, n_idx, n_h, idxOf]
      · simp [n_path, n_idx, n_wild, n_kids, n_nt, hp]
    | @st _ P idx wild nt pr hh0 full kids _ wn wk hp hnt2 hpre hh hnd hpl hlen hk hkn hne hno hw hwr hnw hA hmin =>
      have hs2 : 2 + size.sizes kids ≤ g + 1 := hsz
      have kidT : ∀ (x : UInt8) (i : Nat), idxOf x idx = some i → ∃ k, kids[i]? = some k ∧ ∀ p rb2 cur2, ∃ r, caseC E fix g k p rb2 cur2 = some r := fun x i hi => by
        have him := idxOf_mem hi
        have hlt := (List.getElem?_eq_some_iff.1 him).1
        have hki : kids[i]? = some kids[i] := List.getElem?_eq_getElem (by rw [hlen]; omega)
        refine ⟨_, hki, fun p rb2 cur2 => ?_⟩
        have hsk := size_kid (List.mem_of_getElem? hki)
        exact case_tot E fix g _ _ true p rb2 cur2 (by omega) (hk i x _ him hki) (by rcases hkn i _ hlt hki with e | e <;> rw [e] <;> decide)
      have sub2 : ∀ (x : UInt8) (p : List UInt8), ∃ r, subC (caseC E fix g) idx kids p (cur ++ P) x = some r := fun x p => by
        unfold subC
        cases hi : idxOf x idx with
        | none => exact ⟨none, rfl⟩
        | some i =>
          obtain ⟨k, h1, h2⟩ := kidT x i hi
          obtain ⟨r, h3⟩ := h2 p x (cur ++ P)
          exact ⟨r, by simp only [h1]; exact h3⟩
      have sub3 : ∀ (x : UInt8) (p : List UInt8) (ms : Option (List UInt8)), ∃ r, lastC (caseC E fix g) idx kids p (cur ++ P) ms x = some r := fun x p ms => by
        unfold lastC
        cases hi : idxOf x idx with
        | none => exact ⟨ms, rfl⟩
        | some i =>
          obtain ⟨k, h1, h2⟩ := kidT x i hi
          obtain ⟨r, h3⟩ := h2 p x (cur ++ P)
          exact ⟨r, by simp only [h1]; exact h3⟩
      show ∃ r, caseS E fix (caseC E fix g) P idx wild hh0 kids path rb cur = some r
      unfold caseS
      dsimp only
      by_cases hm : P.length ≤ path.length ∧ (P.length = 0 ∨ E ((path.take P.length).drop 1) (P.drop 1) = true)
      · rw [if_pos hm]
        generalize path.drop P.length = p
        by_cases hp0 : p = []
        · rw [if_pos hp0]
          cases hh0 with
          | some k => exact ⟨_, rfl⟩
          | none =>
            rw [if_neg (by simp)]
            cases fix with
            | true =>
              rw [if_pos rfl]
              cases hi : idxOf 47 idx with
              | none => exact ⟨_, rfl⟩
              | some i =>
                have him := idxOf_mem hi
                have hlt := (List.getElem?_eq_some_iff.1 him).1
                have hki : kids[i]? = some kids[i] := List.getElem?_eq_getElem (by rw [hlen]; omega)
                simp only [hki]
                generalize hkk : kids[i] = k at hki
                have hkk3 : k.nt = 3 → k.kids ≠ [] := fun h3 => by
                  have hr := hk i 47 k him hki
                  revert h3
                  generalize at_ f P 47 = f2 at hr
                  cases hr with
                  | st _ _ _ hq => intro h3; rcases hq with e | e <;> simp only [n_nt] at h3 <;> omega
                  | pa => intro h3; simp only [n_nt] at h3; omega
                  | pk => intro h3; simp only [n_nt] at h3; omega
                  | ca => intro _; simp [n_kids]
                rw [if_neg (fun h => hkk3 h.2.1 h.2.2)]
                exact ⟨_, rfl⟩
            | false => exact ⟨_, rfl⟩
        · rw [if_neg hp0]
          cases wild with
          | false =>
            rw [if_pos rfl]
            split
            · exact sub3 _ _ _
            · obtain ⟨r, hr⟩ := sub2 (lo (runeK P p)) p
              rw [hr]
              cases r with
              | some o => exact ⟨_, rfl⟩
              | none =>
                simp only
                split
                · exact sub3 _ _ _
                · exact ⟨_, rfl⟩
          | true =>
            rw [if_neg (by decide)]
            obtain ⟨hw1, hw2, hw3, hw4, ⟨ws, wv, hws⟩, hw6⟩ := hw rfl
            have hlast : kids[kids.length - 1]? = some wk := by
              have : kids.length - 1 = idx.length := by rw [hlen]; simp
              rw [this]; exact hw1
            have hsk := size_kid (List.mem_of_getElem? hw1)
            have hA : ∃ r, staC (caseC E fix g) P idx kids p rb (cur ++ P) = some r := by
              unfold staC
              split
              · exact ⟨_, rfl⟩
              · split
                · exact sub2 _ _
                · obtain ⟨r, hr⟩ := sub2 (lo (runeK P p)) p
                  rw [hr]
                  cases r with
                  | some o => exact ⟨_, rfl⟩
                  | none =>
                    simp only
                    split
                    · exact sub2 _ _
                    · exact ⟨_, rfl⟩
            obtain ⟨r, hr⟩ := hA
            rw [hr]
            cases r with
            | some o => exact ⟨_, rfl⟩
            | none =>
              simp only [hlast]
              rw [if_pos hw3]
              split
              · have hrw := hwr rfl
                cases hks : wk.kids with
                | nil => exact ⟨_, rfl⟩
                | cons c0 cr =>
                  generalize hgf : (fun s => f (bs P ++ .P wn :: s)) = fw at hrw
                  cases hrw with
                  | st _ _ _ hnt3 => rcases hnt3 with e | e <;> simp only [n_nt] at hw3 <;> omega
                  | ca => simp only [n_nt] at hw3; omega
                  | pa => simp [n_kids] at hks
                  | @pk _ n2 idx2 pr2 h2 full2 k2 _ hh2 hidx2 hk2 hkn2 h472 hne2 =>
                    simp only [n_kids] at hks
                    cases hks
                    have hs3 : size (node () (58 :: n2) idx2 false 2 pr2 h2 full2 [c0]) = 2 + (size c0 + 0) := rfl
                    exact case_tot E fix g c0 _ true _ _ _ (by omega) hk2 (by rw [hkn2]; decide)
              · split
                · exact ⟨_, rfl⟩
                · exact ⟨_, rfl⟩
      · rw [if_neg hm]
        split <;> exact ⟨_, rfl⟩
/-- at a table's tree -/
theorem case_table {l : List (List Prt)} {path : List UInt8} (hf : FitsN l path) (hne : l ≠ []) {t : T0} (ht : addAll new ((l.map tokT).map txt) 0 = .inl t) :
    (∀ E fix, ∃ r, caseC E fix (size t) t path 0 [] = some r) ∧ ∀ out, caseC Ef false (size t) t path 0 [] = some (some out) → out.map lo = path.map lo ∧ bestN l out l.length ≠ none := by
  obtain ⟨_, htab, ⟨q, hq⟩, hnd, _⟩ := hf
  have hcl := htab.clean
  have hg : ∀ r ∈ l.map tokT, Good r := fun r hr => by
    obtain ⟨x, hx, rfl⟩ := List.mem_map.1 hr
    exact (hcl x hx).good
  have hn := pw_nodup htab.pw
  obtain ⟨t', h1, h2⟩ := addAll_ok (l.map tokT) new (fun _ => none) 0 (.inl ⟨rfl, rfl⟩) hg (fun _ _ _ _ h => by cases h) htab.pw
  rw [ht] at h1
  cases h1
  obtain ⟨a0, l', hl⟩ := List.exists_cons_of_ne_nil hne
  have ha0 : (l.map tokT)[0]? = some (tokT a0) := by rw [hl]; rfl
  rcases h2 with ⟨_, hf0⟩ | ⟨hrep, hnt, hhd⟩
  · exfalso
    have h3 := fAdd_at (f := fun _ => none) (k := 0) hn ha0
    rw [hf0] at h3
    cases h3
  · refine ⟨fun E fix => case_tot E fix _ t _ _ path 0 [] (Nat.le_refl _) hrep (by rw [hnt]; decide), fun out ho => ?_⟩
    obtain ⟨told, h3, h4, s, v, h5, h6⟩ := case_sound _ t _ _ path 0 [] out ho hrep (by rw [hnt]; decide)
      { ok := fun s v hs => by obtain ⟨i, hi, _⟩ := fAdd_of hn hs; exact ⟨_, (hg _ (List.mem_of_getElem? hi)).1⟩
        ne := ⟨_, _, fAdd_at hn ha0⟩
        hd := ⟨47, 47, q, hq.symm, rfl, hhd⟩
        nd := Dbl_suf hnd }
    rw [List.nil_append] at h3
    subst h3
    refine ⟨h4, fun hb => ?_⟩
    obtain ⟨i, hi, _⟩ := fAdd_of hn h5
    obtain ⟨a, ha, rfl⟩ := map_at hi
    have := (bestN_spec htab out (Nat.le_refl l.length)).1 hb i a (List.getElem?_eq_some_iff.1 ha).1 ha
    rw [(hcl a (List.mem_of_getElem? ha)).match] at this
    exact h6 this
end Gt
