/- The shape of the tree is kept by insertNode; routes as tokens. -/
import Derived.Test.YtekclaobeccbdaaDoorBc
/- The shape of the router's tree: positions, entries. No program in sight. -/
namespace Bw
open Go Go.Proofs

inductive Tok where
  | b (c : UInt8)
  | P
  | A
instance : DecidableEq Tok := fun a b => match a, b with
  | .b c, .b d => if h : c = d then isTrue (by rw [h]) else isFalse (fun e => h (by cases e; rfl))
  | .P, .P => isTrue rfl
  | .A, .A => isTrue rfl
  | .b _, .P => isFalse (fun e => by cases e)
  | .b _, .A => isFalse (fun e => by cases e)
  | .P, .b _ => isFalse (fun e => by cases e)
  | .P, .A => isFalse (fun e => by cases e)
  | .A, .b _ => isFalse (fun e => by cases e)
  | .A, .P => isFalse (fun e => by cases e)

def Tok.byte : Tok → UInt8
  | .b c => c
  | .P => 58
  | .A => 42
def Tok.ok : Tok → Prop
  | .b c => c ≠ 58 ∧ c ≠ 42
  | _ => True
def Tok.st : Tok → Prop
  | .b c => c ≠ 58 ∧ c ≠ 42
  | _ => False
theorem Tok.st.ok {t : Tok} (h : t.st) : t.ok := by cases t <;> simp_all [Tok.st, Tok.ok]
theorem Tok.byte_inj {s t : Tok} (hs : s.ok) (ht : t.ok) (e : s.byte = t.byte) : s = t := by
  cases s <;> cases t <;> simp_all [Tok.byte, Tok.ok]
def tb (l : List Tok) : List UInt8 := l.map Tok.byte
def bs (l : List UInt8) : List Tok := l.map Tok.b
theorem tb_bs (l : List UInt8) : tb (bs l) = l := by simp [tb, bs, Tok.byte, Function.comp_def]
def okB (l : List UInt8) : Prop := ∀ c ∈ l, c ≠ 58 ∧ c ≠ 42
theorem bs_st {l : List UInt8} (h : okB l) : ∀ t ∈ bs l, t.st := by
  intro t ht
  obtain ⟨c, hc, rfl⟩ := List.mem_map.1 ht
  exact h c hc
/-- how many parameters -/
def cnt (l : List Tok) : Nat := (l.filter fun t => match t with | .b _ => false | _ => true).length
theorem cnt_app (a b : List Tok) : cnt (a ++ b) = cnt a + cnt b := by simp [cnt]

/-- an entry: a place, and what stands there (a method and the number of its block); newest first -/
structure En where
  tk : List Tok
  rm : Option (List UInt8 × Nat)

def lookR : List En → List UInt8 → List Tok → Option Nat
  | [], _, _ => none
  | e :: R, m, p => match e.rm with
    | some (m', h) => if e.tk = p ∧ m' = m then some h else lookR R m p
    | none => lookR R m p

theorem lookR_none {R : List En} {m : List UInt8} {p : List Tok} (h : ∀ e ∈ R, e.tk ≠ p) : lookR R m p = none := by
  induction R with
  | nil => rfl
  | cons e R ih =>
    simp only [lookR]
    have h1 := h e (.head _)
    have h2 := ih fun e he => h e (.tail _ he)
    cases he : e.rm with
    | none => exact h2
    | some p => obtain ⟨m', h'⟩ := p; simp [h1, h2]

def dat (r : NR) (m : List UInt8) : Option Nat := if m = nfName then r.nf else getM r.f r.kv m

theorem aGet_aPut (kv : AL) (m m' : List UInt8) (h : Nat) : aGet (aPut kv m h) m' = if m = m' then some h else aGet kv m' := by
  induction kv with
  | nil => simp [aPut, aGet]
  | cons p r ih =>
    obtain ⟨k, v⟩ := p
    simp only [aPut]
    by_cases e : k = m
    · subst e
      simp only [if_true, aGet]
      split <;> rfl
    · rw [if_neg e]
      simp only [aGet, ih]
      by_cases e1 : k = m'
      · subst e1; simp [Ne.symm e]
      · simp [e1]

theorem stdIx_inj {m m' : List UInt8} {i : Nat} (h : stdIx m = some i) (h' : stdIx m' = some i) : m = m' := by
  have key : ∀ (x : List UInt8) (j : Nat), stdIx x = some j → x = stdNm j := by
    intro x j hx
    unfold stdIx at hx
    repeat' (split at hx; · rename_i e; rw [e]; simp only [Option.some.injEq] at hx; subst hx; rfl)
    cases hx
  rw [key m i h, key m' i h']

theorem getM_add (f : Nat → Option Nat) (kv : AL) (m m' : List UInt8) (h : Nat) : getM (addF f m h) (addKV kv m h) m' = if m = m' then some h else getM f kv m' := by
  unfold getM addF addKV
  cases hm : stdIx m with
  | some i =>
    cases hm' : stdIx m' with
    | some j =>
      simp only
      by_cases e : j = i
      · subst e; rw [if_pos rfl, if_pos (stdIx_inj hm hm')]
      · rw [if_neg e, if_neg (fun h => by subst h; rw [hm] at hm'; exact e (Option.some.inj hm').symm)]
    | none => simp only; rw [if_neg (fun h => by subst h; rw [hm] at hm'; cases hm')]
  | none =>
    cases hm' : stdIx m' with
    | some j => simp only; rw [if_neg (fun h => by subst h; rw [hm] at hm'; cases hm')]
    | none => simp only; exact aGet_aPut kv m m' h

theorem dat_add {h : Nat} {m m' : List UInt8} {r r' : NR} (a : AddR h m r r') : dat r' m' = if m = m' then some h else dat r m' := by
  cases a with
  | nf e =>
    subst e
    simp only [dat]
    by_cases e2 : m' = nfName
    · subst e2; simp
    · rw [if_neg e2, if_neg e2, if_neg (fun h => e2 h.symm)]
  | mk e h1 h2 =>
    simp only [dat]
    by_cases e2 : m' = nfName
    · subst e2; simp [e]
    · rw [if_neg e2, if_neg e2]; exact getM_add _ _ _ _ _

/-! ### children -/
inductive Ch (T : List NR) (x c : NR) : Prop
  | st (hx : x ∈ T) (hc : c ∈ T) (h : c.n ∈ x.kids)
  | pa (hx : x ∈ T) (hc : c ∈ T) (h : x.pch = some c.n)
  | an (hx : x ∈ T) (hc : c ∈ T) (h : x.ach = some c.n)
theorem Ch.l {T x c} (h : Ch T x c) : x ∈ T := by cases h <;> assumption
theorem Ch.r {T x c} (h : Ch T x c) : c ∈ T := by cases h <;> assumption

inductive Rch (T : List NR) (a : Nat) : Nat → Prop
  | refl : Rch T a a
  | step {x c : NR} (h : Rch T a x.n) (hc : Ch T x c) : Rch T a c.n

structure Sh (T : List NR) (q : Nat → List Tok) (R : List En) (root : Nat) : Prop where
  cl : Cl T
  kid : ∀ x c, x ∈ T → c ∈ T → c.n ∈ x.kids → c.kd = 0 ∧ c.par = some x.n ∧ c.pre ≠ [] ∧ okB c.pre ∧ q c.n = q x.n ++ bs c.pre
  pch : ∀ x c, x ∈ T → c ∈ T → x.pch = some c.n → c.kd = 1 ∧ c.par = some x.n ∧ c.pre = [58] ∧ q c.n = q x.n ++ [.P]
  ach : ∀ x c, x ∈ T → c ∈ T → x.ach = some c.n → c.kd = 2 ∧ c.par = some x.n ∧ c.pre = [42] ∧ q c.n = q x.n ++ [.A] ∧ c.kids = [] ∧ c.pch = none ∧ c.ach = none ∧ c.pc = cnt (q c.n)
  rt : ∃ r ∈ T, r.n = root ∧ r.par = none ∧ r.kd = 0 ∧ okB r.pre ∧ q root = bs r.pre ∧ (R ≠ [] → r.pre ≠ [])
  one : R = [] → ∀ r ∈ T, r.n = root ∧ r.pre = [] ∧ r.kids = [] ∧ r.pch = none ∧ r.ach = none
  dl : ∀ x c d, x ∈ T → c ∈ T → d ∈ T → c.n ∈ x.kids → d.n ∈ x.kids → c.lab = d.lab → c.n = d.n
  lab : ∀ r ∈ T, r.pre ≠ [] → r.lab = r.pre.headD 0
  reach : ∀ r ∈ T, Rch T root r.n
  hd : ∀ e ∈ R, e.tk.head? = some (.b 47)
  ent : ∀ e ∈ R, ∃ r ∈ T, q r.n = e.tk
  inh : R ≠ [] → ∀ r ∈ T, ∃ e ∈ R, q r.n <+: e.tk
  dat : ∀ r ∈ T, ∀ m, dat r m = lookR R m (q r.n)
  leaf : ∀ r ∈ T, r.kd = 1 → r.leaf = (r.kids.isEmpty && r.pch.isNone && r.ach.isNone)
  hdl : ∀ r ∈ T, r.hdl = isH r.f r.kv
  hdr : ∀ r ∈ T, r.hdl = true → Hdr r.f r.kv r.hdr
  kv : ∀ r ∈ T, ∀ p ∈ r.kv, stdIx p.1 = none ∧ p.1 ≠ nfName

theorem uniq {T : List NR} (hnd : (T.map NR.n).Nodup) {x y : NR} (hx : x ∈ T) (hy : y ∈ T) (e : x.n = y.n) : x = y := by
  obtain ⟨T0, hT⟩ := perm_of_mem hx
  rcases List.mem_cons.1 (hT.mem_iff.1 hy) with h | h
  · exact h.symm
  · exact absurd e.symm (nodup_ne hT hnd y h)

section
variable {T : List NR} {q : Nat → List Tok} {R : List En} {root : Nat}

/-- a child's place: longer by its tokens -/
theorem Sh.ch (s : Sh T q R root) {x c : NR} (h : Ch T x c) : ∃ t l, q c.n = q x.n ++ t :: l ∧ t.byte = c.lab ∧ t.ok ∧ c.pre ≠ [] ∧ tb (t :: l) = c.pre ∧ c.par = some x.n := by
  cases h with
  | st hx hc h =>
    obtain ⟨_, h2, h3, h4, h5⟩ := s.kid x c hx hc h
    have hl := s.lab c hc h3
    cases hp : c.pre with
    | nil => exact absurd hp h3
    | cons a l => exact ⟨.b a, bs l, by rw [h5, hp]; rfl, by rw [hl, hp]; rfl, h4 a (by rw [hp]; exact .head _), by simp, by simp [tb, bs, Tok.byte, Function.comp_def], h2⟩
  | pa hx hc h =>
    obtain ⟨_, h2, h3, h4⟩ := s.pch x c hx hc h
    exact ⟨.P, [], h4, by rw [s.lab c hc (by rw [h3]; simp), h3]; rfl, trivial, by rw [h3]; simp, by rw [h3]; rfl, h2⟩
  | an hx hc h =>
    obtain ⟨_, h2, h3, h4, _⟩ := s.ach x c hx hc h
    exact ⟨.A, [], h4, by rw [s.lab c hc (by rw [h3]; simp), h3]; rfl, trivial, by rw [h3]; simp, by rw [h3]; rfl, h2⟩

theorem Sh.ch_pre (s : Sh T q R root) {x c : NR} (h : Ch T x c) : q x.n <+: q c.n := by
  obtain ⟨t, l, h1, _⟩ := s.ch h
  exact ⟨t :: l, h1.symm⟩

theorem Sh.rch_pre (s : Sh T q R root) {a c : Nat} (h : Rch T a c) : q a <+: q c := by
  induction h with
  | refl => exact List.prefix_rfl
  | step _ hc ih => exact ih.trans (s.ch_pre hc)

/-- two children of one node whose places begin with the same token are one -/
theorem Sh.ch_uniq (s : Sh T q R root) {x c d : NR} (hc : Ch T x c) (hd : Ch T x d) {t : Tok} (h1 : q x.n ++ [t] <+: q c.n) (h2 : q x.n ++ [t] <+: q d.n) : c = d := by
  have first : ∀ {y : NR} {l l' : List Tok} {u : Tok}, q y.n = q x.n ++ u :: l → q x.n ++ [t] <+: q y.n → u = t := by
    intro y l l' u e hp
    rw [e] at hp
    have := (List.prefix_append_right_inj _).1 hp
    simpa using (List.cons_prefix_cons.1 this).1.symm
  obtain ⟨u, l, e1, e2, _⟩ := s.ch hc
  obtain ⟨v, l', e3, e4, _⟩ := s.ch hd
  have hu : u = t := first (l' := []) e1 h1
  have hv : v = t := first (l' := []) e3 h2
  subst hu
  subst hv
  have el : c.lab = d.lab := by rw [← e2, ← e4]
  refine uniq s.cl.nd hc.r hd.r ?_
  cases hc with
  | st hx hc h =>
    obtain ⟨_, _, h3, h4, h5⟩ := s.kid x c hx hc h
    have hst : v.st := by
      cases hp : c.pre with
      | nil => exact absurd hp h3
      | cons a l2 =>
        rw [hp, e1] at h5
        have := List.append_cancel_left h5
        simp only [bs, List.map_cons, List.cons.injEq] at this
        rw [this.1]
        exact h4 a (by rw [hp]; exact .head _)
    cases hd with
    | st _ hd' h' => exact s.dl x c d hx hc hd' h h' el
    | pa _ hd' h' =>
      have := (s.pch x d hx hd' h').2.2.2
      rw [e3] at this
      have := List.append_cancel_left this
      simp only [List.cons.injEq] at this
      rw [this.1] at hst; exact hst.elim
    | an _ hd' h' =>
      have := (s.ach x d hx hd' h').2.2.2.1
      rw [e3] at this
      have := List.append_cancel_left this
      simp only [List.cons.injEq] at this
      rw [this.1] at hst; exact hst.elim
  | pa hx hc h =>
    have hP : v = .P := by
      have := (s.pch x c hx hc h).2.2.2
      rw [e1] at this
      have := List.append_cancel_left this
      simp only [List.cons.injEq] at this
      exact this.1
    cases hd with
    | st _ hd' h' =>
      obtain ⟨_, _, h3, h4, h5⟩ := s.kid x d hx hd' h'
      cases hp : d.pre with
      | nil => exact absurd hp h3
      | cons a l2 =>
        rw [hp, e3] at h5
        have := List.append_cancel_left h5
        simp only [bs, List.map_cons, List.cons.injEq] at this
        rw [hP] at this; cases this.1
    | pa _ hd' h' => rw [h] at h'; exact Option.some.inj h'
    | an _ hd' h' =>
      have := (s.ach x d hx hd' h').2.2.2.1
      rw [e3] at this
      have := List.append_cancel_left this
      simp only [List.cons.injEq] at this
      rw [hP] at this; cases this.1
  | an hx hc h =>
    have hA : v = .A := by
      have := (s.ach x c hx hc h).2.2.2.1
      rw [e1] at this
      have := List.append_cancel_left this
      simp only [List.cons.injEq] at this
      exact this.1
    cases hd with
    | st _ hd' h' =>
      obtain ⟨_, _, h3, h4, h5⟩ := s.kid x d hx hd' h'
      cases hp : d.pre with
      | nil => exact absurd hp h3
      | cons a l2 =>
        rw [hp, e3] at h5
        have := List.append_cancel_left h5
        simp only [bs, List.map_cons, List.cons.injEq] at this
        rw [hA] at this; cases this.1
    | pa _ hd' h' =>
      have := (s.pch x d hx hd' h').2.2.2
      rw [e3] at this
      have := List.append_cancel_left this
      simp only [List.cons.injEq] at this
      rw [hA] at this; cases this.1
    | an _ hd' h' => rw [h] at h'; exact Option.some.inj h'

theorem Rch.first {a c : Nat} (h : Rch T a c) : a = c ∨ ∃ x d, x.n = a ∧ Ch T x d ∧ Rch T d.n c := by
  induction h with
  | refl => exact .inl rfl
  | @step x c h hc ih =>
    rcases ih with h1 | ⟨y, d, h1, h2, h3⟩
    · exact .inr ⟨x, c, h1.symm, hc, .refl⟩
    · exact .inr ⟨y, d, h1, h2, h3.step hc⟩

theorem Rch.trans {a b c : Nat} (h1 : Rch T a b) (h2 : Rch T b c) : Rch T a c := by
  induction h2 with
  | refl => exact h1
  | step _ hc ih => exact ih.step hc

/-- what begins as a node's place is reached from it -/
theorem Sh.below (s : Sh T q R root) {x y : NR} (hx : x ∈ T) (hy : y ∈ T) (hp : q x.n <+: q y.n) : Rch T x.n y.n := by
  have key : ∀ a, Rch T root a → q a <+: q y.n → Rch T a y.n := by
    intro a ha
    induction ha with
    | refl => exact fun _ => s.reach y hy
    | @step z c hz hc ih =>
      intro hp
      have h1 := ih ((s.ch_pre hc).trans hp)
      obtain ⟨t, l, e1, _⟩ := s.ch hc
      rcases h1.first with h2 | ⟨z', d, h2, h3, h4⟩
      · exfalso
        rw [e1, h2] at hp
        have := hp.length_le
        simp at this
        omega
      · have hz' : z' = z := uniq s.cl.nd h3.l hc.l h2
        subst hz'
        obtain ⟨t', l', e3, _⟩ := s.ch h3
        have hd : q d.n <+: q y.n := s.rch_pre h4
        have hcd : c = d := by
          refine s.ch_uniq hc h3 (t := t) (by rw [e1]; exact ⟨l, by simp⟩) ?_
          rw [e3] at hd ⊢
          rw [e1] at hp
          obtain ⟨u1, hu1⟩ := hd
          obtain ⟨u2, hu2⟩ := hp
          rw [← hu2] at hu1
          simp only [List.append_assoc] at hu1
          have := List.append_cancel_left hu1
          simp only [List.cons_append, List.cons.injEq] at this
          rw [this.1]
          exact ⟨l', by simp⟩
        rw [hcd]; exact h4
  exact key x.n (s.reach x hx) hp

/-- a place that goes on behind a node goes on through a child -/
theorem Sh.next (s : Sh T q R root) {x y : NR} (hx : x ∈ T) (hy : y ∈ T) {t : Tok} (hp : q x.n ++ [t] <+: q y.n) : ∃ c, Ch T x c ∧ q x.n ++ [t] <+: q c.n ∧ q c.n <+: q y.n := by
  have h1 := s.below hx hy ((List.prefix_append _ _).trans hp)
  rcases h1.first with h2 | ⟨z, d, h2, h3, h4⟩
  · exfalso; rw [h2] at hp; have := hp.length_le; simp at this; omega
  · have hz : z = x := uniq s.cl.nd h3.l hx h2
    subst hz
    have hd := s.rch_pre h4
    obtain ⟨t', l', e3, _⟩ := s.ch h3
    refine ⟨d, h3, ?_, hd⟩
    rw [e3] at hd ⊢
    obtain ⟨u1, hu1⟩ := hd
    obtain ⟨u2, hu2⟩ := hp
    rw [← hu2] at hu1
    simp only [List.append_assoc] at hu1
    have := List.append_cancel_left hu1
    simp only [List.cons_append, List.nil_append, List.cons.injEq] at this
    rw [this.1]
    exact ⟨l', by simp⟩
end
end Bw

/- The shape of the router's tree: what is put into it. No program in sight. -/
namespace Bw
open Go Go.Proofs

variable {T T0 : List NR} {q : Nat → List Tok} {R : List En} {root : Nat}

theorem Sh.q_inj (s : Sh T q R root) {x y : NR} (hx : x ∈ T) (hy : y ∈ T) (e : q x.n = q y.n) : x.n = y.n := by
  rcases (s.below hx hy (e ▸ List.prefix_rfl)).first with h | ⟨z, d, h1, h2, h3⟩
  · exact h
  · exfalso
    have := (s.rch_pre h3).length_le
    obtain ⟨t, l, e1, _⟩ := s.ch h2
    rw [h1, e] at e1
    rw [e1] at this
    simp at this; omega

theorem _root_.Go.Proofs.Cl.perm {T T' : List NR} (h : Cl T) (p : T.Perm T') : Cl T' :=
  ⟨fun r hr a ha => by obtain ⟨x, hx, e⟩ := h.kids r (p.mem_iff.2 hr) a ha; exact ⟨x, p.mem_iff.1 hx, e⟩,
   fun r hr a ha => by obtain ⟨x, hx, e⟩ := h.pch r (p.mem_iff.2 hr) a ha; exact ⟨x, p.mem_iff.1 hx, e⟩,
   fun r hr a ha => by obtain ⟨x, hx, e⟩ := h.ach r (p.mem_iff.2 hr) a ha; exact ⟨x, p.mem_iff.1 hx, e⟩,
   fun r hr => h.self r (p.mem_iff.2 hr), (p.map NR.n).nodup_iff.1 h.nd⟩

theorem Ch.perm {T T' : List NR} {x c : NR} (h : Ch T x c) (p : T.Perm T') : Ch T' x c := by
  cases h with
  | st a b c => exact .st (p.mem_iff.1 a) (p.mem_iff.1 b) c
  | pa a b c => exact .pa (p.mem_iff.1 a) (p.mem_iff.1 b) c
  | an a b c => exact .an (p.mem_iff.1 a) (p.mem_iff.1 b) c
theorem Rch.perm {T T' : List NR} {a b : Nat} (h : Rch T a b) (p : T.Perm T') : Rch T' a b := by
  induction h with
  | refl => exact .refl
  | step _ hc ih => exact ih.step (hc.perm p)

theorem Sh.perm {T' : List NR} (s : Sh T q R root) (p : T.Perm T') : Sh T' q R root := {
  cl := s.cl.perm p
  kid x c hx hc := s.kid x c (p.mem_iff.2 hx) (p.mem_iff.2 hc)
  pch x c hx hc := s.pch x c (p.mem_iff.2 hx) (p.mem_iff.2 hc)
  ach x c hx hc := s.ach x c (p.mem_iff.2 hx) (p.mem_iff.2 hc)
  rt := by obtain ⟨r, h1, h2⟩ := s.rt; exact ⟨r, p.mem_iff.1 h1, h2⟩
  one h r hr := s.one h r (p.mem_iff.2 hr)
  dl x c d hx hc hd := s.dl x c d (p.mem_iff.2 hx) (p.mem_iff.2 hc) (p.mem_iff.2 hd)
  lab r hr := s.lab r (p.mem_iff.2 hr)
  reach r hr := (s.reach r (p.mem_iff.2 hr)).perm p
  hd := s.hd
  ent e he := by obtain ⟨r, h1, h2⟩ := s.ent e he; exact ⟨r, p.mem_iff.1 h1, h2⟩
  inh h r hr := s.inh h r (p.mem_iff.2 hr)
  dat r hr := s.dat r (p.mem_iff.2 hr)
  leaf r hr := s.leaf r (p.mem_iff.2 hr)
  hdl r hr := s.hdl r (p.mem_iff.2 hr)
  hdr r hr := s.hdr r (p.mem_iff.2 hr)
  kv r hr := s.kv r (p.mem_iff.2 hr) }

/-- the same node but for what stands in it -/
structure SS (r r' : NR) : Prop where
  n : r'.n = r.n
  par : r'.par = r.par
  pch : r'.pch = r.pch
  ach : r'.ach = r.ach
  pre : r'.pre = r.pre
  kids : r'.kids = r.kids
  kd : r'.kd = r.kd
  lab : r'.lab = r.lab
theorem SS.refl (r : NR) : SS r r := ⟨rfl, rfl, rfl, rfl, rfl, rfl, rfl, rfl⟩

theorem sim_back {r r' : NR} (hs : SS r r') {x' : NR} (hx : x' ∈ r' :: T0) : ∃ x ∈ r :: T0, SS x x' ∧ (x = r ∧ x' = r' ∨ x ∈ T0 ∧ x' = x) := by
  rcases List.mem_cons.1 hx with rfl | hx
  · exact ⟨r, .head _, hs, .inl ⟨rfl, rfl⟩⟩
  · exact ⟨x', .tail _ hx, .refl _, .inr ⟨hx, rfl⟩⟩
theorem sim_fwd {r r' : NR} (hs : SS r r') {x : NR} (hx : x ∈ r :: T0) : ∃ x' ∈ r' :: T0, SS x x' := by
  rcases List.mem_cons.1 hx with rfl | hx
  · exact ⟨r', .head _, hs⟩
  · exact ⟨x, .tail _ hx, .refl _⟩

/-- what stands in a node is set anew -/
theorem Sh.upd (s : Sh T q R root) {r r' : NR} (hT : T.Perm (r :: T0)) (hs : SS r r') {R' : List En} (hR : R ≠ []) (hR' : R' = R ∨ ∃ e, R' = e :: R ∧ e.tk = q r.n)
    (hdat : ∀ m, Bw.dat r' m = lookR R' m (q r.n)) (hleaf : r.kd = 1 → r'.leaf = (r.kids.isEmpty && r.pch.isNone && r.ach.isNone)) (hhdl : r'.hdl = isH r'.f r'.kv) (hhdr : r'.hdl = true → Hdr r'.f r'.kv r'.hdr)
    (hkv : ∀ p ∈ r'.kv, stdIx p.1 = none ∧ p.1 ≠ nfName) (hpc : r.kd = 2 → r'.pc = cnt (q r.n)) : Sh (r' :: T0) q R' root := by
  replace s := s.perm hT
  have hr : r ∈ r :: T0 := .head _
  have hne := nodup_ne (.refl _) s.cl.nd
  have hrhd : (q r.n).head? = some (.b 47) ∨ R' = R := by
    rcases hR' with h | ⟨e, h1, h2⟩
    · exact .inr h
    · refine .inl ?_
      have hlen : q r.n ≠ [] := by
        obtain ⟨rt, h3, h4, h5, h6, h7, h8, h9⟩ := s.rt
        have := s.rch_pre (s.reach r hr)
        intro e0
        rw [e0, List.prefix_nil, h8] at this
        have h10 : rt.pre = [] := by simpa [bs] using this
        exact h9 hR h10
      obtain ⟨e0, he0, hp⟩ := s.inh hR r hr
      have hh := s.hd e0 he0
      cases hq : q r.n with
      | nil => exact absurd hq hlen
      | cons a l => rw [hq] at hp; obtain ⟨u, hu⟩ := hp; rw [← hu] at hh; exact hh
  have hother : ∀ x ∈ T0, ∀ m, lookR R' m (q x.n) = lookR R m (q x.n) := by
    intro x hx m
    rcases hR' with h | ⟨e, h1, h2⟩
    · rw [h]
    · have : e.tk ≠ q x.n := by
        rw [h2]; intro e'
        exact hne x hx (s.q_inj hr (.tail _ hx) e').symm
      rw [h1, lookR]
      cases e.rm with
      | none => rfl
      | some p => obtain ⟨m', h'⟩ := p; simp [this]
  have hch : ∀ x c, Ch (r :: T0) x c → ∀ x' ∈ r' :: T0, SS x x' → ∀ c' ∈ r' :: T0, SS c c' → Ch (r' :: T0) x' c' := by
    intro x c h x' hx' e1 c' hc' e2
    cases h with
    | st a b h => exact .st hx' hc' (by rw [e1.kids, e2.n]; exact h)
    | pa a b h => exact .pa hx' hc' (by rw [e1.pch, e2.n]; exact h)
    | an a b h => exact .an hx' hc' (by rw [e1.ach, e2.n]; exact h)
  refine ⟨⟨fun x' hx' a ha => ?_, fun x' hx' a ha => ?_, fun x' hx' a ha => ?_, fun x' hx' => ?_, ?_⟩, fun x' c' hx' hc' h => ?_, fun x' c' hx' hc' h => ?_, fun x' c' hx' hc' h => ?_, ?_, fun h => ?_, fun x' c' d' hx' hc' hd' h1 h2 h3 => ?_,
    fun x' hx' h => ?_, fun x' hx' => ?_, fun e he => ?_, fun e he => ?_, fun _ x' hx' => ?_, fun x' hx' m => ?_, fun x' hx' hk => ?_, fun x' hx' => ?_, fun x' hx' => ?_, fun x' hx' => ?_⟩
  · obtain ⟨x, hx, e, _⟩ := sim_back hs hx'
    obtain ⟨y, hy, e2⟩ := s.cl.kids x hx a (e.kids ▸ ha)
    obtain ⟨y', hy', e3⟩ := sim_fwd hs hy
    exact ⟨y', hy', e3.n.trans e2⟩
  · obtain ⟨x, hx, e, _⟩ := sim_back hs hx'
    obtain ⟨y, hy, e2⟩ := s.cl.pch x hx a (e.pch ▸ ha)
    obtain ⟨y', hy', e3⟩ := sim_fwd hs hy
    exact ⟨y', hy', e3.n.trans e2⟩
  · obtain ⟨x, hx, e, _⟩ := sim_back hs hx'
    obtain ⟨y, hy, e2⟩ := s.cl.ach x hx a (e.ach ▸ ha)
    obtain ⟨y', hy', e3⟩ := sim_fwd hs hy
    exact ⟨y', hy', e3.n.trans e2⟩
  · obtain ⟨x, hx, e, _⟩ := sim_back hs hx'
    rw [e.n, e.kids, e.pch, e.ach]; exact s.cl.self x hx
  · rw [List.map_cons, hs.n]; exact s.cl.nd
  · obtain ⟨x, hx, e, _⟩ := sim_back hs hx'
    obtain ⟨c, hc, e2, _⟩ := sim_back hs hc'
    rw [e2.kd, e2.par, e2.pre, e2.n, e.n]
    exact s.kid x c hx hc (by rw [← e2.n, ← e.kids]; exact h)
  · obtain ⟨x, hx, e, _⟩ := sim_back hs hx'
    obtain ⟨c, hc, e2, _⟩ := sim_back hs hc'
    rw [e2.kd, e2.par, e2.pre, e2.n, e.n]
    exact s.pch x c hx hc (by rw [← e2.n, ← e.pch]; exact h)
  · obtain ⟨x, hx, e, _⟩ := sim_back hs hx'
    obtain ⟨c, hc, e2, h2⟩ := sim_back hs hc'
    have h0 := s.ach x c hx hc (by rw [← e2.n, ← e.ach]; exact h)
    rw [e2.kd, e2.par, e2.pre, e2.n, e.n, e2.kids, e2.pch, e2.ach]
    refine ⟨h0.1, h0.2.1, h0.2.2.1, h0.2.2.2.1, h0.2.2.2.2.1, h0.2.2.2.2.2.1, h0.2.2.2.2.2.2.1, ?_⟩
    rcases h2 with ⟨rfl, rfl⟩ | ⟨_, rfl⟩
    · exact hpc h0.1
    · exact h0.2.2.2.2.2.2.2
  · obtain ⟨rt, h1, h2, h3, h4, h5, h6, h7⟩ := s.rt
    obtain ⟨rt', h1', e⟩ := sim_fwd hs h1
    exact ⟨rt', h1', e.n.trans h2, e.par.trans h3, e.kd.trans h4, e.pre ▸ h5, by rw [e.pre]; exact h6, fun _ => by rw [e.pre]; exact h7 hR⟩
  · exfalso
    rcases hR' with h' | ⟨e, h', _⟩
    · exact hR (h' ▸ h)
    · rw [h'] at h; cases h
  · obtain ⟨x, hx, e, _⟩ := sim_back hs hx'
    obtain ⟨c, hc, e2, _⟩ := sim_back hs hc'
    obtain ⟨d, hd, e3, _⟩ := sim_back hs hd'
    rw [e2.n, e3.n]
    exact s.dl x c d hx hc hd (by rw [← e2.n, ← e.kids]; exact h1) (by rw [← e3.n, ← e.kids]; exact h2) (by rw [← e2.lab, ← e3.lab]; exact h3)
  · obtain ⟨x, hx, e, _⟩ := sim_back hs hx'
    rw [e.lab, e.pre]; exact s.lab x hx (by rw [← e.pre]; exact h)
  · obtain ⟨x, hx, e, _⟩ := sim_back hs hx'
    rw [e.n]
    have key : ∀ b, Rch (r :: T0) root b → Rch (r' :: T0) root b := by
      intro b hb
      induction hb with
      | refl => exact .refl
      | @step y c _ hc ih =>
        obtain ⟨y', hy', e1⟩ := sim_fwd hs hc.l
        obtain ⟨c', hc', e2⟩ := sim_fwd hs hc.r
        have := hch y c hc y' hy' e1 c' hc' e2
        rw [← e2.n]
        exact .step (x := y') (by rw [e1.n]; exact ih) this
    exact key _ (s.reach x hx)
  · rcases hR' with h' | ⟨e', h', h2⟩
    · rw [h'] at he; exact s.hd e he
    · rw [h'] at he
      rcases List.mem_cons.1 he with rfl | he
      · rw [h2]
        rcases hrhd with h | h
        · exact h
        · rw [h] at h'; exact absurd (congrArg List.length h') (by simp)
      · exact s.hd e he
  · have : e ∈ R ∨ e.tk = q r.n := by
      rcases hR' with h' | ⟨e', h', h2⟩
      · rw [h'] at he; exact .inl he
      · rw [h'] at he
        rcases List.mem_cons.1 he with rfl | he
        · exact .inr h2
        · exact .inl he
    rcases this with h | h
    · obtain ⟨x, hx, e2⟩ := s.ent e h
      obtain ⟨x', hx', e3⟩ := sim_fwd hs hx
      exact ⟨x', hx', by rw [e3.n]; exact e2⟩
    · exact ⟨r', .head _, by rw [hs.n]; exact h.symm⟩
  · obtain ⟨x, hx, e, _⟩ := sim_back hs hx'
    obtain ⟨e0, he0, h0⟩ := s.inh hR x hx
    refine ⟨e0, ?_, by rw [e.n]; exact h0⟩
    rcases hR' with h' | ⟨e', h', _⟩
    · rw [h']; exact he0
    · rw [h']; exact .tail _ he0
  · rcases List.mem_cons.1 hx' with rfl | hx
    · rw [hs.n]; exact hdat m
    · rw [s.dat x' (.tail _ hx) m, hother x' hx m]
  · rcases List.mem_cons.1 hx' with rfl | hx
    · rw [hs.kids, hs.pch, hs.ach]; exact hleaf (hs.kd ▸ hk)
    · exact s.leaf x' (.tail _ hx) hk
  · rcases List.mem_cons.1 hx' with rfl | hx
    · exact hhdl
    · exact s.hdl x' (.tail _ hx)
  · rcases List.mem_cons.1 hx' with rfl | hx
    · exact hhdr
    · exact s.hdr x' (.tail _ hx)
  · rcases List.mem_cons.1 hx' with rfl | hx
    · exact hkv
    · exact s.kv x' (.tail _ hx)
end Bw

/- The shape of the router's tree: a node is cut in two; a child more. No program in sight. -/
namespace Bw
open Go Go.Proofs

variable {T T0 : List NR} {q : Nat → List Tok} {R : List En} {root : Nat}

theorem Sh.up (s : Sh T q R root) {r : NR} (hr : r ∈ T) : r.n = root ∨ ∃ x, Ch T x r := by
  have key : ∀ b, Rch T root b → ∀ r ∈ T, r.n = b → r.n = root ∨ ∃ x, Ch T x r := by
    intro b hb r hr e
    cases hb with
    | refl => exact .inl e
    | @step x c hx hc =>
      have : r = c := uniq s.cl.nd hr hc.r e
      exact .inr ⟨x, this ▸ hc⟩
  exact key _ (s.reach r hr) r hr rfl

theorem Sh.static (s : Sh T q R root) {r : NR} (hr : r ∈ T) (hk : r.kd = 0) : okB r.pre ∧ (r.n = root ∨ ∃ x ∈ T, r.n ∈ x.kids) := by
  rcases s.up hr with h | ⟨x, h⟩
  · obtain ⟨rt, h1, h2, _, _, h5, _⟩ := s.rt
    have : r = rt := uniq s.cl.nd hr h1 (h.trans h2.symm)
    subst this
    exact ⟨h5, .inl h⟩
  · cases h with
    | st hx hc h => exact ⟨(s.kid x r hx hc h).2.2.2.1, .inr ⟨x, hx, h⟩⟩
    | pa hx hc h => have := (s.pch x r hx hc h).1; omega
    | an hx hc h => have := (s.ach x r hx hc h).1; omega

theorem bs_app (a b : List UInt8) : bs (a ++ b) = bs a ++ bs b := by simp [bs]

/-- no node stands within an edge -/
theorem Sh.edge (s : Sh T q R root) {r y : NR} (hr : r ∈ T) (hy : y ∈ T) {start : List Tok} (hk : r.kd = 0) (hq : q r.n = start ++ bs r.pre) {c : UInt8} (hc : r.pre.head? = some c)
    (hp : start ++ [.b c] <+: q y.n) (hlen : (q y.n).length < (q r.n).length) : False := by
  rcases (s.static hr hk).2 with h | ⟨x, hx, h⟩
  · have := (s.rch_pre (s.reach y hy)).length_le
    rw [← h] at this; omega
  · have h5 := (s.kid x r hx hr h).2.2.2.2
    have hst : start = q x.n := List.append_cancel_right (hq.symm.trans h5)
    subst hst
    obtain ⟨d, h1, h2, h3⟩ := s.next hx hy hp
    have : d = r := s.ch_uniq h1 (.st hx hr h) h2 (by
      rw [h5]
      cases hpre : r.pre with
      | nil => rw [hpre] at hc; cases hc
      | cons a l => rw [hpre] at hc; simp only [List.head?_cons, Option.some.injEq] at hc; subst hc; exact ⟨bs l, by simp [bs]⟩)
    subst this
    have := h3.length_le
    omega

theorem setPar_f {S b} {r : NR} : (r.setPar S b).n = r.n ∧ (r.setPar S b).pch = r.pch ∧ (r.setPar S b).ach = r.ach ∧ (r.setPar S b).pre = r.pre ∧ (r.setPar S b).kids = r.kids ∧ (r.setPar S b).kd = r.kd ∧ (r.setPar S b).lab = r.lab ∧ (r.setPar S b).f = r.f ∧ (r.setPar S b).kv = r.kv ∧ (r.setPar S b).nf = r.nf ∧ (r.setPar S b).hdl = r.hdl ∧ (r.setPar S b).hdr = r.hdr ∧ (r.setPar S b).leaf = r.leaf ∧ (r.setPar S b).pc = r.pc := by
  unfold NR.setPar; split <;> simp
theorem setPar_out {S b} {r : NR} (h : r.n ∉ S) : r.setPar S b = r := by simp [NR.setPar, h]
theorem setPar_in {S b} {r : NR} (h : r.n ∈ S) : (r.setPar S b).par = some b := by simp [NR.setPar, h]

def chS (r : NR) : List Nat := r.kids ++ r.pch.toList ++ r.ach.toList
theorem mem_chS {r : NR} {a : Nat} : a ∈ chS r ↔ a ∈ r.kids ∨ r.pch = some a ∨ r.ach = some a := by
  simp only [chS, List.mem_append, Option.mem_toList, or_assoc]

theorem Sh.par_of (s : Sh T q R root) {r y : NR} (hr : r ∈ T) (hy : y ∈ T) (h : y.n ∈ chS r) : y.par = some r.n := by
  rcases mem_chS.1 h with h | h | h
  · exact (s.kid r y hr hy h).2.1
  · exact (s.pch r y hr hy h).2.1
  · exact (s.ach r y hr hy h).2.1

def q1 (q : Nat → List Tok) (b n : Nat) (p : List Tok) (a : Nat) : List Tok := if a = b then q n else if a = n then p else q a

theorem Sh.cut (s : Sh T q R root) {r : NR} (hT : T.Perm (r :: T0)) (hR : R ≠ []) (hk : r.kd = 0) {l : Nat} (h1 : 0 < l) (h2 : l < r.pre.length) {b : Nat} (hb : ∀ x ∈ T, x.n ≠ b) (m : Nat) (ad : Option Addr) (cp : Nat) (Hs : SH)
    {start : List Tok} (hq : q r.n = start ++ bs r.pre) :
    Sh (r.top m l [b] ad cp Hs :: r.low b l :: T0.map (NR.setPar (r.kids ++ r.pch.toList ++ r.ach.toList) b)) (q1 q b r.n (start ++ bs (r.pre.take l))) R root := by
  show Sh (r.top m l [b] ad cp Hs :: r.low b l :: T0.map (NR.setPar (chS r) b)) (q1 q b r.n (start ++ bs (r.pre.take l))) R root
  replace hb : ∀ x ∈ r :: T0, x.n ≠ b := fun x hx => hb x (hT.mem_iff.2 hx)
  replace s := s.perm hT
  have hr : r ∈ r :: T0 := .head _
  have hne := nodup_ne (.refl _) s.cl.nd
  have hself := s.cl.self r hr
  have hst := (s.static hr hk).1
  obtain ⟨c0, cs, hpre⟩ : ∃ c0 cs, r.pre = c0 :: cs := by
    cases hp : r.pre with
    | nil => rw [hp] at h2; simp at h2
    | cons a l => exact ⟨a, l, rfl⟩
  have hlab : r.lab = r.pre.headD 0 := s.lab r hr (by rw [hpre]; simp)
  have ht0 : r.pre.take l ≠ [] := by rw [hpre]; cases l with | zero => omega | succ l => simp
  have hth : (r.pre.take l).headD 0 = r.pre.headD 0 := by rw [hpre]; cases l with | zero => omega | succ l => simp
  have hd0 : r.pre.drop l ≠ [] := fun e => by have := congrArg List.length e; simp at this; omega
  have qb : q1 q b r.n (start ++ bs (r.pre.take l)) b = q r.n := by simp [q1]
  have hrb : r.n ≠ b := hb r hr
  have qr : q1 q b r.n (start ++ bs (r.pre.take l)) r.n = start ++ bs (r.pre.take l) := by simp [q1, hrb]
  have qo : ∀ y ∈ T0, q1 q b r.n (start ++ bs (r.pre.take l)) y.n = q y.n := fun y hy => by simp [q1, hb y (.tail _ hy), hne y hy]
  have hq2 : start ++ bs (r.pre.take l) ++ bs (r.pre.drop l) = q r.n := by rw [List.append_assoc, ← bs_app, List.take_append_drop, hq]
  have hok : ∀ c ∈ r.pre.take l, c ≠ 58 ∧ c ≠ 42 := fun c hc => hst c (List.mem_of_mem_take hc)
  have hok2 : ∀ c ∈ r.pre.drop l, c ≠ 58 ∧ c ≠ 42 := fun c hc => hst c (List.mem_of_mem_drop hc)
  -- the old nodes' new selves
  have hkb : ∀ x ∈ r :: T0, b ∉ x.kids ∧ x.pch ≠ some b ∧ x.ach ≠ some b := fun x hx => by
    refine ⟨fun h => ?_, fun h => ?_, fun h => ?_⟩
    · obtain ⟨y, hy, e⟩ := s.cl.kids x hx b h; exact hb y hy e
    · obtain ⟨y, hy, e⟩ := s.cl.pch x hx b h; exact hb y hy e
    · obtain ⟨y, hy, e⟩ := s.cl.ach x hx b h; exact hb y hy e
  have hin : ∀ y ∈ T0, y.setPar (chS r) b ∈ (r.top m l [b] ad cp Hs :: r.low b l :: T0.map (NR.setPar (chS r) b)) := fun y hy => .tail _ (.tail _ (List.mem_map.2 ⟨y, hy, rfl⟩))
  have hmem : ∀ x ∈ (r.top m l [b] ad cp Hs :: r.low b l :: T0.map (NR.setPar (chS r) b)), x = r.top m l [b] ad cp Hs ∨ x = r.low b l ∨ ∃ y ∈ T0, x = y.setPar (chS r) b := fun x hx => by
    rcases List.mem_cons.1 hx with h | hx
    · exact .inl h
    · rcases List.mem_cons.1 hx with h | hx
      · exact .inr (.inl h)
      · obtain ⟨y, hy, e⟩ := List.mem_map.1 hx; exact .inr (.inr ⟨y, hy, e.symm⟩)
  -- the parent of a child that is not r's
  have hpar : ∀ x ∈ T0, ∀ y ∈ T0, y.n ∈ chS x → (y.setPar (chS r) b) = y := fun x hx y hy h => setPar_out fun h' => by
    have e1 := s.par_of (.tail _ hx) (.tail _ hy) h
    have e2 := s.par_of hr (.tail _ hy) h'
    rw [e1] at e2
    exact hne x hx (Option.some.inj e2)
  have hdown : ∀ a, a ∈ chS r → ∃ y ∈ T0, y.n = a := fun a ha => by
    have : ∃ y ∈ r :: T0, y.n = a := by
      rcases mem_chS.1 ha with h | h | h
      · exact s.cl.kids r hr a h
      · exact s.cl.pch r hr a h
      · exact s.cl.ach r hr a h
    obtain ⟨y, hy, e⟩ := this
    rcases List.mem_cons.1 hy with h | h
    · exfalso; rw [h] at e
      rcases mem_chS.1 ha with h' | h' | h'
      · exact hself.1 (e ▸ h')
      · exact hself.2.1 (e ▸ h')
      · exact hself.2.2 (e ▸ h')
    · exact ⟨y, h, e⟩
  have himg : ∀ y ∈ r :: T0, ∃ y' ∈ (r.top m l [b] ad cp Hs :: r.low b l :: T0.map (NR.setPar (chS r) b)), y'.n = y.n := fun y hy => by
    rcases List.mem_cons.1 hy with h | h
    · subst h; exact ⟨_, .head _, rfl⟩
    · exact ⟨_, hin y h, setPar_f.1⟩
  have hnoent : ∀ e ∈ R, e.tk ≠ start ++ bs (r.pre.take l) := fun e he h => by
    obtain ⟨y, hy, e2⟩ := s.ent e he
    refine s.edge hr hy hk hq (c := c0) (by rw [hpre]; rfl) ?_ ?_
    · rw [e2, h, hpre]
      cases l with
      | zero => omega
      | succ l => exact ⟨bs (cs.take l), by simp [bs]⟩
    · rw [e2, h, hq]; simp [bs]; omega
  refine ⟨⟨fun x hx a ha => ?_, fun x hx a ha => ?_, fun x hx a ha => ?_, fun x hx => ?_, ?_⟩, fun x c hx hc h => ?_, fun x c hx hc h => ?_, fun x c hx hc h => ?_, ?_, fun h => absurd h hR, fun x c d hx hc hd e1 e2 e3 => ?_,
    fun x hx _ => ?_, fun x hx => ?_, s.hd, fun e he => ?_, fun _ x hx => ?_, fun x hx m => ?_, fun x hx hk => ?_, fun x hx => ?_, fun x hx => ?_, fun x hx => ?_⟩
  · rcases hmem x hx with rfl | rfl | ⟨y, hy, rfl⟩
    · rw [List.mem_singleton.1 ha]; exact ⟨_, .tail _ (.head _), rfl⟩
    · obtain ⟨y, hy, e⟩ := hdown a (mem_chS.2 (.inl ha)); exact ⟨_, hin y hy, setPar_f.1.trans e⟩
    · rw [setPar_f.2.2.2.2.1] at ha
      obtain ⟨z, hz, e⟩ := s.cl.kids y (.tail _ hy) a ha
      obtain ⟨z', h3, h4⟩ := himg z hz
      exact ⟨z', h3, h4.trans e⟩
  · rcases hmem x hx with rfl | rfl | ⟨y, hy, rfl⟩
    · cases ha
    · obtain ⟨y, hy, e⟩ := hdown a (mem_chS.2 (.inr (.inl ha))); exact ⟨_, hin y hy, setPar_f.1.trans e⟩
    · rw [setPar_f.2.1] at ha
      obtain ⟨z, hz, e⟩ := s.cl.pch y (.tail _ hy) a ha
      obtain ⟨z', h3, h4⟩ := himg z hz
      exact ⟨z', h3, h4.trans e⟩
  · rcases hmem x hx with rfl | rfl | ⟨y, hy, rfl⟩
    · cases ha
    · obtain ⟨y, hy, e⟩ := hdown a (mem_chS.2 (.inr (.inr ha))); exact ⟨_, hin y hy, setPar_f.1.trans e⟩
    · rw [setPar_f.2.2.1] at ha
      obtain ⟨z, hz, e⟩ := s.cl.ach y (.tail _ hy) a ha
      obtain ⟨z', h3, h4⟩ := himg z hz
      exact ⟨z', h3, h4.trans e⟩
  · rcases hmem x hx with rfl | rfl | ⟨y, hy, rfl⟩
    · exact ⟨fun h => hrb (List.mem_singleton.1 h), fun h => (by cases h), fun h => (by cases h)⟩
    · exact hkb r hr
    · rw [setPar_f.1, setPar_f.2.1, setPar_f.2.2.1, setPar_f.2.2.2.2.1]; exact s.cl.self y (.tail _ hy)
  · have hmm : (T0.map (NR.setPar (chS r) b)).map NR.n = T0.map NR.n := by rw [List.map_map]; exact List.map_congr_left fun x _ => setPar_f.1
    simp only [List.map_cons, hmm]
    have hnd := s.cl.nd
    rw [List.map_cons, List.nodup_cons] at hnd
    refine List.nodup_cons.2 ⟨fun h => ?_, List.nodup_cons.2 ⟨fun h => ?_, hnd.2⟩⟩
    · rcases List.mem_cons.1 h with h | h
      · exact hrb h
      · exact hnd.1 h
    · obtain ⟨y, hy, e⟩ := List.mem_map.1 h; exact hb y (.tail _ hy) e
  · -- kid
    rcases hmem x hx with rfl | rfl | ⟨y, hy, rfl⟩
    · have hc' := List.mem_singleton.1 h
      rcases hmem c hc with rfl | rfl | ⟨z, hz, rfl⟩
      · exact absurd hc' hrb
      · refine ⟨hk, rfl, hd0, hok2, ?_⟩
        show q1 q b r.n (start ++ bs (r.pre.take l)) b = q1 q b r.n (start ++ bs (r.pre.take l)) r.n ++ bs (r.pre.drop l)
        rw [qb, qr, hq2]
      · rw [setPar_f.1] at hc'; exact absurd hc' (hb z (.tail _ hz))
    · rcases hmem c hc with rfl | rfl | ⟨z, hz, rfl⟩
      · exact absurd h hself.1
      · exact absurd h (hkb r hr).1
      · rw [setPar_f.1] at h
        have h0 := s.kid r z hr (.tail _ hz) h
        rw [setPar_f.1, setPar_f.2.2.2.2.2.1, setPar_f.2.2.2.1, setPar_in (show z.n ∈ chS r from mem_chS.2 (.inl h)), qo z hz]
        exact ⟨h0.1, rfl, h0.2.2.1, h0.2.2.2.1, h0.2.2.2.2.trans (by rw [show (r.low b l).n = b from rfl, qb])⟩
    · rw [setPar_f.2.2.2.2.1] at h
      rw [setPar_f.1, qo y hy]
      rcases hmem c hc with rfl | rfl | ⟨z, hz, rfl⟩
      · have h0 := s.kid y r (.tail _ hy) hr h
        refine ⟨rfl, h0.2.1, ht0, hok, ?_⟩
        show q1 q b r.n (start ++ bs (r.pre.take l)) r.n = _
        rw [qr]
        have : start = q y.n := List.append_cancel_right (hq.symm.trans h0.2.2.2.2)
        rw [this]; rfl
      · exact absurd h (hkb y (.tail _ hy)).1
      · rw [setPar_f.1] at h
        rw [hpar y hy z hz (mem_chS.2 (.inl h)), qo z hz]
        exact s.kid y z (.tail _ hy) (.tail _ hz) h
  · -- pch
    rcases hmem x hx with rfl | rfl | ⟨y, hy, rfl⟩
    · cases h
    · rcases hmem c hc with rfl | rfl | ⟨z, hz, rfl⟩
      · exact absurd h hself.2.1
      · exact absurd h (hkb r hr).2.1
      · rw [setPar_f.1] at h
        have h0 := s.pch r z hr (.tail _ hz) h
        rw [setPar_f.1, setPar_f.2.2.2.2.2.1, setPar_f.2.2.2.1, setPar_in (show z.n ∈ chS r from mem_chS.2 (.inr (.inl h))), qo z hz]
        exact ⟨h0.1, rfl, h0.2.2.1, h0.2.2.2.trans (by rw [show (r.low b l).n = b from rfl, qb])⟩
    · rw [setPar_f.2.1] at h
      rw [setPar_f.1, qo y hy]
      rcases hmem c hc with rfl | rfl | ⟨z, hz, rfl⟩
      · have h0 := s.pch y r (.tail _ hy) hr h
        omega
      · exact absurd h (hkb y (.tail _ hy)).2.1
      · rw [setPar_f.1] at h
        rw [hpar y hy z hz (mem_chS.2 (.inr (.inl h))), qo z hz]
        exact s.pch y z (.tail _ hy) (.tail _ hz) h
  · -- ach
    rcases hmem x hx with rfl | rfl | ⟨y, hy, rfl⟩
    · cases h
    · rcases hmem c hc with rfl | rfl | ⟨z, hz, rfl⟩
      · exact absurd h hself.2.2
      · exact absurd h (hkb r hr).2.2
      · rw [setPar_f.1] at h
        have h0 := s.ach r z hr (.tail _ hz) h
        have hf := setPar_f (S := chS r) (b := b) (r := z)
        rw [setPar_f.1, setPar_f.2.2.2.2.2.1, setPar_f.2.2.2.1, setPar_in (show z.n ∈ chS r from mem_chS.2 (.inr (.inr h))), qo z hz, hf.2.2.2.2.1, hf.2.1, hf.2.2.1, hf.2.2.2.2.2.2.2.2.2.2.2.2.2]
        exact ⟨h0.1, rfl, h0.2.2.1, h0.2.2.2.1.trans (by rw [show (r.low b l).n = b from rfl, qb]), h0.2.2.2.2⟩
    · rw [setPar_f.2.2.1] at h
      rw [setPar_f.1, qo y hy]
      rcases hmem c hc with rfl | rfl | ⟨z, hz, rfl⟩
      · have h0 := s.ach y r (.tail _ hy) hr h
        omega
      · exact absurd h (hkb y (.tail _ hy)).2.2
      · rw [setPar_f.1] at h
        rw [hpar y hy z hz (mem_chS.2 (.inr (.inr h))), qo z hz]
        exact s.ach y z (.tail _ hy) (.tail _ hz) h
  · -- the root
    obtain ⟨rt, g1, g2, g3, g4, g5, g6, g7⟩ := s.rt
    rcases List.mem_cons.1 g1 with h | h
    · subst h
      refine ⟨_, .head _, g2, g3, rfl, hok, ?_, fun _ => ht0⟩
      have : start = [] := by
        rw [← g2, hq] at g6
        have := congrArg List.length g6
        simp at this
        exact this
      rw [← g2, qr, this]; rfl
    · have hout : rt.setPar (chS r) b = rt := setPar_out fun h' => by rw [s.par_of hr g1 h'] at g3; cases g3
      refine ⟨_, hin rt h, ?_⟩
      rw [hout]
      exact ⟨g2, g3, g4, g5, by rw [← g2, qo rt h, g2]; exact g6, g7⟩
  · -- labels
    have himgc : ∀ y ∈ r :: T0, ∀ c ∈ (r.top m l [b] ad cp Hs :: r.low b l :: T0.map (NR.setPar (chS r) b)), c.n ∈ y.kids → ∃ c0 ∈ r :: T0, c0.n = c.n ∧ c0.lab = c.lab := by
      intro y hy c hc h
      rcases hmem c hc with rfl | rfl | ⟨z, hz, rfl⟩
      · exact ⟨r, hr, rfl, hlab⟩
      · exact absurd h (hkb y hy).1
      · exact ⟨z, .tail _ hz, setPar_f.1.symm, setPar_f.2.2.2.2.2.2.1.symm⟩
    have main : ∀ y ∈ r :: T0, c.n ∈ y.kids → d.n ∈ y.kids → c.n = d.n := by
      intro y hy h3 h4
      obtain ⟨c1, k1, k2, k3⟩ := himgc y hy c hc h3
      obtain ⟨d1, k4, k5, k6⟩ := himgc y hy d hd h4
      have := s.dl y c1 d1 hy k1 k4 (by rw [k2]; exact h3) (by rw [k5]; exact h4) (by rw [k3, k6]; exact e3)
      rw [← k2, ← k5]; exact this
    rcases hmem x hx with rfl | rfl | ⟨y, hy, rfl⟩
    · rw [List.mem_singleton.1 e1, List.mem_singleton.1 e2]
    · exact main r hr e1 e2
    · rw [setPar_f.2.2.2.2.1] at e1 e2
      exact main y (.tail _ hy) e1 e2
  · rcases hmem x hx with rfl | rfl | ⟨y, hy, rfl⟩
    · exact hth.symm
    · rfl
    · rw [setPar_f.2.2.2.1, setPar_f.2.2.2.2.2.2.1]; exact s.lab y (.tail _ hy) (by rename_i h; rw [setPar_f.2.2.2.1] at h; exact h)
  · -- reach
    have hlow : Ch (r.top m l [b] ad cp Hs :: r.low b l :: T0.map (NR.setPar (chS r) b)) (r.top m l [b] ad cp Hs) (r.low b l) := .st (.head _) (.tail _ (.head _)) (.head _)
    have key : ∀ a, Rch (r :: T0) root a → Rch (r.top m l [b] ad cp Hs :: r.low b l :: T0.map (NR.setPar (chS r) b)) root a := by
      intro a ha
      induction ha with
      | refl => exact .refl
      | @step y c _ hc ih =>
        have hcn : ∃ c' ∈ (r.top m l [b] ad cp Hs :: r.low b l :: T0.map (NR.setPar (chS r) b)), c'.n = c.n := himg c hc.r
        obtain ⟨c', h3, h4⟩ := hcn
        have hlk : ∀ y', y' ∈ (r.top m l [b] ad cp Hs :: r.low b l :: T0.map (NR.setPar (chS r) b)) → y'.kids = y.kids → y'.pch = y.pch → y'.ach = y.ach → Ch (r.top m l [b] ad cp Hs :: r.low b l :: T0.map (NR.setPar (chS r) b)) y' c' := by
          intro y' h5 h6 h7 h8
          cases hc with
          | st _ _ h => exact .st h5 h3 (by rw [h6, h4]; exact h)
          | pa _ _ h => exact .pa h5 h3 (by rw [h7, h4]; exact h)
          | an _ _ h => exact .an h5 h3 (by rw [h8, h4]; exact h)
        rw [← h4]
        rcases List.mem_cons.1 hc.l with h | h
        · subst h
          exact .step (x := y.low b l) (.step (x := y.top m l [b] ad cp Hs) ih hlow) (hlk _ (.tail _ (.head _)) rfl rfl rfl)
        · exact .step (x := y.setPar (chS r) b) (by rw [setPar_f.1]; exact ih) (hlk _ (hin y h) setPar_f.2.2.2.2.1 setPar_f.2.1 setPar_f.2.2.1)
    rcases hmem x hx with rfl | rfl | ⟨y, hy, rfl⟩
    · exact key r.n (s.reach r hr)
    · exact .step (x := r.top m l [b] ad cp Hs) (key r.n (s.reach r hr)) hlow
    · rw [setPar_f.1]; exact key y.n (s.reach y (.tail _ hy))
  · obtain ⟨y, hy, e2⟩ := s.ent e he
    rcases List.mem_cons.1 hy with h | h
    · subst h; exact ⟨_, .tail _ (.head _), by rw [show (y.low b l).n = b from rfl, qb]; exact e2⟩
    · exact ⟨_, hin y h, by rw [setPar_f.1, qo y h]; exact e2⟩
  · rcases hmem x hx with rfl | rfl | ⟨y, hy, rfl⟩
    · obtain ⟨e, he, hp⟩ := s.inh hR r hr
      refine ⟨e, he, List.IsPrefix.trans ?_ hp⟩
      show q1 q b r.n (start ++ bs (r.pre.take l)) r.n <+: _
      rw [qr, ← hq2]; exact List.prefix_append _ _
    · obtain ⟨e, he, hp⟩ := s.inh hR r hr
      exact ⟨e, he, by rw [show (r.low b l).n = b from rfl, qb]; exact hp⟩
    · obtain ⟨e, he, hp⟩ := s.inh hR y (.tail _ hy)
      exact ⟨e, he, by rw [setPar_f.1, qo y hy]; exact hp⟩
  · rcases hmem x hx with rfl | rfl | ⟨y, hy, rfl⟩
    · show Bw.dat _ _ = lookR R m (q1 q b r.n (start ++ bs (r.pre.take l)) r.n)
      rw [qr, lookR_none hnoent]
      simp only [Bw.dat, NR.top]
      split
      · rfl
      · unfold getM; split <;> rfl
    · rw [show (r.low b l).n = b from rfl, qb]; exact s.dat r hr m
    · rw [setPar_f.1, qo y hy, ← s.dat y (.tail _ hy) m]
      have hf := setPar_f (S := chS r) (b := b) (r := y)
      simp only [Bw.dat, hf.2.2.2.2.2.2.2.1, hf.2.2.2.2.2.2.2.2.1, hf.2.2.2.2.2.2.2.2.2.1]
  · rcases hmem x hx with rfl | rfl | ⟨y, hy, rfl⟩
    · cases hk
    · rename_i hk0; rw [show (r.low b l).kd = r.kd from rfl, hk0] at hk; cases hk
    · have hf := setPar_f (S := chS r) (b := b) (r := y)
      rw [hf.2.2.2.2.2.1] at hk
      rw [hf.2.2.2.2.2.2.2.2.2.2.2.2.1, hf.2.2.2.2.1, hf.2.1, hf.2.2.1]
      exact s.leaf y (.tail _ hy) hk
  · rcases hmem x hx with rfl | rfl | ⟨y, hy, rfl⟩
    · rfl
    · rfl
    · have hf := setPar_f (S := chS r) (b := b) (r := y)
      rw [hf.2.2.2.2.2.2.2.2.2.2.1, hf.2.2.2.2.2.2.2.1, hf.2.2.2.2.2.2.2.2.1]
      exact s.hdl y (.tail _ hy)
  · rcases hmem x hx with rfl | rfl | ⟨y, hy, rfl⟩
    · intro h; cases h
    · intro h; exact s.hdr r hr (by rw [s.hdl r hr]; exact h)
    · have hf := setPar_f (S := chS r) (b := b) (r := y)
      rw [hf.2.2.2.2.2.2.2.2.2.2.1, hf.2.2.2.2.2.2.2.1, hf.2.2.2.2.2.2.2.2.1, hf.2.2.2.2.2.2.2.2.2.2.2.1]
      exact s.hdr y (.tail _ hy)
  · rcases hmem x hx with rfl | rfl | ⟨y, hy, rfl⟩
    · intro p hp; cases hp
    · exact s.kv r hr
    · have hf := setPar_f (S := chS r) (b := b) (r := y)
      rw [hf.2.2.2.2.2.2.2.2.1]
      exact s.kv y (.tail _ hy)
end Bw

/- The shape of the router's tree: a child more. No program in sight. -/
namespace Bw
open Go Go.Proofs

variable {T T0 : List NR} {q : Nat → List Tok} {R : List En} {root : Nat}

def q2 (q : Nat → List Tok) (b : Nat) (p : List Tok) (a : Nat) : List Tok := if a = b then p else q a

theorem Sh.child (s : Sh T q R root) {x c x' : NR} {t : Nat} (hT : T.Perm (x :: T0)) (hR : R ≠ []) (hfr : ∀ y ∈ T, y.n ≠ c.n) (hadd : AddC t c.n x x') (hpar : c.par = some x.n) (hck : c.kids = [] ∧ c.pch = none ∧ c.ach = none) (hkd : c.kd = t)
    {tk : Tok} {tks : List Tok} (htk : tb (tk :: tks) = c.pre) (hkind : (t = 0 ∧ ∀ u ∈ tk :: tks, u.st) ∨ (t = 1 ∧ tk :: tks = [.P]) ∨ (t = 2 ∧ tk :: tks = [.A] ∧ c.pc = cnt (q x.n ++ [.A])))
    (hnew : ∀ d, Ch T x d → ¬ q x.n ++ [tk] <+: q d.n) (hx2 : x.kd ≠ 2) (hd1 : c.nf = none) (hd2 : c.f = fun _ => none) (hd3 : c.kv = []) (hlab : c.lab = tk.byte) (hhdl : c.hdl = false) (hleaf : c.leaf = true) :
    Sh (x'.reLeaf :: c :: T0) (q2 q c.n (q x.n ++ tk :: tks)) (⟨q x.n ++ tk :: tks, none⟩ :: R) root := by
  replace hfr : ∀ y ∈ x :: T0, y.n ≠ c.n := fun y hy => hfr y (hT.mem_iff.2 hy)
  replace hnew : ∀ d, Ch (x :: T0) x d → ¬ q x.n ++ [tk] <+: q d.n := fun d hd => hnew d (hd.perm hT.symm)
  replace s := s.perm hT
  have hx : x ∈ x :: T0 := .head _
  have hne := nodup_ne (.refl _) s.cl.nd
  have hself := s.cl.self x hx
  have hxc : x.n ≠ c.n := hfr x hx
  have hcp : c.pre ≠ [] := by rw [← htk]; simp [tb]
  have hpn : t = 1 → x.pch = none := fun h => by
    cases hp : x.pch with
    | none => rfl
    | some a =>
      exfalso
      obtain ⟨d, hd, e⟩ := s.cl.pch x hx a hp
      have h0 := s.pch x d hx hd (by rw [e]; exact hp)
      have : tk = .P := by rcases hkind with h | h | h <;> simp_all
      exact hnew d (.pa hx hd (by rw [e]; exact hp)) (by rw [h0.2.2.2, this]; exact List.prefix_rfl)
  have han : t = 2 → x.ach = none := fun h => by
    cases hp : x.ach with
    | none => rfl
    | some a =>
      exfalso
      obtain ⟨d, hd, e⟩ := s.cl.ach x hx a hp
      have h0 := s.ach x d hx hd (by rw [e]; exact hp)
      have : tk = .A := by rcases hkind with h | h | h <;> simp_all
      exact hnew d (.an hx hd (by rw [e]; exact hp)) (by rw [h0.2.2.2.1, this]; exact List.prefix_rfl)
  have hk : ∀ a, a ∈ x'.reLeaf.kids ↔ a ∈ x.kids ∨ (t = 0 ∧ a = c.n) := fun a => by
    cases hadd with
    | st e h => simp [NR.reLeaf, e]
    | par e => simp [NR.reLeaf, e]
    | any e => simp [NR.reLeaf, e]
  have hp : ∀ a, x'.reLeaf.pch = some a ↔ x.pch = some a ∨ (t = 1 ∧ a = c.n) := fun a => by
    cases hadd with
    | st e h => simp [NR.reLeaf, e]
    | par e => simp [NR.reLeaf, e, hpn e]; exact eq_comm
    | any e => simp [NR.reLeaf, e]
  have ha : ∀ a, x'.reLeaf.ach = some a ↔ x.ach = some a ∨ (t = 2 ∧ a = c.n) := fun a => by
    cases hadd with
    | st e h => simp [NR.reLeaf, e]
    | par e => simp [NR.reLeaf, e]
    | any e => simp [NR.reLeaf, e, han e]; exact eq_comm
  obtain ⟨fn, fpar, fpre, fkd, flab, ff, fkv, fnf, fhdl, fhdr, fpc⟩ : x'.reLeaf.n = x.n ∧ x'.reLeaf.par = x.par ∧ x'.reLeaf.pre = x.pre ∧ x'.reLeaf.kd = x.kd ∧ x'.reLeaf.lab = x.lab ∧ x'.reLeaf.f = x.f ∧ x'.reLeaf.kv = x.kv ∧ x'.reLeaf.nf = x.nf ∧ x'.reLeaf.hdl = x.hdl ∧ x'.reLeaf.hdr = x.hdr ∧ x'.reLeaf.pc = x.pc := by
    cases hadd <;> simp [NR.reLeaf]
  have fleaf : x'.reLeaf.leaf = (x'.reLeaf.kids.isEmpty && x'.reLeaf.pch.isNone && x'.reLeaf.ach.isNone) := rfl
  generalize x'.reLeaf = X at *
  have qc : q2 q c.n (q x.n ++ tk :: tks) c.n = q x.n ++ tk :: tks := by simp [q2]
  have qo : ∀ y ∈ x :: T0, q2 q c.n (q x.n ++ tk :: tks) y.n = q y.n := fun y hy => by simp [q2, hfr y hy]
  have qX : q2 q c.n (q x.n ++ tk :: tks) X.n = q x.n := by rw [fn]; exact qo x hx
  have hcn : ∀ y ∈ x :: T0, c.n ∉ y.kids ∧ y.pch ≠ some c.n ∧ y.ach ≠ some c.n := fun y hy => by
    refine ⟨fun h => ?_, fun h => ?_, fun h => ?_⟩
    · obtain ⟨z, hz, e⟩ := s.cl.kids y hy _ h; exact hfr z hz e
    · obtain ⟨z, hz, e⟩ := s.cl.pch y hy _ h; exact hfr z hz e
    · obtain ⟨z, hz, e⟩ := s.cl.ach y hy _ h; exact hfr z hz e
  have hmem : ∀ z ∈ X :: c :: T0, z = X ∨ z = c ∨ z ∈ T0 := fun z hz => by simpa using hz
  have hoM : ∀ y ∈ T0, y ∈ X :: c :: T0 := fun y hy => .tail _ (.tail _ hy)
  have himg : ∀ y ∈ x :: T0, ∃ y' ∈ X :: c :: T0, y'.n = y.n := fun y hy => by
    rcases List.mem_cons.1 hy with h | h
    · exact ⟨X, .head _, by rw [fn, h]⟩
    · exact ⟨y, hoM y h, rfl⟩
  -- an old node and its new self
  have hold : ∀ z ∈ X :: c :: T0, z ≠ c → ∃ y ∈ x :: T0, y.n = z.n ∧ y.kd = z.kd ∧ y.par = z.par ∧ y.pre = z.pre ∧ y.lab = z.lab ∧ (z = X ∧ y = x ∨ z = y ∧ z ∈ T0) := fun z hz hzc => by
    rcases hmem z hz with h | h | h
    · exact ⟨x, hx, by rw [h, fn], by rw [h, fkd], by rw [h, fpar], by rw [h, fpre], by rw [h, flab], .inl ⟨h, rfl⟩⟩
    · exact absurd h hzc
    · exact ⟨z, .tail _ h, rfl, rfl, rfl, rfl, rfl, .inr ⟨rfl, h⟩⟩
  have hcne : ∀ z ∈ X :: c :: T0, z.n ≠ c.n → z ≠ c := fun z _ h e => h (by rw [e])
  have hnodc : ∀ e ∈ R, e.tk ≠ q x.n ++ tk :: tks := fun e he h => by
    obtain ⟨y, hy, e2⟩ := s.ent e he
    obtain ⟨d, h1, h2, _⟩ := s.next hx hy (t := tk) (by rw [e2, h]; exact ⟨tks, by simp⟩)
    exact hnew d h1 h2
  have hxhd : (q x.n).head? = some (.b 47) ∨ q x.n = [] := by
    obtain ⟨e0, he0, hp0⟩ := s.inh hR x hx
    have hh := s.hd e0 he0
    cases hq : q x.n with
    | nil => exact .inr rfl
    | cons a l => rw [hq] at hp0; obtain ⟨u, hu⟩ := hp0; rw [← hu] at hh; exact .inl hh
  have hxne : q x.n ≠ [] := by
    obtain ⟨rt, h3, h4, h5, h6, h7, h8, h9⟩ := s.rt
    have := s.rch_pre (s.reach x hx)
    intro e0
    rw [e0, List.prefix_nil, h8] at this
    exact h9 hR (by simpa [bs] using this)
  refine ⟨⟨fun z hz a h => ?_, fun z hz a h => ?_, fun z hz a h => ?_, fun z hz => ?_, ?_⟩, fun z d hz hd h => ?_, fun z d hz hd h => ?_, fun z d hz hd h => ?_, ?_, fun h => (by cases h), fun z d d' hz hd hd' e1 e2 e3 => ?_,
    fun z hz _ => ?_, fun z hz => ?_, fun e he => ?_, fun e he => ?_, fun _ z hz => ?_, fun z hz m => ?_, fun z hz hk1 => ?_, fun z hz => ?_, fun z hz => ?_, fun z hz => ?_⟩
  · rcases hmem z hz with rfl | rfl | hz'
    · rcases (hk a).1 h with h | ⟨_, rfl⟩
      · obtain ⟨y, hy, e⟩ := s.cl.kids x hx a h; obtain ⟨y', h3, h4⟩ := himg y hy; exact ⟨y', h3, h4.trans e⟩
      · exact ⟨c, .tail _ (.head _), rfl⟩
    · rw [hck.1] at h; cases h
    · obtain ⟨y, hy, e⟩ := s.cl.kids z (.tail _ hz') a h; obtain ⟨y', h3, h4⟩ := himg y hy; exact ⟨y', h3, h4.trans e⟩
  · rcases hmem z hz with rfl | rfl | hz'
    · rcases (hp a).1 h with h | ⟨_, rfl⟩
      · obtain ⟨y, hy, e⟩ := s.cl.pch x hx a h; obtain ⟨y', h3, h4⟩ := himg y hy; exact ⟨y', h3, h4.trans e⟩
      · exact ⟨c, .tail _ (.head _), rfl⟩
    · rw [hck.2.1] at h; cases h
    · obtain ⟨y, hy, e⟩ := s.cl.pch z (.tail _ hz') a h; obtain ⟨y', h3, h4⟩ := himg y hy; exact ⟨y', h3, h4.trans e⟩
  · rcases hmem z hz with rfl | rfl | hz'
    · rcases (ha a).1 h with h | ⟨_, rfl⟩
      · obtain ⟨y, hy, e⟩ := s.cl.ach x hx a h; obtain ⟨y', h3, h4⟩ := himg y hy; exact ⟨y', h3, h4.trans e⟩
      · exact ⟨c, .tail _ (.head _), rfl⟩
    · rw [hck.2.2] at h; cases h
    · obtain ⟨y, hy, e⟩ := s.cl.ach z (.tail _ hz') a h; obtain ⟨y', h3, h4⟩ := himg y hy; exact ⟨y', h3, h4.trans e⟩
  · rcases hmem z hz with rfl | rfl | hz'
    · rw [fn]
      refine ⟨fun h => ?_, fun h => ?_, fun h => ?_⟩
      · rcases (hk _).1 h with h | ⟨_, h⟩
        · exact hself.1 h
        · exact hxc h
      · rcases (hp _).1 h with h | ⟨_, h⟩
        · exact hself.2.1 h
        · exact hxc h
      · rcases (ha _).1 h with h | ⟨_, h⟩
        · exact hself.2.2 h
        · exact hxc h
    · rw [hck.1, hck.2.1, hck.2.2]; simp
    · exact s.cl.self z (.tail _ hz')
  · have hnd := s.cl.nd
    rw [List.map_cons, List.nodup_cons] at hnd
    simp only [List.map_cons, fn]
    refine List.nodup_cons.2 ⟨fun h => ?_, List.nodup_cons.2 ⟨fun h => ?_, hnd.2⟩⟩
    · rcases List.mem_cons.1 h with h | h
      · exact hxc h
      · exact hnd.1 h
    · obtain ⟨y, hy, e⟩ := List.mem_map.1 h; exact hfr y (.tail _ hy) e
  · -- kid
    rcases hmem z hz with rfl | rfl | hz'
    · rcases (hk _).1 h with h | ⟨h0, h1⟩
      · have hdc : d ≠ c := fun e => (hcn x hx).1 (e ▸ h)
        obtain ⟨y, hy, e1, e2, e3, e4, _⟩ := hold d hd hdc
        have h5 := s.kid x y hx hy (by rw [e1]; exact h)
        rw [← e2, ← e3, ← e4, ← e1, qo y hy, qX, fn]; exact h5
      · have hdc : d = c := by
          rcases hmem d hd with h | h | h
          · rw [h, fn] at h1; exact absurd h1 hxc
          · exact h
          · exact absurd h1 (hfr d (.tail _ h))
        subst hdc
        rw [fn, qo x hx, qc]
        have hst : ∀ u ∈ tk :: tks, u.st := by rcases hkind with h | h | h <;> first | exact h.2 | (exfalso; omega)
        refine ⟨by rw [hkd, h0], hpar, hcp, ?_, ?_⟩
        · rw [← htk]; intro b hb
          obtain ⟨u, hu, rfl⟩ := List.mem_map.1 hb
          have := hst u hu
          cases u <;> simp_all [Tok.st, Tok.byte]
        · congr 1
          rw [← htk]
          have : ∀ l : List Tok, (∀ u ∈ l, u.st) → l = bs (tb l) := by
            intro l hl
            induction l with
            | nil => rfl
            | cons a l ih =>
              have h2 := hl a (.head _)
              have h3 := ih fun u hu => hl u (.tail _ hu)
              cases a with
              | b c => exact congrArg (Tok.b c :: ·) h3
              | P => exact h2.elim
              | A => exact h2.elim
          exact this _ hst
    · rw [hck.1] at h; cases h
    · have hdc : d ≠ c := fun e => (hcn z (.tail _ hz')).1 (e ▸ h)
      obtain ⟨y, hy, e1, e2, e3, e4, _⟩ := hold d hd hdc
      have h5 := s.kid z y (.tail _ hz') hy (by rw [e1]; exact h)
      rw [← e2, ← e3, ← e4, ← e1, qo y hy, qo z (.tail _ hz')]; exact h5
  · -- pch
    rcases hmem z hz with rfl | rfl | hz'
    · rcases (hp _).1 h with h | ⟨h0, h1⟩
      · have hdc : d ≠ c := fun e => (hcn x hx).2.1 (e ▸ h)
        obtain ⟨y, hy, e1, e2, e3, e4, _⟩ := hold d hd hdc
        have h5 := s.pch x y hx hy (by rw [e1]; exact h)
        rw [← e2, ← e3, ← e4, ← e1, qo y hy, qX, fn]; exact h5
      · have hdc : d = c := by
          rcases hmem d hd with h | h | h
          · rw [h, fn] at h1; exact absurd h1 hxc
          · exact h
          · exact absurd h1 (hfr d (.tail _ h))
        subst hdc
        rw [fn, qo x hx, qc]
        have hP : tk :: tks = [.P] := by rcases hkind with h | h | h <;> first | exact h.2 | (exfalso; omega)
        exact ⟨by rw [hkd, h0], hpar, by rw [← htk, hP]; rfl, by rw [hP]⟩
    · rw [hck.2.1] at h; cases h
    · have hdc : d ≠ c := fun e => (hcn z (.tail _ hz')).2.1 (e ▸ h)
      obtain ⟨y, hy, e1, e2, e3, e4, _⟩ := hold d hd hdc
      have h5 := s.pch z y (.tail _ hz') hy (by rw [e1]; exact h)
      rw [← e2, ← e3, ← e4, ← e1, qo y hy, qo z (.tail _ hz')]; exact h5
  · -- ach
    have fin : ∀ (x0 : NR), x0 ∈ x :: T0 → ∀ y ∈ x :: T0, x0.ach = some y.n → y ≠ x := fun x0 hx0 y hy hh e => hx2 (by have := (s.ach x0 y hx0 hy hh).1; rw [e] at this; exact this)
    rcases hmem z hz with rfl | rfl | hz'
    · rcases (ha _).1 h with h | ⟨h0, h1⟩
      · have hdc : d ≠ c := fun e => (hcn x hx).2.2 (e ▸ h)
        obtain ⟨y, hy, e1, e2, e3, e4, e5, e6⟩ := hold d hd hdc
        have h5 := s.ach x y hx hy (by rw [e1]; exact h)
        rcases e6 with ⟨_, e6⟩ | ⟨e6, _⟩
        · exact absurd e6 (fin x hx y hy (by rw [e1]; exact h))
        · rw [e6, qo y hy, qX, fn]; exact h5
      · have hdc : d = c := by
          rcases hmem d hd with h | h | h
          · rw [h, fn] at h1; exact absurd h1 hxc
          · exact h
          · exact absurd h1 (hfr d (.tail _ h))
        subst hdc
        rw [fn, qo x hx, qc]
        have hP : tk :: tks = [.A] ∧ d.pc = cnt (q x.n ++ [.A]) := by rcases hkind with h | h | h <;> first | exact h.2 | (exfalso; omega)
        exact ⟨by rw [hkd, h0], hpar, by rw [← htk, hP.1]; rfl, by rw [hP.1], hck.1, hck.2.1, hck.2.2, by rw [hP.1]; exact hP.2⟩
    · rw [hck.2.2] at h; cases h
    · have hdc : d ≠ c := fun e => (hcn z (.tail _ hz')).2.2 (e ▸ h)
      obtain ⟨y, hy, e1, e2, e3, e4, e5, e6⟩ := hold d hd hdc
      have h5 := s.ach z y (.tail _ hz') hy (by rw [e1]; exact h)
      rcases e6 with ⟨_, e6⟩ | ⟨e6, _⟩
      · exact absurd e6 (fin z (.tail _ hz') y hy (by rw [e1]; exact h))
      · rw [e6, qo y hy, qo z (.tail _ hz')]; exact h5
  · obtain ⟨rt, g1, g2, g3, g4, g5, g6, g7⟩ := s.rt
    rcases List.mem_cons.1 g1 with h | h
    · subst h
      exact ⟨X, .head _, by rw [fn, g2], by rw [fpar, g3], by rw [fkd, g4], by rw [fpre]; exact g5, by rw [← g2, qo rt hx, g2, fpre]; exact g6, fun _ => by rw [fpre]; exact g7 hR⟩
    · exact ⟨rt, hoM rt h, g2, g3, g4, g5, by rw [← g2, qo rt g1, g2]; exact g6, fun _ => g7 hR⟩
  · -- labels
    have main : ∀ y ∈ x :: T0, d ≠ c → d' ≠ c → d.n ∈ y.kids → d'.n ∈ y.kids → d.n = d'.n := by
      intro y hy n1 n2 h1 h2
      obtain ⟨a, b1, b2, _, _, _, b6, _⟩ := hold d hd n1
      obtain ⟨a', b1', b2', _, _, _, b6', _⟩ := hold d' hd' n2
      rw [← b2, ← b2']
      exact s.dl y a a' hy b1 b1' (by rw [b2]; exact h1) (by rw [b2']; exact h2) (by rw [b6, b6']; exact e3)
    have mix : ∀ u ∈ X :: c :: T0, u ≠ c → u.n ∈ x.kids → u.lab = c.lab → False := by
      intro u hu n1 h1 h2
      obtain ⟨a, b1, b2, _, _, _, b6, _⟩ := hold u hu n1
      obtain ⟨t', l', w1, w2, w3, w4, _⟩ := s.ch (.st hx b1 (by rw [b2]; exact h1) : Ch (x :: T0) x a)
      have hcl : a.lab = tk.byte := by rw [b6, h2, hlab]
      have hkk := s.kid x a hx b1 (by rw [b2]; exact h1)
      have htok : tk.ok := by
        rcases hkind with h | h | h
        · exact (h.2 tk (.head _)).ok
        · have := h.2; simp only [List.cons.injEq] at this; rw [this.1]; trivial
        · have := h.2.1; simp only [List.cons.injEq] at this; rw [this.1]; trivial
      have : t' = tk := Tok.byte_inj w3 htok (by rw [w2, hcl])
      subst this
      exact hnew a (.st hx b1 (by rw [b2]; exact h1)) (by rw [w1]; exact ⟨l', by simp⟩)
    rcases hmem z hz with rfl | rfl | hz'
    · by_cases n1 : d = c
      · by_cases n2 : d' = c
        · rw [n1, n2]
        · exfalso
          rcases (hk _).1 e2 with h | ⟨_, h⟩
          · exact mix d' hd' n2 h (by rw [← e3, n1])
          · rcases hmem d' hd' with h' | h' | h'
            · rw [h', fn] at h; exact hxc h
            · exact n2 h'
            · exact hfr d' (.tail _ h') h
      · by_cases n2 : d' = c
        · exfalso
          rcases (hk _).1 e1 with h | ⟨_, h⟩
          · exact mix d hd n1 h (by rw [e3, n2])
          · rcases hmem d hd with h' | h' | h'
            · rw [h', fn] at h; exact hxc h
            · exact n1 h'
            · exact hfr d (.tail _ h') h
        · have hh : ∀ u ∈ z :: c :: T0, u ≠ c → u.n ∈ z.kids → u.n ∈ x.kids := fun u hu nu h => by
            rcases (hk _).1 h with h | ⟨_, h⟩
            · exact h
            · exfalso
              rcases hmem u hu with h' | h' | h'
              · rw [h', fn] at h; exact hxc h
              · exact nu h'
              · exact hfr u (.tail _ h') h
          exact main x hx n1 n2 (hh d hd n1 e1) (hh d' hd' n2 e2)
    · rw [hck.1] at e1; cases e1
    · exact main z (.tail _ hz') (fun e => (hcn z (.tail _ hz')).1 (e ▸ e1)) (fun e => (hcn z (.tail _ hz')).1 (e ▸ e2)) e1 e2
  · rename_i hnn
    rcases hmem z hz with rfl | rfl | hz'
    · rw [flab, fpre]; exact s.lab x hx (by rw [← fpre]; exact hnn)
    · rw [hlab, ← htk]; rfl
    · exact s.lab z (.tail _ hz') hnn
  · -- reach
    have hXc : Ch (X :: c :: T0) X c := by
      rcases hkind with h | h | h
      · exact .st (.head _) (.tail _ (.head _)) ((hk _).2 (.inr ⟨h.1, rfl⟩))
      · exact .pa (.head _) (.tail _ (.head _)) ((hp _).2 (.inr ⟨h.1, rfl⟩))
      · exact .an (.head _) (.tail _ (.head _)) ((ha _).2 (.inr ⟨h.1, rfl⟩))
    have key : ∀ a, Rch (x :: T0) root a → Rch (X :: c :: T0) root a := by
      intro a ha'
      induction ha' with
      | refl => exact .refl
      | @step y d _ hc ih =>
        obtain ⟨d', h3, h4⟩ := himg d hc.r
        rw [← h4]
        rcases List.mem_cons.1 hc.l with h | h
        · subst h
          refine .step (x := X) (by rw [fn]; exact ih) ?_
          cases hc with
          | st _ _ h => exact .st (.head _) h3 ((hk _).2 (.inl (by rw [h4]; exact h)))
          | pa _ _ h => exact .pa (.head _) h3 ((hp _).2 (.inl (by rw [h4]; exact h)))
          | an _ _ h => exact .an (.head _) h3 ((ha _).2 (.inl (by rw [h4]; exact h)))
        · refine .step (x := y) ih ?_
          cases hc with
          | st _ _ h' => exact .st (hoM y h) h3 (by rw [h4]; exact h')
          | pa _ _ h' => exact .pa (hoM y h) h3 (by rw [h4]; exact h')
          | an _ _ h' => exact .an (hoM y h) h3 (by rw [h4]; exact h')
    rcases hmem z hz with rfl | rfl | hz'
    · rw [fn]; exact key x.n (s.reach x hx)
    · exact .step (x := X) (by rw [fn]; exact key x.n (s.reach x hx)) hXc
    · exact key z.n (s.reach z (.tail _ hz'))
  · rcases List.mem_cons.1 he with rfl | he
    · show (q x.n ++ tk :: tks).head? = _
      rcases hxhd with h | h
      · cases hq : q x.n with
        | nil => exact absurd hq hxne
        | cons a l => rw [hq] at h; exact h
      · exact absurd h hxne
    · exact s.hd e he
  · rcases List.mem_cons.1 he with rfl | he
    · exact ⟨c, .tail _ (.head _), qc⟩
    · obtain ⟨y, hy, e2⟩ := s.ent e he
      rcases List.mem_cons.1 hy with h | h
      · exact ⟨X, .head _, by rw [qX, ← h]; exact e2⟩
      · exact ⟨y, hoM y h, by rw [qo y hy]; exact e2⟩
  · rcases hmem z hz with rfl | rfl | hz'
    · obtain ⟨e, he, h⟩ := s.inh hR x hx; exact ⟨e, .tail _ he, by rw [qX]; exact h⟩
    · exact ⟨_, .head _, by rw [qc]; exact List.prefix_rfl⟩
    · obtain ⟨e, he, h⟩ := s.inh hR z (.tail _ hz'); exact ⟨e, .tail _ he, by rw [qo z (.tail _ hz')]; exact h⟩
  · show Bw.dat z m = lookR R m _
    rcases hmem z hz with rfl | rfl | hz'
    · rw [qX, ← s.dat x hx m]; simp only [Bw.dat, ff, fkv, fnf]
    · rw [qc, lookR_none hnodc]
      simp only [Bw.dat, hd1, hd2, hd3]
      split
      · rfl
      · unfold getM; split <;> rfl
    · rw [qo z (.tail _ hz')]; exact s.dat z (.tail _ hz') m
  · rcases hmem z hz with rfl | rfl | hz'
    · exact fleaf
    · rw [hleaf, hck.1, hck.2.1, hck.2.2]; rfl
    · exact s.leaf z (.tail _ hz') hk1
  · rcases hmem z hz with rfl | rfl | hz'
    · rw [fhdl, ff, fkv]; exact s.hdl x hx
    · rw [hhdl, hd2, hd3]; rfl
    · exact s.hdl z (.tail _ hz')
  · rcases hmem z hz with rfl | rfl | hz'
    · rw [fhdl, ff, fkv, fhdr]; exact s.hdr x hx
    · rw [hhdl]; intro h; cases h
    · exact s.hdr z (.tail _ hz')
  · rcases hmem z hz with rfl | rfl | hz'
    · rw [fkv]; exact s.kv x hx
    · rw [hd3]; intro p hp; cases hp
    · exact s.kv z (.tail _ hz')
end Bw

/- insertNode keeps the shape. No program in sight. -/
namespace Bw
open Go Go.Proofs

variable {T T0 : List NR} {q : Nat → List Tok} {R : List En} {root : Nat}

theorem stdIx_lt {m : List UInt8} {i : Nat} (h : stdIx m = some i) : i < 11 := by
  unfold stdIx at h
  repeat' (split at h; · simp only [Option.some.injEq] at h; omega)
  cases h

theorem isH_add (f : Nat → Option Nat) (kv : AL) (m : List UInt8) (h : Nat) : isH (addF f m h) (addKV kv m h) = true := by
  unfold addF addKV
  cases hm : stdIx m with
  | some i =>
    have := stdIx_lt hm
    have h10 : i = 0 ∨ i = 1 ∨ i = 2 ∨ i = 3 ∨ i = 4 ∨ i = 5 ∨ i = 6 ∨ i = 7 ∨ i = 8 ∨ i = 9 ∨ i = 10 := by omega
    rcases h10 with rfl | rfl | rfl | rfl | rfl | rfl | rfl | rfl | rfl | rfl | rfl <;> simp [isH]
  | none =>
    have : (aPut kv m h).isEmpty = false := by
      cases kv with
      | nil => rfl
      | cons p r => obtain ⟨k, v⟩ := p; simp only [aPut]; split <;> rfl
    simp [isH, this]

/-- what addMethod does to what stands in a node -/
structure DS (r r' : NR) : Prop where
  f : r'.f = r.f
  kv : r'.kv = r.kv
  nf : r'.nf = r.nf
  hdl : r'.hdl = r.hdl
  hdr : r'.hdr = r.hdr
theorem DS.dat {r r' : NR} (h : DS r r') (m) : Bw.dat r' m = Bw.dat r m := by simp only [Bw.dat, h.f, h.kv, h.nf]

theorem AddO.ss {h hp meth r r1} (a : AddO h hp meth r r1) : SS r r1 ∧ r1.leaf = r.leaf ∧ r1.pc = r.pc := by
  rcases a with ⟨_, rfl⟩ | ⟨_, a⟩
  · exact ⟨.refl _, rfl, rfl⟩
  · cases a <;> exact ⟨⟨rfl, rfl, rfl, rfl, rfl, rfl, rfl, rfl⟩, rfl, rfl⟩

theorem AddO.facts {h hp meth r r1} (a : AddO h hp meth r r1) (h1 : r.hdl = isH r.f r.kv) (h2 : r.hdl = true → Hdr r.f r.kv r.hdr) (h3 : ∀ p ∈ r.kv, stdIx p.1 = none ∧ p.1 ≠ nfName) :
    r1.hdl = isH r1.f r1.kv ∧ (r1.hdl = true → Hdr r1.f r1.kv r1.hdr) ∧ (∀ p ∈ r1.kv, stdIx p.1 = none ∧ p.1 ≠ nfName) ∧ ∀ m, Bw.dat r1 m = if hp.isSome = true ∧ meth = m then some h else Bw.dat r m := by
  rcases a with ⟨rfl, rfl⟩ | ⟨hs, a⟩
  · exact ⟨h1, h2, h3, fun m => by simp⟩
  · refine ⟨?_, ?_, ?_, fun m => by rw [dat_add a]; simp [hs]⟩
    · cases a with
      | nf e => exact h1
      | mk e m1 m2 => exact (isH_add _ _ _ _).symm
    · cases a with
      | nf e => exact h2
      | mk e m1 m2 => exact fun _ => m2
    · cases a with
      | nf e => exact h3
      | mk e m1 m2 =>
        intro p hp
        simp only [addKV] at hp
        split at hp
        · exact h3 p hp
        · rename_i hn
          rcases aPut_mem _ _ _ _ hp with h4 | ⟨z, h4, h5⟩
          · rw [h4]; exact ⟨hn, e⟩
          · rw [← h5]; exact h3 z h4

theorem SS.trans {a b c : NR} (h : SS a b) (k : SS b c) : SS a c := ⟨k.n.trans h.n, k.par.trans h.par, k.pch.trans h.pch, k.ach.trans h.ach, k.pre.trans h.pre, k.kids.trans h.kids, k.kd.trans h.kd, k.lab.trans h.lab⟩

theorem Sh.put (s : Sh T q R root) {r r1 r' : NR} {h : Nat} {hp : Option Nat} {meth : List UInt8} {toks : List Tok} (hT : T.Perm (r :: T0)) (hR : R ≠ []) (ha : AddO h hp meth r r1) (hss : SS r1 r') (hds : DS r1 r')
    (hleaf : r.kd = 1 → r'.leaf = (r.kids.isEmpty && r.pch.isNone && r.ach.isNone)) (hpc : r.kd = 2 → r'.pc = cnt (q r.n)) (hq : q r.n = toks) :
    Sh (r' :: T0) q (⟨toks, hp.map fun _ => (meth, h)⟩ :: ⟨toks, none⟩ :: R) root := by
  have hr : r ∈ T := hT.mem_iff.2 (.head _)
  obtain ⟨f1, f2, f3, f4⟩ := ha.facts (s.hdl r hr) (s.hdr r hr) (s.kv r hr)
  have s1 := s.upd hT (.refl r) hR (R' := ⟨toks, none⟩ :: R) (.inr ⟨_, rfl, hq.symm⟩) (fun m => by rw [s.dat r hr m]; rfl) (s.leaf r hr) (s.hdl r hr) (s.hdr r hr) (s.kv r hr) (fun hk => by
    rcases s.up hr with h1 | ⟨x, h1⟩
    · obtain ⟨rt, g1, g2, _, g4, _⟩ := s.rt
      rw [uniq s.cl.nd hr g1 (h1.trans g2.symm)] at hk; omega
    · cases h1 with
      | st hx hc h => have := (s.kid x r hx hc h).1; omega
      | pa hx hc h => have := (s.pch x r hx hc h).1; omega
      | an hx hc h => exact (s.ach x r hx hc h).2.2.2.2.2.2.2)
  refine s1.upd (.refl _) (ha.ss.1.trans hss) (by simp) (.inr ⟨_, rfl, hq.symm⟩) (fun m => ?_) hleaf (by rw [hds.hdl, hds.f, hds.kv]; exact f1) (by rw [hds.hdl, hds.f, hds.kv, hds.hdr]; exact f2) (by rw [hds.kv]; exact f3) hpc
  rw [hds.dat, f4, s.dat r hr m, hq]
  cases hp with
  | none => simp [lookR]
  | some v => simp [lookR]

theorem NR.po_ss {r : NR} {hp np pp} : SS r (r.po hp np pp) ∧ DS r (r.po hp np pp) ∧ (r.po hp np pp).leaf = r.leaf ∧ (r.po hp np pp).pc = if hp.isSome then np else r.pc := by
  unfold NR.po; split <;> exact ⟨⟨rfl, rfl, rfl, rfl, rfl, rfl, rfl, rfl⟩, ⟨rfl, rfl, rfl, rfl, rfl⟩, rfl, rfl⟩
theorem NR.pn_ss {r : NR} {hp np} : SS r (r.pn hp np) ∧ DS r (r.pn hp np) ∧ (r.pn hp np).leaf = r.leaf ∧ (r.pn hp np).pc = if hp.isSome then np else r.pc := by
  unfold NR.pn; split <;> exact ⟨⟨rfl, rfl, rfl, rfl, rfl, rfl, rfl, rfl⟩, ⟨rfl, rfl, rfl, rfl, rfl⟩, rfl, rfl⟩
theorem NR.reLeaf_ss {r : NR} : SS r r.reLeaf ∧ DS r r.reLeaf ∧ r.reLeaf.pc = r.pc := ⟨⟨rfl, rfl, rfl, rfl, rfl, rfl, rfl, rfl⟩, ⟨rfl, rfl, rfl, rfl, rfl⟩, rfl⟩
theorem DS.trans {a b c : NR} (h : DS a b) (k : DS b c) : DS a c := ⟨k.f.trans h.f, k.kv.trans h.kv, k.nf.trans h.nf, k.hdl.trans h.hdl, k.hdr.trans h.hdr⟩
theorem AddO.pn {h hp meth np r r1} (a : AddO h hp meth r r1) : AddO h hp meth (r.pn hp np) (r1.pn hp np) := by
  rcases a with ⟨rfl, rfl⟩ | ⟨hs, a⟩
  · exact .inl ⟨rfl, rfl⟩
  · refine .inr ⟨hs, ?_⟩
    simp only [NR.pn, hs, if_true]
    cases a with
    | nf e => exact .nf e
    | mk e m1 m2 => exact .mk (r := { r with pc := np }) e m1 m2

/-! ### texts and tokens -/
theorem tb_take {a b : List Tok} (ha : ∀ u ∈ a, u.ok) (hb : ∀ u ∈ b, u.ok) : a.take (lcp (tb a) (tb b)) = b.take (lcp (tb a) (tb b)) := by
  induction a generalizing b with
  | nil => simp [tb, lcp]
  | cons x a ih =>
    cases b with
    | nil => simp [tb, lcp_nil_r]
    | cons y b =>
      simp only [tb, List.map_cons, lcp]
      split
      · rename_i e
        have : x = y := Tok.byte_inj (ha x (.head _)) (hb y (.head _)) e
        have h2 := ih (b := b) (fun u hu => ha u (.tail _ hu)) (fun u hu => hb u (.tail _ hu))
        simp only [tb] at h2
        simp [this, h2]
      · simp

theorem tb_bs_eq {l : List Tok} {p : List UInt8} (h : tb l = p) (hp : okB p) : l = bs p := by
  induction l generalizing p with
  | nil => subst h; rfl
  | cons x l ih =>
    subst h
    have hx := hp x.byte (by simp [tb])
    have h2 := ih (p := tb l) rfl fun c hc => hp c (by simp only [tb, List.map_cons] at hc ⊢; exact .tail _ hc)
    cases x with
    | b c => simp only [tb, bs, List.map_cons, Tok.byte] at h2 ⊢; rw [← h2]
    | P => exact absurd rfl hx.1
    | A => exact absurd rfl hx.2

theorem Sh.xt (s : Sh T q R root) {x : NR} (hx : x ∈ T) (hk : x.kd ≠ 0) : x.pre.length = 1 := by
  rcases s.up hx with h1 | ⟨y, h1⟩
  · obtain ⟨rt, g1, g2, _, g4, _⟩ := s.rt
    rw [uniq s.cl.nd hx g1 (h1.trans g2.symm)] at hk; exact absurd g4 hk
  · cases h1 with
    | st hy hc h => exact absurd (s.kid y x hy hc h).1 hk
    | pa hy hc h => rw [(s.pch y x hy hc h).2.2.1]; rfl
    | an hy hc h => rw [(s.ach y x hy hc h).2.2.1]; rfl

theorem Sh.fcl_some (s : Sh T q R root) {x : NR} (hx : x ∈ T) {u : Tok} (hu : u.ok) {c : Nat} (h : fcl (x.kids.map fun a => (a, lbl T a)) x.pch x.ach u.byte = some c) : ∃ d, Ch T x d ∧ d.n = c ∧ q x.n ++ [u] <+: q d.n := by
  have main : ∀ d, Ch T x d → d.lab = u.byte → q x.n ++ [u] <+: q d.n := fun d hd e => by
    obtain ⟨t, l, e1, e2, e3, _⟩ := s.ch hd
    have : t = u := Tok.byte_inj e3 hu (by rw [e2, e])
    rw [e1, this]; exact ⟨l, by simp⟩
  unfold fcl at h
  cases hf : (x.kids.map fun a => (a, lbl T a)).find? (fun p => p.2 == u.byte) with
  | some p =>
    rw [hf] at h
    simp only [Option.some.injEq] at h
    obtain ⟨a, ha, rfl⟩ := List.mem_map.1 (List.mem_of_find?_eq_some hf)
    obtain ⟨d, hd, e⟩ := s.cl.kids x hx a ha
    have h2 := List.find?_some hf
    simp only [beq_iff_eq] at h2
    have hc : Ch T x d := .st hx hd (by rw [e]; exact ha)
    exact ⟨d, hc, by rw [e]; exact h, main d hc (by rw [← lbl_of s.cl.nd hd, e]; exact h2)⟩
  | none =>
    rw [hf] at h
    simp only at h
    split at h
    · rename_i e58
      obtain ⟨d, hd, e⟩ := s.cl.pch x hx c h
      have h4 := s.pch x d hx hd (by rw [e]; exact h)
      have : u = .P := Tok.byte_inj hu (t := .P) trivial e58
      exact ⟨d, .pa hx hd (by rw [e]; exact h), e, by rw [h4.2.2.2, this]; exact List.prefix_rfl⟩
    · split at h
      · rename_i e42
        obtain ⟨d, hd, e⟩ := s.cl.ach x hx c h
        have h4 := s.ach x d hx hd (by rw [e]; exact h)
        have : u = .A := Tok.byte_inj hu (t := .A) trivial e42
        exact ⟨d, .an hx hd (by rw [e]; exact h), e, by rw [h4.2.2.2.1, this]; exact List.prefix_rfl⟩
      · cases h

theorem Sh.fcl_none (s : Sh T q R root) {x : NR} {u : Tok} (h : fcl (x.kids.map fun a => (a, lbl T a)) x.pch x.ach u.byte = none) : ∀ d, Ch T x d → ¬ q x.n ++ [u] <+: q d.n := by
  intro d hd hp
  obtain ⟨t, l, e1, e2, e3, _⟩ := s.ch hd
  have htu : t = u := by
    rw [e1] at hp
    have := (List.prefix_append_right_inj _).1 hp
    simpa using (List.cons_prefix_cons.1 this).1.symm
  subst htu
  unfold fcl at h
  cases hf : (x.kids.map fun a => (a, lbl T a)).find? (fun p => p.2 == t.byte) with
  | some p => rw [hf] at h; cases h
  | none =>
    rw [hf] at h
    simp only at h
    cases hd with
    | st hx hc hk =>
      have := List.find?_eq_none.1 hf (d.n, lbl T d.n) (List.mem_map.2 ⟨d.n, hk, rfl⟩)
      rw [lbl_of s.cl.nd hc, ← e2] at this
      simp at this
    | pa hx hc hk =>
      have h4 := (s.pch x d hx hc hk).2.2.2
      rw [e1] at h4
      have := List.append_cancel_left h4
      simp only [List.cons.injEq] at this
      rw [this.1] at h; simp [Tok.byte, hk] at h
    | an hx hc hk =>
      have h4 := (s.ach x d hx hc hk).2.2.2.1
      rw [e1] at h4
      have := List.append_cancel_left h4
      simp only [List.cons.injEq] at this
      rw [this.1] at h; simp [Tok.byte, hk] at h

/-- what may be inserted -/
structure Pre (T : List NR) (q : Nat → List Tok) (t : Nat) (hp : Option Nat) (np : Nat) (toks : List Tok) : Prop where
  ok : ∀ u ∈ toks, u.ok
  hd : toks.head? = some (.b 47)
  A : ∀ p r, toks = p ++ .A :: r → r = []
  pos : ∀ p u r, toks = p ++ u :: r → ¬ u.st → (∃ y ∈ T, q y.n = p ++ [u]) ∨ (r = [] ∧ (∃ y ∈ T, q y.n = p) ∧ (t = 1 ∧ u = .P ∨ t = 2 ∧ u = .A))
  k1 : t = 1 → ∃ p, toks = p ++ [.P]
  k2 : t = 2 → ∃ p, toks = p ++ [.A]
  t3 : t < 3
  np : hp.isSome = true → np = cnt toks
  h2 : t = 2 → hp.isSome = true
end Bw

/- insertNode keeps the shape: the theorem. No program in sight. -/
namespace Bw
open Go Go.Proofs

variable {T : List NR} {q : Nat → List Tok} {R : List En} {root : Nat}

theorem Sh.reR (s : Sh T q R root) {R' : List En} (h1 : ∀ e' ∈ R', ∃ e ∈ R, e.tk = e'.tk) (h2 : ∀ e ∈ R, ∃ e' ∈ R', e'.tk = e.tk) (h3 : ∀ m p, lookR R' m p = lookR R m p) : Sh T q R' root := by
  have hne : R' = [] ↔ R = [] := by
    constructor
    · intro h; cases R with
      | nil => rfl
      | cons e R => obtain ⟨e', he', _⟩ := h2 e (.head _); rw [h] at he'; cases he'
    · intro h; cases R' with
      | nil => rfl
      | cons e R' => obtain ⟨e', he', _⟩ := h1 e (.head _); rw [h] at he'; cases he'
  exact {
    cl := s.cl, kid := s.kid, pch := s.pch, ach := s.ach
    rt := by obtain ⟨r, a1, a2, a3, a4, a5, a6, a7⟩ := s.rt; exact ⟨r, a1, a2, a3, a4, a5, a6, fun h => a7 fun h' => h (hne.2 h')⟩
    one := fun h => s.one (hne.1 h), dl := s.dl, lab := s.lab, reach := s.reach
    hd := fun e he => by obtain ⟨e', h, h'⟩ := h1 e he; rw [← h']; exact s.hd e' h
    ent := fun e he => by obtain ⟨e', h, h'⟩ := h1 e he; rw [← h']; exact s.ent e' h
    inh := fun h r hr => by obtain ⟨e, he, hp⟩ := s.inh (fun h' => h (hne.2 h')) r hr; obtain ⟨e', he', h'⟩ := h2 e he; exact ⟨e', he', h' ▸ hp⟩
    dat := fun r hr m => by rw [h3]; exact s.dat r hr m
    leaf := s.leaf, hdl := s.hdl, hdr := s.hdr, kv := s.kv }

theorem Sh.dup {e e' : En} (s : Sh T q (e :: e' :: e' :: R) root) : Sh T q (e :: e' :: R) root :=
  s.reR (fun x hx => ⟨x, by simp only [List.mem_cons] at hx ⊢; rcases hx with h | h | h <;> simp [h], rfl⟩) (fun x hx => ⟨x, by simp only [List.mem_cons] at hx ⊢; rcases hx with h | h | h | h <;> simp [h], rfl⟩) (fun m p => by
    simp only [lookR]
    cases e.rm with
    | none =>
      cases e'.rm with
      | none => rfl
      | some v => obtain ⟨a, b⟩ := v; simp only; split <;> rfl
    | some w =>
      obtain ⟨c, d⟩ := w
      cases e'.rm with
      | none => rfl
      | some v => obtain ⟨a, b⟩ := v; simp only; split <;> (try rfl); split <;> rfl)

theorem Sh.ch_ok (s : Sh T q R root) {x c : NR} (h : Ch T x c) {l : List Tok} (e : q c.n = q x.n ++ l) : ∀ u ∈ l, u.ok := by
  cases h with
  | st hx hc h =>
    obtain ⟨_, _, _, h4, h5⟩ := s.kid x c hx hc h
    rw [e] at h5
    rw [List.append_cancel_left h5]
    exact fun u hu => (bs_st h4 u hu).ok
  | pa hx hc h =>
    have h5 := (s.pch x c hx hc h).2.2.2
    rw [e] at h5
    rw [List.append_cancel_left h5]
    intro u hu; rw [List.mem_singleton.1 hu]; trivial
  | an hx hc h =>
    have h5 := (s.ach x c hx hc h).2.2.2.1
    rw [e] at h5
    rw [List.append_cancel_left h5]
    intro u hu; rw [List.mem_singleton.1 hu]; trivial

theorem Sh.any (s : Sh T q R root) {r : NR} (hr : r ∈ T) (hk : r.kd = 2) : r.pc = cnt (q r.n) ∧ ∃ p, q r.n = p ++ [.A] := by
  rcases s.up hr with h1 | ⟨x, h1⟩
  · obtain ⟨rt, g1, g2, _, g4, _⟩ := s.rt
    rw [uniq s.cl.nd hr g1 (h1.trans g2.symm)] at hk; omega
  · cases h1 with
    | st hx hc h => have := (s.kid x r hx hc h).1; omega
    | pa hx hc h => have := (s.pch x r hx hc h).1; omega
    | an hx hc h => exact ⟨(s.ach x r hx hc h).2.2.2.2.2.2.2, _, (s.ach x r hx hc h).2.2.2.1⟩

theorem Sh.insR (s : Sh T q R root) (hR : R ≠ []) {h : Nat} {hp : Option Nat} {meth : List UInt8} {t np : Nat} {pp : List UInt8} {toks : List Tok} (hpre : Pre T q t hp np toks)
    {n : Nat} {sr : List UInt8} {T' : List NR} (hI : Ins T h hp meth t np pp n sr T') (hnd : (T'.map NR.n).Nodup) :
    ∀ (ts xt start : List Tok) (x : NR), x ∈ T → x.n = n → q x.n = start ++ xt → tb xt = x.pre → (∀ u ∈ xt, u.ok) → tb ts = sr → toks = start ++ ts → lcp sr x.pre ≠ 0 →
      ∃ q', Sh T' q' (⟨toks, hp.map fun _ => (meth, h)⟩ :: ⟨toks, none⟩ :: R) root := by
  have tst : ∀ p u, toks = p ++ [u] → u.st → t = 0 := fun p u e hu => by
    have h3 := hpre.t3
    rcases Nat.lt_or_ge t 1 with h0 | h0
    · omega
    · exfalso
      have : t = 1 ∨ t = 2 := by omega
      rcases this with h1 | h1
      · obtain ⟨p', e'⟩ := hpre.k1 h1
        rw [e] at e'
        have := (List.append_inj' e' rfl).2
        simp only [List.cons.injEq, and_true] at this
        rw [this] at hu; exact hu
      · obtain ⟨p', e'⟩ := hpre.k2 h1
        rw [e] at e'
        have := (List.append_inj' e' rfl).2
        simp only [List.cons.injEq, and_true] at this
        rw [this] at hu; exact hu
  induction hI with
  | root hT hl ha =>
    rename_i r r1 T0 s0
    intro ts xt start x hx hxn hq hxt hxo hts htk h0
    have : x = r := uniq s.cl.nd hx (hT.mem_iff.2 (.head _)) hxn
    subst this
    exact absurd hl h0
  | split hT h0 hl hs ho ha =>
    rename_i r r1 T0 s0 b m ad cp Hs
    intro ts xt start x hx hxn hq hxt hxo hts htk _
    have : x = r := uniq s.cl.nd hx (hT.mem_iff.2 (.head _)) hxn
    subst this
    have hk : x.kd = 0 := Decidable.byContradiction fun hk => by have := s.xt hx hk; omega
    have hok := (s.static hx hk).1
    have hxt' := tb_bs_eq hxt hok
    have htok : ∀ u ∈ ts, u.ok := fun u hu => hpre.ok u (by rw [htk]; exact List.mem_append_right _ hu)
    have htake := tb_take htok hxo
    rw [hts, hxt] at htake
    have hlt : ts.length = s0.length := by rw [← hts]; simp [tb]
    rw [List.take_of_length_le (by omega), hxt'] at htake
    have hts2 : ts = bs (x.pre.take (lcp s0 x.pre)) := by rw [htake]; simp [bs]
    have hb : ∀ y ∈ T, y.n ≠ b := fun y hy e => by
      have e1 : (r1.po hp np pp).reLeaf.n = x.n := by show (r1.po hp np pp).n = _; rw [NR.po_n, ha.n]; rfl
      simp only [List.map_cons] at hnd
      rcases List.mem_cons.1 (hT.mem_iff.1 hy) with h1 | h1
      · rw [h1] at e
        have := (List.nodup_cons.1 hnd).1
        exact this (by rw [e1, e]; exact .head _)
      · have := (List.nodup_cons.1 (List.nodup_cons.1 hnd).2).1
        refine this (List.mem_map.2 ⟨_, List.mem_map.2 ⟨y, h1, rfl⟩, setPar_f.1.trans e⟩)
    have s1 := s.cut hT hR hk (Nat.pos_of_ne_zero h0) hl hb m ad cp Hs (start := start) (by rw [hq, hxt'])
    have hne : x.pre.take (lcp s0 x.pre) ≠ [] := fun e => by
      rw [List.take_eq_nil_iff] at e
      rcases e with e | e
      · exact h0 e
      · rw [e] at hl; simp at hl
    have ht0 : t = 0 := by
      obtain ⟨u, hu⟩ : ∃ u, ts.getLast? = some u := by
        cases hl' : ts.getLast? with
        | none => rw [List.getLast?_eq_none_iff] at hl'; rw [hl'] at hts2; exact absurd (by simpa [bs] using hts2.symm) hne
        | some u => exact ⟨u, rfl⟩
      obtain ⟨ts', hts'⟩ := List.getLast?_eq_some_iff.1 hu
      refine tst (start ++ ts') u (by rw [htk, hts']; simp) ?_
      have : u ∈ bs (x.pre.take (lcp s0 x.pre)) := by rw [← hts2, hts']; simp
      exact bs_st (fun c hc => hok c (List.mem_of_mem_take hc)) u this
    subst ht0
    refine ⟨_, s1.put (r := x.top m (lcp s0 x.pre) [b] ad cp Hs) (.refl _) hR ha (NR.po_ss.1.trans NR.reLeaf_ss.1) (NR.po_ss.2.1.trans NR.reLeaf_ss.2.1) (fun h => by cases h) (fun h => by cases h) ?_⟩
    show q1 q b x.n (start ++ bs (x.pre.take (lcp s0 x.pre))) x.n = toks
    have hbn : x.n ≠ b := hb x hx
    simp only [q1, if_neg hbn, if_true]
    rw [htk, hts2]
  | split2 hT h0 hl hs ho ha =>
    rename_i r r1 T0 s0 b m b2 m2 ad cp Hs
    intro ts xt start x hx hxn hq hxt hxo hts htk _
    have : x = r := uniq s.cl.nd hx (hT.mem_iff.2 (.head _)) hxn
    subst this
    have hk : x.kd = 0 := Decidable.byContradiction fun hk => by have := s.xt hx hk; omega
    have hok := (s.static hx hk).1
    have hxt' := tb_bs_eq hxt hok
    have htok : ∀ u ∈ ts, u.ok := fun u hu => hpre.ok u (by rw [htk]; exact List.mem_append_right _ hu)
    have htake := tb_take htok hxo
    rw [hts, hxt] at htake
    have hlt : ts.length = s0.length := by rw [← hts]; simp [tb]
    have htake2 : ts.take (lcp s0 x.pre) = bs (x.pre.take (lcp s0 x.pre)) := by rw [htake, hxt']; simp [bs]
    have hb : ∀ y ∈ T, y.n ≠ b := fun y hy e => by
      simp only [List.map_cons] at hnd
      rcases List.mem_cons.1 (hT.mem_iff.1 hy) with h1 | h1
      · rw [h1] at e
        have := (List.nodup_cons.1 hnd).1
        exact this (by show x.n ∈ _; rw [e]; exact .tail _ (.head _))
      · have := (List.nodup_cons.1 (List.nodup_cons.1 (List.nodup_cons.1 hnd).2).2).1
        refine this (List.mem_map.2 ⟨_, List.mem_map.2 ⟨y, h1, rfl⟩, setPar_f.1.trans e⟩)
    have hn1 : (r1.po hp np pp).n = b2 := by rw [NR.po_n, ha.n]; rfl
    have hb2 : ∀ y ∈ (x.top m (lcp s0 x.pre) [b] none 0 [] :: x.low b (lcp s0 x.pre) :: T0.map (NR.setPar (x.kids ++ x.pch.toList ++ x.ach.toList) b)), y.n ≠ b2 := fun y hy e => by
      simp only [List.map_cons] at hnd
      rcases List.mem_cons.1 hy with h1 | h1
      · have := (List.nodup_cons.1 hnd).1
        refine this ?_
        show x.n ∈ _
        rw [show x.n = b2 by rw [← e, h1]; rfl, ← hn1]; exact .head _
      · have := (List.nodup_cons.1 (List.nodup_cons.1 hnd).2).1
        refine this ?_
        rw [hn1, ← e]
        rcases List.mem_cons.1 h1 with h1 | h1
        · rw [h1]; exact .head _
        · exact .tail _ (List.mem_map.2 ⟨y, h1, rfl⟩)
    have s1 := s.cut hT hR hk (Nat.pos_of_ne_zero h0) hl hb m none 0 [] (start := start) (by rw [hq, hxt'])
    obtain ⟨tk, tks, htd⟩ : ∃ tk tks, ts.drop (lcp s0 x.pre) = tk :: tks := by
      cases hd : ts.drop (lcp s0 x.pre) with
      | nil => have := congrArg List.length hd; simp at this; omega
      | cons a l => exact ⟨a, l, rfl⟩
    have hbn : x.n ≠ b := hb x hx
    have hqx : q1 q b x.n (start ++ bs (x.pre.take (lcp s0 x.pre))) x.n = start ++ bs (x.pre.take (lcp s0 x.pre)) := by simp only [q1, if_neg hbn, if_true]
    have htoks : toks = start ++ bs (x.pre.take (lcp s0 x.pre)) ++ tk :: tks := by rw [htk, ← htake2, ← htd, List.append_assoc, List.take_append_drop]
    have htbd : tb (tk :: tks) = s0.drop (lcp s0 x.pre) := by rw [← htd, ← hts]; simp [tb]
    -- the byte where they part
    have hxd : x.pre.drop (lcp s0 x.pre) ≠ [] := fun e => by have := congrArg List.length e; simp at this; omega
    have hpart : ∀ c cs, x.pre.drop (lcp s0 x.pre) = c :: cs → tk ≠ .b c := fun c cs hc e => by
      have key : ∀ (a b : List UInt8) (c : UInt8) (x y : List UInt8), a.drop (lcp a b) = c :: x → b.drop (lcp a b) = c :: y → False := by
        intro a
        induction a with
        | nil => intro b c x y h1 h2; simp [lcp] at h1
        | cons a0 a ih =>
          intro b c x y h1 h2
          cases b with
          | nil => simp [lcp] at h2
          | cons b0 b =>
            simp only [lcp] at h1 h2
            split at h1
            · rename_i e; rw [if_pos e] at h2; exact ih b c x y (by simpa using h1) (by simpa using h2)
            · rename_i e; rw [if_neg e] at h2
              simp only [List.drop_zero, List.cons.injEq] at h1 h2
              exact e (h1.1.trans h2.1.symm)
      refine key s0 x.pre c (tb tks) cs ?_ hc
      rw [← htbd, e]; rfl
    obtain ⟨c1, cs1, hc1⟩ : ∃ c cs, x.pre.drop (lcp s0 x.pre) = c :: cs := by
      cases hd : x.pre.drop (lcp s0 x.pre) with
      | nil => exact absurd hd hxd
      | cons a l => exact ⟨a, l, rfl⟩
    obtain ⟨c0, cs0, hc0⟩ : ∃ c cs, x.pre = c :: cs := by
      cases hd : x.pre with
      | nil => rw [hd] at hl; simp at hl
      | cons a l => exact ⟨a, l, rfl⟩
    -- a node behind the place where they part would be behind x
    have hno : ∀ y ∈ T, ∀ l, q y.n = start ++ bs (x.pre.take (lcp s0 x.pre)) ++ l → (l = [] ∨ ∃ l', l = tk :: l') → False := by
      intro y hy l hql hl'
      have hst1 : start ++ [.b c0] <+: q y.n := by
        rw [hql, hc0]
        cases hlc : lcp s0 (c0 :: cs0) with
        | zero => rw [hc0] at h0; exact absurd hlc h0
        | succ j => exact ⟨bs (cs0.take j) ++ l, by simp [bs]⟩
      have hbelow : q x.n <+: q y.n := by
        rcases (s.static hx hk).2 with h1 | ⟨z, hz, h1⟩
        · rw [h1]; exact s.rch_pre (s.reach y hy)
        · have h5 := (s.kid z x hz hx h1).2.2.2.2
          have hst : start = q z.n := by rw [hq, hxt'] at h5; exact List.append_cancel_right h5
          rw [hst] at hst1
          obtain ⟨d, g1, g2, g3⟩ := s.next hz hy hst1
          have : d = x := s.ch_uniq g1 (.st hz hx h1) g2 (by rw [h5, hc0]; exact ⟨bs cs0, by simp [bs]⟩)
          rw [← this]; exact g3
      rw [hq, hxt', hql, List.append_assoc] at hbelow
      have := (List.prefix_append_right_inj _).1 hbelow
      rw [← List.take_append_drop (lcp s0 x.pre) x.pre, bs_app, hc1] at this
      have h3 : bs (c1 :: cs1) <+: l := by
        have := this
        rw [← hc1, List.take_append_drop, hc1] at this
        exact (List.prefix_append_right_inj _).1 this
      rcases hl' with h4 | ⟨l', h4⟩
      · rw [h4] at h3; simp [bs] at h3
      · rw [h4] at h3
        have := (List.cons_prefix_cons.1 h3).1
        exact hpart c1 cs1 hc1 this.symm
    have hallst : ∀ u ∈ tk :: tks, u.st := by
      intro u hu
      obtain ⟨a, b', hab⟩ := List.append_of_mem hu
      refine Classical.byContradiction fun hst => ?_
      rcases hpre.pos (start ++ bs (x.pre.take (lcp s0 x.pre)) ++ a) u b' (by rw [htoks, hab]; simp) hst with ⟨y, hy, e⟩ | ⟨_, ⟨y, hy, e⟩, _⟩
      · refine hno y hy (a ++ [u]) (by rw [e]; simp) (.inr ?_)
        cases a with
        | nil => simp only [List.nil_append, List.cons.injEq] at hab; exact ⟨[], by simp [hab.1]⟩
        | cons a0 a => simp only [List.cons_append, List.cons.injEq] at hab; exact ⟨a ++ [u], by simp [hab.1]⟩
      · refine hno y hy a e ?_
        cases a with
        | nil => exact .inl rfl
        | cons a0 a => simp only [List.cons_append, List.cons.injEq] at hab; exact .inr ⟨a, by rw [hab.1]⟩
    have ht0 : t = 0 := by
      obtain ⟨u, hu⟩ : ∃ u, (tk :: tks).getLast? = some u := by
        cases hl' : (tk :: tks).getLast? with
        | none => rw [List.getLast?_eq_none_iff] at hl'; cases hl'
        | some u => exact ⟨u, rfl⟩
      obtain ⟨ts', hts'⟩ := List.getLast?_eq_some_iff.1 hu
      refine tst (start ++ bs (x.pre.take (lcp s0 x.pre)) ++ ts') u (by rw [htoks, hts']; simp) ?_
      exact hallst u (by rw [hts']; simp)
    subst ht0
    have hq0 : (x.top m (lcp s0 x.pre) [b] none 0 []).n = x.n := rfl
    have s2 := s1.child (x := x.top m (lcp s0 x.pre) [b] none 0 []) (c := newN b2 m2 x.n (s0.drop (lcp s0 x.pre)) [] 0) (x' := x.top m (lcp s0 x.pre) [b, b2] ad cp Hs) (tk := tk) (tks := tks) (t := 0) (.refl _) hR hb2
      (AddC.st (r := x.top m (lcp s0 x.pre) [b] none 0 []) (b := b2) (ad := ad) (cp := cp) (Hs := Hs) rfl ho) rfl ⟨rfl, rfl, rfl⟩ rfl htbd (.inl ⟨rfl, hallst⟩) (fun d hd hp2 => by
        obtain ⟨u, l, e1, e2, e3, _⟩ := s1.ch hd
        cases hd with
        | st _ hdm hkk =>
          have hdn := List.mem_singleton.1 hkk
          have : d = x.low b (lcp s0 x.pre) := uniq s1.cl.nd hdm (.tail _ (.head _)) hdn
          subst this
          have e5 : (q1 q b x.n (start ++ bs (x.pre.take (lcp s0 x.pre)))) b = start ++ bs (x.pre.take (lcp s0 x.pre)) ++ bs (x.pre.drop (lcp s0 x.pre)) := by
            simp only [q1, if_true]; rw [hq, hxt', List.append_assoc, ← bs_app, List.take_append_drop]
          rw [show (x.low b (lcp s0 x.pre)).n = b from rfl, e5, hq0, hqx, hc1] at hp2
          have := (List.prefix_append_right_inj _).1 hp2
          exact hpart c1 cs1 hc1 (List.cons_prefix_cons.1 this).1
        | pa _ _ h => cases h
        | an _ _ h => cases h) (by show (0 : Nat) ≠ 2; omega) rfl rfl rfl (by
        show (s0.drop (lcp s0 x.pre)).headD 0 = _
        rw [← htbd]; rfl) rfl rfl
    have s3 := s2.perm (List.Perm.swap _ _ _)
    have s4 := s3.put (r := newN b2 m2 x.n (s0.drop (lcp s0 x.pre)) [] 0) (r' := r1.po hp np pp) (toks := toks) (.refl _) (by simp) ha NR.po_ss.1 NR.po_ss.2.1 (fun h => by cases h) (fun h => by cases h) (by
      show q2 _ b2 _ b2 = _
      simp only [q2, if_true]; rw [hq0, hqx, htoks])
    have e6 : start ++ bs (x.pre.take (lcp s0 x.pre)) ++ tk :: tks = toks := htoks.symm
    have s5 := s4.perm (List.Perm.swap _ _ _)
    rw [hq0, hqx, e6] at s5
    refine ⟨_, Sh.dup s5⟩
  | deep hT hl h0 hs hc hI ih =>
    rename_i r s0 c T1
    intro ts xt start x hx hxn hq hxt hxo hts htk _
    have : x = r := uniq s.cl.nd hx hT hxn
    subst this
    have htok : ∀ u ∈ ts, u.ok := fun u hu => hpre.ok u (by rw [htk]; exact List.mem_append_right _ hu)
    have htake := tb_take htok hxo
    rw [hts, hxt, hl] at htake
    have hlt : ts.length = s0.length := by rw [← hts]; simp [tb]
    have hxl : xt.length = x.pre.length := by rw [← hxt]; simp [tb]
    rw [← hxl, List.take_length] at htake
    obtain ⟨tk, tks, htd⟩ : ∃ tk tks, ts.drop (lcp s0 x.pre) = tk :: tks := by
      cases hd : ts.drop (lcp s0 x.pre) with
      | nil => have := congrArg List.length hd; simp at this; omega
      | cons a l => exact ⟨a, l, rfl⟩
    have hsplit : ts = xt ++ tk :: tks := by
      conv => lhs; rw [← List.take_append_drop (lcp s0 x.pre) ts]
      rw [htd, hl, ← hxl, htake]
    have htbd : tb (tk :: tks) = s0.drop (lcp s0 x.pre) := by rw [← htd, ← hts]; simp [tb]
    have htkok : tk.ok := htok tk (by rw [hsplit]; simp)
    obtain ⟨d, hd, hdn, hdp⟩ := s.fcl_some hx htkok (c := c) (by
      rw [← htbd] at hc; exact hc)
    obtain ⟨u, l, e1, e2, e3, e4, e5, _⟩ := s.ch hd
    have hu : u = tk := by
      rw [e1] at hdp
      have := (List.prefix_append_right_inj _).1 hdp
      exact (List.cons_prefix_cons.1 this).1.symm
    refine ih hnd (tk :: tks) (u :: l) (q x.n) d hd.r hdn e1 e5 (s.ch_ok hd e1) htbd (by rw [htk, hsplit, hq, List.append_assoc]) ?_
    rw [← htbd, ← e5, hu]
    simp [tb, lcp]
  | child hT h0 hl hs hc ha hr =>
    rename_i r r1 r2 T0 s0 b m
    intro ts xt start x hx hxn hq hxt hxo hts htk _
    have : x = r := uniq s.cl.nd hx (hT.mem_iff.2 (.head _)) hxn
    subst this
    have htok : ∀ u ∈ ts, u.ok := fun u hu => hpre.ok u (by rw [htk]; exact List.mem_append_right _ hu)
    have htake := tb_take htok hxo
    rw [hts, hxt, hl] at htake
    have hlt : ts.length = s0.length := by rw [← hts]; simp [tb]
    have hxl : xt.length = x.pre.length := by rw [← hxt]; simp [tb]
    rw [← hxl, List.take_length] at htake
    obtain ⟨tk, tks, htd⟩ : ∃ tk tks, ts.drop (lcp s0 x.pre) = tk :: tks := by
      cases hd : ts.drop (lcp s0 x.pre) with
      | nil => have := congrArg List.length hd; simp at this; omega
      | cons a l => exact ⟨a, l, rfl⟩
    have hsplit : ts = xt ++ tk :: tks := by
      conv => lhs; rw [← List.take_append_drop (lcp s0 x.pre) ts]
      rw [htd, hl, ← hxl, htake]
    have htbd : tb (tk :: tks) = s0.drop (lcp s0 x.pre) := by rw [← htd, ← hts]; simp [tb]
    have htkok : tk.ok := htok tk (by rw [hsplit]; simp)
    have htoks : toks = q x.n ++ tk :: tks := by rw [htk, hsplit, hq, List.append_assoc]
    have hnew : ∀ d, Ch T x d → ¬ q x.n ++ [tk] <+: q d.n := s.fcl_none (u := tk) (by rw [← htbd] at hc; exact hc)
    have hr2n : r2.reLeaf.n = x.n := by cases hr <;> rfl
    have hr1n : (r1.pn hp np).n = b := by rw [NR.pn_n, ha.n]; rfl
    have hfr : ∀ y ∈ T, y.n ≠ b := fun y hy e => by
      simp only [List.map_cons] at hnd
      rcases List.mem_cons.1 (hT.mem_iff.1 hy) with h1 | h1
      · refine (List.nodup_cons.1 hnd).1 ?_
        rw [hr2n, hr1n, ← h1, e]; exact .head _
      · refine (List.nodup_cons.1 (List.nodup_cons.1 hnd).2).1 ?_
        rw [hr1n, ← e]; exact List.mem_map.2 ⟨y, h1, rfl⟩
    have hx2 : x.kd ≠ 2 := fun hk => by
      obtain ⟨p, hp'⟩ := (s.any hx hk).2
      have := hpre.A p (tk :: tks) (by rw [htoks, hp']; simp)
      cases this
    -- the kinds
    have hkind : (t = 0 ∧ ∀ u ∈ tk :: tks, u.st) ∨ (t = 1 ∧ tk :: tks = [.P]) ∨ (t = 2 ∧ tk :: tks = [.A]) := by
      have hno : ∀ y ∈ T, ∀ l, q y.n = q x.n ++ l → (∃ l', l = tk :: l') → False := by
        rintro y hy l hql ⟨l', rfl⟩
        obtain ⟨d, g1, g2, _⟩ := s.next hx hy (t := tk) (by rw [hql]; exact ⟨l', by simp⟩)
        exact hnew d g1 g2
      by_cases hall : ∀ u ∈ tk :: tks, u.st
      · refine .inl ⟨?_, hall⟩
        obtain ⟨u, hu⟩ : ∃ u, (tk :: tks).getLast? = some u := by
          cases hl' : (tk :: tks).getLast? with
          | none => rw [List.getLast?_eq_none_iff] at hl'; cases hl'
          | some u => exact ⟨u, rfl⟩
        obtain ⟨ts', hts'⟩ := List.getLast?_eq_some_iff.1 hu
        exact tst (q x.n ++ ts') u (by rw [htoks, hts']; simp) (hall u (by rw [hts']; simp))
      · have : ∃ u ∈ tk :: tks, ¬ u.st := Classical.byContradiction fun hn => hall fun u hu => Classical.byContradiction fun hs' => hn ⟨u, hu, hs'⟩
        obtain ⟨u, hu, hst⟩ := this
        obtain ⟨a, b', hab⟩ := List.append_of_mem hu
        rcases hpre.pos (q x.n ++ a) u b' (by rw [htoks, hab]; simp) hst with ⟨y, hy, e⟩ | ⟨hb', ⟨y, hy, e⟩, hk⟩
        · exfalso
          refine hno y hy (a ++ [u]) (by rw [e]; simp) ?_
          cases a with
          | nil => simp only [List.nil_append, List.cons.injEq] at hab; exact ⟨[], by simp [hab.1]⟩
          | cons a0 a => simp only [List.cons_append, List.cons.injEq] at hab; exact ⟨a ++ [u], by simp [hab.1]⟩
        · cases a with
          | nil =>
            rw [List.nil_append, hb'] at hab
            rcases hk with ⟨h1, h2⟩ | ⟨h1, h2⟩
            · exact .inr (.inl ⟨h1, by rw [hab, h2]⟩)
            · exact .inr (.inr ⟨h1, by rw [hab, h2]⟩)
          | cons a0 a =>
            exfalso
            simp only [List.cons_append, List.cons.injEq] at hab
            exact hno y hy (a0 :: a) e ⟨a, by rw [hab.1]⟩
    have hpcN : t = 2 → ((newN b m x.n (s0.drop (lcp s0 x.pre)) pp t).pn hp np).pc = cnt toks := fun h => by
      rw [NR.pn_ss.2.2.2, if_pos (hpre.h2 h)]; exact hpre.np (hpre.h2 h)
    have hss := NR.pn_ss (r := newN b m x.n (s0.drop (lcp s0 x.pre)) pp t) (hp := hp) (np := np)
    have hcn : ((newN b m x.n (s0.drop (lcp s0 x.pre)) pp t).pn hp np).n = b := hss.1.n
    have s2 := s.child (x := x) (c := (newN b m x.n (s0.drop (lcp s0 x.pre)) pp t).pn hp np) (x' := r2) (tk := tk) (tks := tks) (t := t) hT hR (by rw [hcn]; exact hfr) (by rw [hcn]; exact hr) (by rw [hss.1.par]; rfl)
      ⟨by rw [hss.1.kids]; rfl, by rw [hss.1.pch]; rfl, by rw [hss.1.ach]; rfl⟩ (by rw [hss.1.kd]; rfl) (by rw [htbd, hss.1.pre]; rfl) (by
        rcases hkind with h | h | h
        · exact .inl h
        · exact .inr (.inl h)
        · exact .inr (.inr ⟨h.1, h.2, by rw [hpcN h.1, htoks, h.2]⟩)) hnew hx2 (by rw [hss.2.1.nf]; rfl) (by rw [hss.2.1.f]; rfl) (by rw [hss.2.1.kv]; rfl) (by
        rw [hss.1.lab]
        show (s0.drop (lcp s0 x.pre)).headD 0 = _
        rw [← htbd]; rfl) (by rw [hss.2.1.hdl]; rfl) (by rw [hss.2.2.1]; rfl)
    rw [hcn, ← htoks] at s2
    have s3 := s2.perm (List.Perm.swap _ _ _)
    have hap := ha.pn (np := np)
    have s4 := s3.put (r := (newN b m x.n (s0.drop (lcp s0 x.pre)) pp t).pn hp np) (r' := r1.pn hp np) (toks := toks) (.refl _) (by simp) hap (.refl _) ⟨rfl, rfl, rfl, rfl, rfl⟩ (fun _ => by
        rw [NR.pn_ss.2.2.1, ha.ss.2.1, hss.1.kids, hss.1.pch, hss.1.ach]; rfl) (fun hk => by
        rw [hss.1.kd] at hk
        rw [hcn]
        rw [hap.ss.2.2, hpcN hk]
        simp [q2]) (by rw [hcn]; simp [q2])
    exact ⟨_, Sh.dup (s4.perm (List.Perm.swap _ _ _))⟩
  | same hT h0 hl hs ha =>
    rename_i r r1 T0 s0
    intro ts xt start x hx hxn hq hxt hxo hts htk _
    have : x = r := uniq s.cl.nd hx (hT.mem_iff.2 (.head _)) hxn
    subst this
    have htok : ∀ u ∈ ts, u.ok := fun u hu => hpre.ok u (by rw [htk]; exact List.mem_append_right _ hu)
    have htake := tb_take htok hxo
    rw [hts, hxt, hl] at htake
    have hlt : ts.length = s0.length := by rw [← hts]; simp [tb]
    have hxl : xt.length = x.pre.length := by rw [← hxt]; simp [tb]
    rw [← hxl, List.take_length, List.take_of_length_le (by omega)] at htake
    have hqt : q x.n = toks := by rw [hq, htk, htake]
    refine ⟨_, s.put hT hR ha NR.po_ss.1 NR.po_ss.2.1 (fun hk => ?_) (fun hk => ?_) hqt⟩
    · rw [NR.po_ss.2.2.1, ha.ss.2.1]; exact s.leaf x hx hk
    · rw [NR.po_ss.2.2.2, ha.ss.2.2]
      split
      · rename_i h1; rw [hqt]; exact hpre.np h1
      · exact (s.any hx hk).1
end Bw

/- insertNode keeps the shape: the first route too. No program in sight. -/
namespace Bw
open Go Go.Proofs

variable {T : List NR} {q : Nat → List Tok} {R : List En} {root : Nat}

/-- a tree without routes -/
theorem Sh.empty (r : NR) (h1 : r.par = none) (h2 : r.pch = none) (h3 : r.ach = none) (h4 : r.nf = none) (h5 : r.pre = []) (h6 : r.kids = []) (h7 : r.kd = 0) (h8 : r.hdl = false) (h9 : r.f = fun _ => none) (h10 : r.kv = []) :
    Sh [r] (fun _ => []) [] r.n := {
  cl := ⟨fun x hx a ha => (by rw [List.mem_singleton.1 hx, h6] at ha; cases ha), fun x hx a ha => (by rw [List.mem_singleton.1 hx, h2] at ha; cases ha), fun x hx a ha => (by rw [List.mem_singleton.1 hx, h3] at ha; cases ha),
    fun x hx => by rw [List.mem_singleton.1 hx, h6, h2, h3]; simp, by simp⟩
  kid x c hx hc h := by rw [List.mem_singleton.1 hx, h6] at h; cases h
  pch x c hx hc h := by rw [List.mem_singleton.1 hx, h2] at h; cases h
  ach x c hx hc h := by rw [List.mem_singleton.1 hx, h3] at h; cases h
  rt := ⟨r, .head _, rfl, h1, h7, (by rw [h5]; intro c hc; cases hc), (by rw [h5]; rfl), fun h => absurd rfl h⟩
  one _ x hx := by rw [List.mem_singleton.1 hx]; exact ⟨rfl, h5, h6, h2, h3⟩
  dl x c d hx hc hd h := by rw [List.mem_singleton.1 hx, h6] at h; cases h
  lab x hx h := by rw [List.mem_singleton.1 hx] at h; exact absurd h5 h
  reach x hx := by rw [List.mem_singleton.1 hx]; exact .refl
  hd e he := by cases he
  ent e he := by cases he
  inh h := absurd rfl h
  dat x hx m := by
    rw [List.mem_singleton.1 hx]
    simp only [Bw.dat, h4, h9, h10, lookR]
    split
    · rfl
    · unfold getM; split <;> rfl
  leaf x hx h := by rw [List.mem_singleton.1 hx, h7] at h; cases h
  hdl x hx := by rw [List.mem_singleton.1 hx, h8, h9, h10]; rfl
  hdr x hx h := by rw [List.mem_singleton.1 hx, h8] at h; cases h
  kv x hx := by rw [List.mem_singleton.1 hx, h10]; intro p hp; cases hp }

theorem Sh.ins0 (s : Sh T q [] root) {h : Nat} {hp : Option Nat} {meth : List UInt8} {t np : Nat} {pp : List UInt8} {toks : List Tok} (hpre : Pre T q t hp np toks)
    {T' : List NR} (hI : Ins T h hp meth t np pp root (tb toks) T') : ∃ q', Sh T' q' [⟨toks, hp.map fun _ => (meth, h)⟩, ⟨toks, none⟩] root := by
  obtain ⟨rt, g1, g2, g3, g4, g5, g6, _⟩ := s.rt
  have hone := s.one rfl
  have hq0 : ∀ y ∈ T, q y.n = [] := fun y hy => by
    rw [(hone y hy).1, g6, (hone rt g1).2.1]; rfl
  have hst : ∀ u ∈ toks, u.st := fun u hu => by
    obtain ⟨a, b, hab⟩ := List.append_of_mem hu
    refine Classical.byContradiction fun hn => ?_
    rcases hpre.pos a u b hab hn with ⟨y, hy, e⟩ | ⟨hb, ⟨y, hy, e⟩, _⟩
    · rw [hq0 y hy] at e; simp at e
    · rw [hq0 y hy] at e
      have := hpre.hd
      rw [hab, ← e, hb] at this
      simp only [List.nil_append, List.head?_cons, Option.some.injEq] at this
      rw [this] at hn; exact hn (by simp [Tok.st])
  have ht0 : t = 0 := by
    have h3 := hpre.t3
    rcases Nat.lt_or_ge t 1 with h0 | h0
    · omega
    · exfalso
      have : t = 1 ∨ t = 2 := by omega
      rcases this with h1 | h1
      · obtain ⟨p', e'⟩ := hpre.k1 h1; exact hst .P (by rw [e']; simp)
      · obtain ⟨p', e'⟩ := hpre.k2 h1; exact hst .A (by rw [e']; simp)
  subst ht0
  generalize hsr : tb toks = sr at hI
  generalize hn : root = n at hI
  have hall : ∀ x ∈ T, x.pre = [] := fun x hx => (hone x hx).2.1
  cases hI with
  | split hT h0 hl => rw [hall _ (hT.mem_iff.2 (.head _))] at hl; simp at hl
  | split2 hT h0 hl => rw [hall _ (hT.mem_iff.2 (.head _))] at hl; simp at hl
  | deep hT hl h0 => exact absurd (hall _ hT) h0
  | child hT h0 => exact absurd (hall _ (hT.mem_iff.2 (.head _))) h0
  | same hT h0 => exact absurd (hall _ (hT.mem_iff.2 (.head _))) h0
  | root hT hl ha =>
    rename_i r r1 T0
    have hr : r ∈ T := hT.mem_iff.2 (.head _)
    have hT0 : T0 = [] := by
      cases T0 with
      | nil => rfl
      | cons y l =>
        exfalso
        have hnd := (hT.map NR.n).nodup_iff.1 s.cl.nd
        have hy : y ∈ T := hT.mem_iff.2 (.tail _ (.head _))
        simp only [List.map_cons] at hnd
        exact (List.nodup_cons.1 hnd).1 (by rw [(hone r hr).1, (hone y hy).1]; exact .head _)
    subst hT0
    have hrt : r = rt := uniq s.cl.nd hr g1 (hn.symm.trans g2.symm)
    subst hrt
    obtain ⟨o1, o2, o3, o4, o5⟩ := hone r hr
    have htne : toks ≠ [] := fun e => by have := hpre.hd; rw [e] at this; cases this
    have hsb : okB sr := by
      rw [← hsr]; intro c hc
      obtain ⟨u, hu, rfl⟩ := List.mem_map.1 hc
      have := hst u hu
      cases u with
      | b c => exact this
      | P => exact this.elim
      | A => exact this.elim
    have hbs : toks = bs sr := tb_bs_eq hsr hsb
    have hsne : sr ≠ [] := fun e => htne (by rw [hbs, e]; rfl)
    generalize hr0 : (if hp.isSome then { r with lab := sr.headD 0, pre := sr, kd := 0 } else { r with lab := sr.headD 0, pre := sr } : NR) = r0 at ha
    have hr0f : r0 = { r with lab := sr.headD 0, pre := sr } := by
      rw [← hr0]; split
      · rw [← g4]
      · rfl
    have hX : SS r0 (r1.po hp np pp).reLeaf := ha.ss.1.trans (NR.po_ss.1.trans NR.reLeaf_ss.1)
    have hDS : DS r1 (r1.po hp np pp).reLeaf := NR.po_ss.2.1.trans NR.reLeaf_ss.2.1
    obtain ⟨f1, f2, f3, f4⟩ := ha.facts (by rw [hr0f]; exact s.hdl r hr) (by rw [hr0f]; exact s.hdr r hr) (by rw [hr0f]; exact s.kv r hr)
    generalize (r1.po hp np pp).reLeaf = X at hX hDS
    have x1 : X.n = root := by rw [hX.n, hr0f]; exact g2
    have x2 : X.kids = [] := by rw [hX.kids, hr0f]; exact o3
    have x3 : X.pch = none := by rw [hX.pch, hr0f]; exact o4
    have x4 : X.ach = none := by rw [hX.ach, hr0f]; exact o5
    have x5 : X.pre = sr := by rw [hX.pre, hr0f]
    have x6 : X.kd = 0 := by rw [hX.kd, hr0f]; exact g4
    have hmem : ∀ x, x ∈ [X] → x = X := fun x hx => List.mem_singleton.1 hx
    refine ⟨fun _ => toks, {
      cl := ⟨fun x hx a ha => (by rw [hmem x hx, x2] at ha; cases ha), fun x hx a ha => (by rw [hmem x hx, x3] at ha; cases ha), fun x hx a ha => (by rw [hmem x hx, x4] at ha; cases ha), fun x hx => by rw [hmem x hx, x2, x3, x4]; simp, by simp⟩
      kid := fun x c hx hc h => by rw [hmem x hx, x2] at h; cases h
      pch := fun x c hx hc h => by rw [hmem x hx, x3] at h; cases h
      ach := fun x c hx hc h => by rw [hmem x hx, x4] at h; cases h
      rt := ⟨X, .head _, x1.trans hn, by rw [hX.par, hr0f]; exact g3, x6, by rw [x5]; exact hsb, by rw [x5]; exact hbs, fun _ => by rw [x5]; exact hsne⟩
      one := fun h => by cases h
      dl := fun x c d hx hc hd h => by rw [hmem x hx, x2] at h; cases h
      lab := fun x hx h => by rw [hmem x hx, hX.lab, x5, hr0f]
      reach := fun x hx => by rw [hmem x hx, x1, hn]; exact .refl
      hd := fun e he => by
        simp only [List.mem_cons, List.not_mem_nil, or_false] at he
        rcases he with rfl | rfl <;> exact hpre.hd
      ent := fun e he => by
        simp only [List.mem_cons, List.not_mem_nil, or_false] at he
        rcases he with rfl | rfl <;> exact ⟨X, .head _, rfl⟩
      inh := fun _ x hx => ⟨_, .head _, List.prefix_rfl⟩
      dat := fun x hx m => by
        rw [hmem x hx, hDS.dat, f4, hr0f]
        have := s.dat r hr m
        simp only [lookR] at this
        rw [show Bw.dat { r with lab := sr.headD 0, pre := sr } m = Bw.dat r m from rfl, this]
        cases hp <;> simp [lookR]
      leaf := fun x hx h => by rw [hmem x hx, x6] at h; cases h
      hdl := fun x hx => by rw [hmem x hx, hDS.hdl, hDS.f, hDS.kv]; exact f1
      hdr := fun x hx => by rw [hmem x hx, hDS.hdl, hDS.f, hDS.kv, hDS.hdr]; exact f2
      kv := fun x hx => by rw [hmem x hx, hDS.kv]; exact f3 }⟩

theorem Sh.ins (s : Sh T q R root) {h : Nat} {hp : Option Nat} {meth : List UInt8} {t np : Nat} {pp : List UInt8} {toks : List Tok} (hpre : Pre T q t hp np toks)
    {T' : List NR} (hI : Ins T h hp meth t np pp root (tb toks) T') (hnd : (T'.map NR.n).Nodup) : ∃ q', Sh T' q' (⟨toks, hp.map fun _ => (meth, h)⟩ :: ⟨toks, none⟩ :: R) root := by
  by_cases hR : R = []
  · subst hR; exact s.ins0 hpre hI
  · obtain ⟨rt, g1, g2, g3, g4, g5, g6, g7⟩ := s.rt
    refine s.insR hR hpre hI hnd toks (bs rt.pre) [] rt g1 g2 (by rw [g2]; exact g6) (tb_bs _) (fun u hu => (bs_st g5 u hu).ok) rfl rfl ?_
    have hne := g7 hR
    obtain ⟨e, he, hp'⟩ := s.inh hR rt g1
    have hh := s.hd e he
    rw [g2, g6] at hp'
    cases hpr : rt.pre with
    | nil => exact absurd hpr hne
    | cons c l =>
      rw [hpr] at hp'
      obtain ⟨u, hu⟩ := hp'
      rw [← hu] at hh
      simp only [bs, List.map_cons, List.cons_append, List.head?_cons, Option.some.injEq, Tok.b.injEq] at hh
      cases htk : toks with
      | nil => have := hpre.hd; rw [htk] at this; cases this
      | cons t0 ts =>
        have := hpre.hd
        rw [htk] at this
        simp only [List.head?_cons, Option.some.injEq] at this
        subst this; subst hh
        simp [tb, lcp, Tok.byte]
end Bw

/- The rule of insertNode's call with the shape; the parse of a route. -/
namespace Bw
open Go Go.Proofs

theorem nd_ents {T : List NR} (h : (ents T).Pairwise (fun x y => x.b ≠ y.b)) : (T.map NR.n).Nodup := by
  induction T with
  | nil => simp
  | cons r T ih =>
    rw [ents_cons] at h
    have h2 := List.pairwise_append.1 h
    refine List.nodup_cons.2 ⟨fun hm => ?_, ih h2.2.1⟩
    obtain ⟨x, hx, e⟩ := List.mem_map.1 hm
    exact h2.2.2 r.eN (.head _) x.eN (ents_mem hx (.head _)) e.symm

theorem Sh.preLen {T : List NR} {q : Nat → List Tok} {R : List En} {root : Nat} (s : Sh T q R root) (hR : ∀ e ∈ R, e.tk.length ≤ 1000) : ∀ r ∈ T, r.pre.length ≤ 1000000 := by
  intro r hr
  have hq : r.pre.length ≤ (q r.n).length := by
    rcases s.up hr with h | ⟨x, h⟩
    · obtain ⟨rt, g1, g2, _, _, _, g6, _⟩ := s.rt
      have : r = rt := uniq s.cl.nd hr g1 (h.trans g2.symm)
      subst this
      rw [g2, g6]; simp [bs]
    · obtain ⟨t, l, e1, _, _, _, e5, _⟩ := s.ch h
      rw [e1, ← e5]; simp [tb]
  by_cases h : R = []
  · rw [(s.one h r hr).2.1]; simp
  · obtain ⟨e, he, hp⟩ := s.inh h r hr
    have := hp.length_le
    have := hR e he
    omega

theorem G.insN {c : Cx} {n : Nat} {k : List Item} {fr : SF} {ops : Array Oper} {rest : List Oper} {ty : TypeId} {pos : String} {aft : Array Edge} {d : Nat} {tys : Array TypeId}
    {T : List NR} {q : Nat → List Tok} {R : List En} {root : Nat} (s : Sh T q R root) {rb rt eb zb z B t np pcp : Nat} {meth pp : List UInt8} {hp : Option Nat} {pad : Option Addr} {toks : List Tok} {X : SH} {x1 x2 x3 x4 x5 : Operand}
    (hpre : Pre T q t hp np toks) (hR : ∀ e ∈ R, e.tk.length ≤ 1000) (hok : ∀ r ∈ T, r.ok B) (hB : B + 2 < 1000000) (hml : meth.length ≤ 1000) (htl : toks.length ≤ 1000) {vs : List Value} (hvs : vs = [Pt rb 0, S meth, S (tb toks), .int .u8 (t : Int), .agg #[PO hp, S pp, .slice pad np pcp]])
    (he : evs fr [x1, x2, x3, x4, x5] = some vs) (hd : Nat.blt d n = true)
    (hk : ∀ h T' q', Sh T' q' (⟨toks, hp.map fun _ => (meth, h)⟩ :: ⟨toks, none⟩ :: R) root → (∀ r ∈ T', r.ok (B + 2)) →
      G Tryd.prog c n k ops rest ((d, .tuple #[]) :: fr) (rmE h hp pp pad np pcp :: rtE rb root rt eb :: ecE eb zb :: zzE zb rb (max z np) :: (ents T' ++ X))) :
    G Tryd.prog c n k ops (⟨some d, .call ⟨.value (.func 134), #[x1, x2, x3, x4, x5], tys⟩, ty, pos, aft, none⟩ :: rest) fr (rtE rb root rt eb :: ecE eb zb :: zzE zb rb z :: (ents T ++ X)) := by
  subst hvs
  obtain ⟨r0, g1, g2, _⟩ := s.rt
  refine G.callL (H1 := rtE rb root rt eb :: ecE eb zb :: zzE zb rb z :: ents T) (Hk := X) (xs := [x1, x2, x3, x4, x5]) (fun v H1 => v = .tuple #[] ∧ ∃ h T' q', Sh T' q' (⟨toks, hp.map fun _ => (meth, h)⟩ :: ⟨toks, none⟩ :: R) root ∧ (∀ r ∈ T', r.ok (B + 2)) ∧
    H1 = rmE h hp pp pad np pcp :: rtE rb root rt eb :: ecE eb zb :: zzE zb rb (max z np) :: ents T') (.refl _) ?_ Tryd.call134 he hd ?_ ?_
  · intro e he
    simp only [List.mem_cons] at he
    rcases he with rfl | rfl | rfl | he
    · rfl
    · rfl
    · rfl
    · exact ents_w hok e he
  · intro w hw _
    refine (f134_any w _ T rb root rt eb zb z B t np pcp meth (tb toks) pp hp pad r0 hw s.cl hok hB g1 g2 (fun e => ?_) hml (by simp only [tb, List.length_map]; omega) (s.preLen hR) hpre.t3).mono fun e w' ⟨h1, h, T', h2, h3, h4⟩ => ?_
    · have := hpre.hd
      cases toks with
      | nil => cases this
      | cons => simp [tb] at e
    · have hnd := nd_ents ((List.pairwise_cons.1 (List.pairwise_cons.1 (List.pairwise_cons.1 (List.pairwise_cons.1 h4.nd).2).2).2).2)
      obtain ⟨q', h5⟩ := s.ins hpre h2 hnd
      refine ⟨_, _, h1, fun e he => ?_, h4, rfl, h, T', q', h5, h3, rfl⟩
      simp only [List.mem_cons] at he
      rcases he with rfl | rfl | rfl | rfl | he
      · rfl
      · rfl
      · rfl
      · rfl
      · exact ents_w h3 e he
  · rintro v H1 ⟨rfl, h, T', q', h1, h2, rfl⟩
    exact hk h T' q' h1 h2

/-! ### routes as texts -/
/-- tokens and names of a route; within a name: what there is of it -/
def prs : List UInt8 → Option (List UInt8) → List Tok × List (List UInt8)
  | [], none => ([], [])
  | [], some acc => ([], [acc])
  | c :: r, none => if c = 58 then (.P :: (prs r (some [])).1, (prs r (some [])).2) else if c = 42 then (.A :: (prs r none).1, [42] :: (prs r none).2) else (.b c :: (prs r none).1, (prs r none).2)
  | c :: r, some acc => if c = 47 then (.b 47 :: (prs r none).1, acc :: (prs r none).2) else prs r (some (acc ++ [c]))

theorem prs_cnt : ∀ (l : List UInt8) (o : Option (List UInt8)), (prs l o).2.length = cnt (prs l o).1 + (if o.isSome then 1 else 0)
  | [], none => by simp [prs, cnt]
  | [], some acc => by simp [prs, cnt]
  | c :: r, none => by
    have h1 := prs_cnt r none
    have h2 := prs_cnt r (some [])
    simp only [prs]
    split
    · simpa [cnt] using h2
    · split
      · simpa [cnt] using h1
      · simpa [cnt] using h1
  | c :: r, some acc => by
    have h1 := prs_cnt r none
    have h2 := prs_cnt r (some (acc ++ [c]))
    simp only [prs]
    split
    · simpa [cnt] using h1
    · simpa using h2

theorem prs_ok : ∀ (l : List UInt8) (o : Option (List UInt8)), ∀ u ∈ (prs l o).1, u.ok
  | [], none => by simp [prs]
  | [], some acc => by simp [prs]
  | c :: r, none => by
    have h1 := prs_ok r none
    have h2 := prs_ok r (some [])
    simp only [prs]
    split
    · intro u hu
      rcases List.mem_cons.1 hu with rfl | hu
      · trivial
      · exact h2 u hu
    · rename_i h58
      split
      · intro u hu
        rcases List.mem_cons.1 hu with rfl | hu
        · trivial
        · exact h1 u hu
      · rename_i h42
        intro u hu
        rcases List.mem_cons.1 hu with rfl | hu
        · exact ⟨h58, h42⟩
        · exact h1 u hu
  | c :: r, some acc => by
    have h1 := prs_ok r none
    have h2 := prs_ok r (some (acc ++ [c]))
    simp only [prs]
    split
    · intro u hu
      rcases List.mem_cons.1 hu with rfl | hu
      · exact ⟨by decide, by decide⟩
      · exact h1 u hu
    · exact h2

theorem prs_len : ∀ (l : List UInt8) (o : Option (List UInt8)), (prs l o).1.length ≤ l.length
  | [], none => by simp [prs]
  | [], some acc => by simp [prs]
  | c :: r, none => by
    have h1 := prs_len r none
    have h2 := prs_len r (some [])
    simp only [prs]
    split
    · simp; omega
    · split <;> (simp; omega)
  | c :: r, some acc => by
    have h1 := prs_len r none
    have h2 := prs_len r (some (acc ++ [c]))
    simp only [prs]
    split
    · simp; omega
    · simp; omega

/-- a star stands at the end alone, no backslash -/
def okR : List UInt8 → Prop
  | [] => True
  | c :: r => c ≠ 92 ∧ (c = 42 → r = []) ∧ okR r

theorem prs_A : ∀ (l : List UInt8) (o : Option (List UInt8)), okR l → ∀ p r, (prs l o).1 = p ++ .A :: r → r = []
  | [], none, _ => by simp [prs]
  | [], some acc, _ => by simp [prs]
  | c :: l, none, h => by
    intro p r e
    simp only [prs] at e
    split at e
    · cases p with
      | nil => simp at e
      | cons a p => simp only [List.cons_append, List.cons.injEq] at e; exact prs_A l _ h.2.2 p r e.2
    · split at e
      · rename_i h42
        have := h.2.1 h42
        subst this
        cases p with
        | nil => simp only [List.nil_append, List.cons.injEq, prs] at e; exact e.2.symm
        | cons a p => simp only [List.cons_append, List.cons.injEq, prs] at e; simp at e
      · cases p with
        | nil => simp at e
        | cons a p => simp only [List.cons_append, List.cons.injEq] at e; exact prs_A l _ h.2.2 p r e.2
  | c :: l, some acc, h => by
    intro p r e
    simp only [prs] at e
    split at e
    · cases p with
      | nil => simp at e
      | cons a p => simp only [List.cons_append, List.cons.injEq] at e; exact prs_A l _ h.2.2 p r e.2
    · exact prs_A l _ h.2.2 p r e
end Bw
