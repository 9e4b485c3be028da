/- What Router.Find tells is what a search over the routes tells. -/
import Derived.Test.YtekclaobeccbdaaDoorBg
/- The plain law of Find: what the table of nodes gives. No program in sight. -/
namespace Bw
open Go Go.Proofs

theorem lookL_mem : ∀ {L : List Rt} {m : List UInt8} {p : List Tok} {h : Nat}, lookL L m p = some h → ∃ rt ∈ L, rt.h = h ∧ rt.tk = p ∧ rt.rb.m = m
  | [], _, _, _, h => by cases h
  | r :: L, m, p, h, e => by
    simp only [lookL] at e
    split at e
    · rename_i hc
      simp only [Option.some.injEq] at e
      exact ⟨r, .head _, e, hc.1, hc.2⟩
    · obtain ⟨rt, h1, h2⟩ := lookL_mem e
      exact ⟨rt, .tail _ h1, h2⟩
end Bw
namespace Bw
open Go Go.Proofs

theorem aGet_none {kv : AL} {m : List UInt8} (h : ∀ p ∈ kv, p.1 ≠ m) : aGet kv m = none := by
  induction kv with
  | nil => rfl
  | cons p r ih =>
    obtain ⟨k, v⟩ := p
    simp only [aGet]
    rw [if_neg (h (k, v) (.head _))]
    exact ih fun p hp => h p (.tail _ hp)

theorem getM_isH {f : Nat → Option Nat} {kv : AL} {m : List UInt8} {h : Nat} (e : getM f kv m = some h) : isH f kv = true := by
  unfold getM at e
  cases hm : stdIx m with
  | some i =>
    rw [hm] at e
    have hlt := stdIx_lt hm
    have h10 : i = 0 ∨ i = 1 ∨ i = 2 ∨ i = 3 ∨ i = 4 ∨ i = 5 ∨ i = 6 ∨ i = 7 ∨ i = 8 ∨ i = 9 ∨ i = 10 := by omega
    simp only at e
    rcases h10 with rfl | rfl | rfl | rfl | rfl | rfl | rfl | rfl | rfl | rfl | rfl <;> simp [isH, e]
  | none =>
    rw [hm] at e
    cases kv with
    | nil => cases e
    | cons p r => simp [isH]

variable {T : List NR} {q : Nat → List Tok} {R : List En} {root : Nat} {L : List Rt} {z B : Nat}

theorem RInv.getNf (s : RInv T q R root L z B) {r : NR} (hr : r ∈ T) : getM r.f r.kv nfName = none := by
  have h : stdIx nfName = none := by decide
  simp only [getM, h]
  exact aGet_none fun p hp => (s.sh.kv r hr p hp).2

/-- what a node has for a method -/
theorem RInv.get (s : RInv T q R root L z B) {r : NR} (hr : r ∈ T) (m : List UInt8) : getM r.f r.kv m = if m = nfName then none else lookL L m (q r.n) := by
  by_cases h : m = nfName
  · subst h; rw [if_pos rfl]; exact s.getNf hr
  · rw [if_neg h, ← s.look, ← s.sh.dat r hr m, dat, if_neg h]
theorem RInv.nf (s : RInv T q R root L z B) {r : NR} (hr : r ∈ T) : r.nf = lookL L nfName (q r.n) := by
  rw [← s.look, ← s.sh.dat r hr nfName, dat, if_pos rfl]
end Bw
namespace Bw
open Go Go.Proofs

theorem stdIx_nm {i : Nat} (h : i < 11) : stdIx (stdNm i) = some i := by
  have h10 : i = 0 ∨ i = 1 ∨ i = 2 ∨ i = 3 ∨ i = 4 ∨ i = 5 ∨ i = 6 ∨ i = 7 ∨ i = 8 ∨ i = 9 ∨ i = 10 := by omega
  rcases h10 with rfl | rfl | rfl | rfl | rfl | rfl | rfl | rfl | rfl | rfl | rfl <;> rfl

theorem isH_getM {f : Nat → Option Nat} {kv : AL} (hkv : ∀ p ∈ kv, stdIx p.1 = none ∧ p.1 ≠ nfName) (h : isH f kv = true) : ∃ m v, getM f kv m = some v := by
  have std : ∀ i, i < 11 → (f i).isSome = true → ∃ m v, getM f kv m = some v := fun i hi h => by
    obtain ⟨v, hv⟩ := Option.isSome_iff_exists.1 h
    exact ⟨stdNm i, v, by simp only [getM, stdIx_nm hi]; exact hv⟩
  simp only [isH, Bool.or_eq_true, or_assoc] at h
  rcases h with h | h | h | h | h | h | h | h | h | h | h | h
  · exact std 0 (by omega) h
  · exact std 1 (by omega) h
  · exact std 2 (by omega) h
  · exact std 3 (by omega) h
  · exact std 4 (by omega) h
  · exact std 5 (by omega) h
  · exact std 6 (by omega) h
  · exact std 7 (by omega) h
  · exact std 8 (by omega) h
  · exact std 9 (by omega) h
  · exact std 10 (by omega) h
  · cases kv with
    | nil => simp at h
    | cons p r =>
      obtain ⟨k, v⟩ := p
      refine ⟨k, v, ?_⟩
      have := (hkv (k, v) (.head _)).1
      simp only [getM, this, aGet, if_true]

variable {T : List NR} {q : Nat → List Tok} {R : List En} {root : Nat} {L : List Rt} {z B : Nat}

/-- a place with a handler of its own -/
def HasH (L : List Rt) (p : List Tok) : Prop := ∃ rt ∈ L, rt.tk = p ∧ rt.rb.m ≠ nfName

theorem lookL_some : ∀ {L : List Rt} {rt : Rt}, rt ∈ L → ∃ h, lookL L rt.rb.m rt.tk = some h
  | [], _, h => by cases h
  | r :: L, rt, h => by
    simp only [lookL]
    by_cases e : r.tk = rt.tk ∧ r.rb.m = rt.rb.m
    · rw [if_pos e]; exact ⟨_, rfl⟩
    · rw [if_neg e]
      rcases List.mem_cons.1 h with rfl | h
      · exact absurd ⟨rfl, rfl⟩ e
      · exact lookL_some h

theorem RInv.hdlIff (s : RInv T q R root L z B) {r : NR} (hr : r ∈ T) : r.hdl = true ↔ HasH L (q r.n) := by
  rw [s.sh.hdl r hr]
  constructor
  · intro h
    obtain ⟨m, v, hm⟩ := isH_getM (s.sh.kv r hr) h
    rw [s.get hr m] at hm
    split at hm
    · cases hm
    · rename_i hne
      obtain ⟨rt, h1, _, h3, h4⟩ := lookL_mem hm
      exact ⟨rt, h1, h3, by rw [h4]; exact hne⟩
  · rintro ⟨rt, h1, h2, h3⟩
    obtain ⟨h, hh⟩ := lookL_some h1
    refine getM_isH (m := rt.rb.m) (h := h) ?_
    rw [s.get hr, if_neg h3, ← h2]; exact hh

theorem RInv.tok (s : RInv T q R root L z B) (hB : B ≤ 1000000) {E : SH} (hT : ∀ e ∈ ents T, e ∈ E) (hL : ∀ rt ∈ L, ∀ e ∈ rt.ents, e ∈ E) : TOk L T E B := {
  cl := s.sh.cl
  ok := s.ok
  bd := hB
  pl := s.sh.preLen s.Rl
  dat r hr m h e := by
    rw [s.get hr] at e
    split at e
    · cases e
    · obtain ⟨rt, h1, h2, _⟩ := lookL_mem e; exact ⟨rt, h1, h2⟩
  nf r hr h e := by
    rw [s.nf hr] at e
    obtain ⟨rt, h1, h2, _⟩ := lookL_mem e; exact ⟨rt, h1, h2⟩
  any r hr hk := by
    obtain ⟨_, p, hp⟩ := s.sh.any hr hk
    have hR : R ≠ [] := fun e => by
      have h1 := (s.sh.one e r hr).1
      obtain ⟨rt, g1, g2, _, g4, _⟩ := s.sh.rt
      rw [uniq s.sh.cl.nd hr g1 (h1.trans g2.symm)] at hk; omega
    obtain ⟨e, he, h1⟩ := s.sh.inh hR r hr
    obtain ⟨rt, hrt, h2⟩ := s.inp e he
    obtain ⟨u, hu⟩ := h1.trans h2
    have hAu : u = [] := prs_A rt.rb.p none (s.rb rt hrt).okR p u (by
      show rt.tk = _
      rw [← hu, hp]; simp)
    rw [hAu, List.append_nil] at hu
    by_cases hm : rt.rb.m = nfName
    · refine .inr ?_
      obtain ⟨h, hh⟩ := lookL_some hrt
      rw [s.nf hr, hu, ← hm, hh]; simp
    · exact .inl ((s.hdlIff hr).2 ⟨rt, hrt, hu.symm, hm⟩)
  up r hr p hp := by
    rcases s.sh.up hr with h | ⟨x, h⟩
    · obtain ⟨rt, g1, g2, g3, _⟩ := s.sh.rt
      rw [uniq s.sh.cl.nd hr g1 (h.trans g2.symm), g3] at hp; cases hp
    · obtain ⟨_, _, _, _, _, _, _, h2⟩ := s.sh.ch h
      rw [h2] at hp
      exact ⟨x, h.l, Option.some.inj hp⟩
  tE := hT
  lE := hL }
end Bw

/- The plain law of Find: a search over the routes alone. No program in sight. -/
namespace Bw
open Go Go.Proofs

def Has (L : List Rt) (p : List Tok) : Prop := ∃ rt ∈ L, p <+: rt.tk
def look1 (L : List Rt) (meth : List UInt8) (p : List Tok) : Option Nat := if meth = nfName then none else lookL L meth p
def leafAt (L : List Rt) (p : List Tok) : Prop := ¬ ∃ t, Has L (p ++ [t])

inductive VR where
  | hit (h : Nat) (vs : List (List UInt8))
  | miss (p : List Tok) (vs : List (List UInt8))
inductive VO where
  | stop (r : VR)
  | back (b : Option (List Tok))

open Classical in
noncomputable def own (L : List Rt) (meth : List UInt8) (p : List Tok) (s : List UInt8) (vs : List (List UInt8)) : Option VR :=
  if s = [] then (if HasH L p then (look1 L meth p).map (VR.hit · vs) else (lookL L nfName p).map (VR.hit · vs)) else none
open Classical in
noncomputable def bst (L : List Rt) (p : List Tok) (s : List UInt8) (b : Option (List Tok)) : Option (List Tok) := if s = [] ∧ HasH L p ∧ b = none then some p else b
open Classical in
noncomputable def cut (L : List Rt) (p : List Tok) (s : List UInt8) : Nat := if leafAt L p then s.length else upTo s

def VO.then (o : VO) (k : Option (List Tok) → VO) : VO :=
  match o with
  | .stop r => .stop r
  | .back b => k b

open Classical in
noncomputable def vis (L : List Rt) (meth : List UInt8) : Nat → List Tok → List UInt8 → List (List UInt8) → Option (List Tok) → VO
  | 0, _, _, _, b => .back b
  | f + 1, p, s, vs, b =>
    match own L meth p s vs with
    | some r => .stop r
    | none =>
      (match s with
        | c :: s' => if Has L (p ++ [Tok.b c]) then vis L meth f (p ++ [Tok.b c]) s' vs (bst L p s b) else .back (bst L p s b)
        | [] => .back (bst L p s b)).then fun b1 =>
      (if s ≠ [] ∧ Has L (p ++ [Tok.P]) then vis L meth f (p ++ [Tok.P]) (s.drop (cut L (p ++ [Tok.P]) s)) (vs ++ [s.take (cut L (p ++ [Tok.P]) s)]) b1 else .back b1).then fun b2 =>
      if Has L (p ++ [Tok.A]) then
        match look1 L meth (p ++ [Tok.A]) with
        | some h => .stop (.hit h (vs ++ [s]))
        | none => match lookL L nfName (p ++ [Tok.A]) with
          | some h => .stop (.hit h (vs ++ [s]))
          | none => .stop (.miss (b2.getD (p ++ [Tok.A])) vs)
      else .back b2

theorem Has.mono {L : List Rt} {p p' : List Tok} (h : Has L p') (hp : p <+: p') : Has L p := by
  obtain ⟨rt, h1, h2⟩ := h; exact ⟨rt, h1, hp.trans h2⟩

variable {T : List NR} {q : Nat → List Tok} {R : List En} {root : Nat} {L : List Rt} {z B : Nat}

theorem RInv.hasLen (s : RInv T q R root L z B) {p : List Tok} (h : Has L p) : p.length ≤ 200 := by
  obtain ⟨rt, h1, h2⟩ := h
  exact Nat.le_trans h2.length_le (Rt.tkl (s.rb rt h1))
theorem RInv.hasOk (_s : RInv T q R root L z B) {p : List Tok} (h : Has L p) : ∀ u ∈ p, u.ok := by
  obtain ⟨rt, h1, h2⟩ := h
  exact fun u hu => prs_ok _ _ u (h2.subset hu)
/-- a place of a route is a node's -/
theorem RInv.node (s : RInv T q R root L z B) {rt : Rt} (h : rt ∈ L) : ∃ y ∈ T, q y.n = rt.tk := by
  obtain ⟨e, he, h1⟩ := s.out rt h
  obtain ⟨y, hy, h2⟩ := s.sh.ent e he
  exact ⟨y, hy, h2.trans h1⟩
theorem RInv.Rne (s : RInv T q R root L z B) (h : L ≠ []) : R ≠ [] := by
  cases hL : L with
  | nil => exact absurd hL h
  | cons r l =>
    obtain ⟨e, he, _⟩ := s.out r (by rw [hL]; exact .head _)
    intro h0; rw [h0] at he; cases he
theorem RInv.Lne (s : RInv T q R root L z B) (h : R ≠ []) : L ≠ [] := by
  cases hR : R with
  | nil => exact absurd hR h
  | cons e l =>
    obtain ⟨rt, hr, _⟩ := s.inp e (by rw [hR]; exact .head _)
    intro h0; rw [h0] at hr; cases hr
theorem RInv.hasNode (s : RInv T q R root L z B) (h : L ≠ []) {r : NR} (hr : r ∈ T) : Has L (q r.n) := by
  obtain ⟨e, he, h1⟩ := s.sh.inh (s.Rne h) r hr
  obtain ⟨rt, hrt, h2⟩ := s.inp e he
  exact ⟨rt, hrt, h1.trans h2⟩
/-- what goes on behind a node goes on through a child -/
theorem RInv.hasCh (s : RInv T q R root L z B) {x : NR} (hx : x ∈ T) {t : Tok} (h : Has L (q x.n ++ [t])) : ∃ d, Ch T x d ∧ q x.n ++ [t] <+: q d.n := by
  obtain ⟨rt, h1, h2⟩ := h
  obtain ⟨y, hy, h3⟩ := s.node h1
  obtain ⟨d, h4, h5, _⟩ := s.sh.next hx hy (t := t) (by rw [h3]; exact h2)
  exact ⟨d, h4, h5⟩
theorem RInv.chHas (s : RInv T q R root L z B) (hL : L ≠ []) {x d : NR} (h : Ch T x d) {t : Tok} (hp : q x.n ++ [t] <+: q d.n) : Has L (q x.n ++ [t]) := (s.hasNode hL h.r).mono hp

theorem RInv.pchIff (s : RInv T q R root L z B) (hL : L ≠ []) {x : NR} (hx : x ∈ T) : Has L (q x.n ++ [Tok.P]) ↔ ∃ d ∈ T, x.pch = some d.n := by
  constructor
  · intro h
    obtain ⟨d, h1, h2⟩ := s.hasCh hx h
    cases h1 with
    | st a b c =>
      exfalso
      obtain ⟨_, _, h3, h4, h5⟩ := s.sh.kid x d a b c
      rw [h5] at h2
      have := (List.prefix_append_right_inj _).1 h2
      cases hp : d.pre with
      | nil => exact h3 hp
      | cons a l => rw [hp] at this; simp [bs] at this
    | pa a b c => exact ⟨d, b, c⟩
    | an a b c =>
      exfalso
      rw [(s.sh.ach x d a b c).2.2.2.1] at h2
      have := (List.prefix_append_right_inj _).1 h2
      simp at this
  · rintro ⟨d, hd, h⟩
    refine s.chHas hL (.pa hx hd h) ?_
    rw [(s.sh.pch x d hx hd h).2.2.2]; exact List.prefix_rfl
theorem RInv.achIff (s : RInv T q R root L z B) (hL : L ≠ []) {x : NR} (hx : x ∈ T) : Has L (q x.n ++ [Tok.A]) ↔ ∃ d ∈ T, x.ach = some d.n := by
  constructor
  · intro h
    obtain ⟨d, h1, h2⟩ := s.hasCh hx h
    cases h1 with
    | st a b c =>
      exfalso
      obtain ⟨_, _, h3, h4, h5⟩ := s.sh.kid x d a b c
      rw [h5] at h2
      have := (List.prefix_append_right_inj _).1 h2
      cases hp : d.pre with
      | nil => exact h3 hp
      | cons a l => rw [hp] at this; simp [bs] at this
    | pa a b c =>
      exfalso
      rw [(s.sh.pch x d a b c).2.2.2] at h2
      have := (List.prefix_append_right_inj _).1 h2
      simp at this
    | an a b c => exact ⟨d, b, c⟩
  · rintro ⟨d, hd, h⟩
    refine s.chHas hL (.an hx hd h) ?_
    rw [(s.sh.ach x d hx hd h).2.2.2.1]; exact List.prefix_rfl
/-- the text child -/
theorem RInv.kidSome (s : RInv T q R root L z B) {x : NR} (hx : x ∈ T) {c : UInt8} (h : Has L (q x.n ++ [Tok.b c])) : ∃ d ∈ T, d.n ∈ x.kids ∧ kidOf T x c = some d.n ∧ d.pre.head? = some c := by
  obtain ⟨d, h1, h2⟩ := s.hasCh hx h
  cases h1 with
  | st a b k =>
    obtain ⟨_, _, h3, h4, h5⟩ := s.sh.kid x d a b k
    rw [h5] at h2
    have h6 := (List.prefix_append_right_inj _).1 h2
    cases hp : d.pre with
    | nil => exact absurd hp h3
    | cons a0 l =>
      rw [hp] at h6
      simp only [bs, List.map_cons, List.cons_prefix_cons, Tok.b.injEq] at h6
      have hc : a0 = c := h6.1.symm
      subst hc
      have hlab : d.lab = a0 := by rw [s.sh.lab d b h3, hp]; rfl
      refine ⟨d, b, k, ?_, by rw [hp]; rfl⟩
      unfold kidOf
      cases hf : x.kids.find? (fun a => lbl T a == a0) with
      | none =>
        have := List.find?_eq_none.1 hf d.n k
        rw [lbl_of s.sh.cl.nd b, hlab] at this
        simp at this
      | some y =>
        have h7 := List.find?_some hf
        have h8 := List.mem_of_find?_eq_some hf
        obtain ⟨d2, hd2, rfl⟩ := s.sh.cl.kids x hx y h8
        rw [lbl_of s.sh.cl.nd hd2] at h7
        rw [s.sh.dl x d2 d hx hd2 b h8 k (by rw [hlab]; simpa using h7)]
  | pa a b k =>
    exfalso
    rw [(s.sh.pch x d a b k).2.2.2] at h2
    have := (List.prefix_append_right_inj _).1 h2
    simp at this
  | an a b k =>
    exfalso
    rw [(s.sh.ach x d a b k).2.2.2.1] at h2
    have := (List.prefix_append_right_inj _).1 h2
    simp at this
theorem RInv.kidNone (s : RInv T q R root L z B) (hL : L ≠ []) {x : NR} (hx : x ∈ T) {c : UInt8} (h : ¬ Has L (q x.n ++ [Tok.b c])) : kidOf T x c = none := by
  unfold kidOf
  cases hf : x.kids.find? (fun a => lbl T a == c) with
  | none => rfl
  | some y =>
    exfalso
    have h7 := List.find?_some hf
    have h8 := List.mem_of_find?_eq_some hf
    obtain ⟨d2, hd2, rfl⟩ := s.sh.cl.kids x hx y h8
    rw [lbl_of s.sh.cl.nd hd2] at h7
    obtain ⟨_, _, h3, h4, h5⟩ := s.sh.kid x d2 hx hd2 h8
    refine h (s.chHas hL (.st hx hd2 h8) ?_)
    rw [h5]
    have hlab := s.sh.lab d2 hd2 h3
    cases hp : d2.pre with
    | nil => exact absurd hp h3
    | cons a0 l =>
      rw [hp] at hlab
      have : a0 = c := by
        have h9 : d2.lab = c := by simpa using h7
        rw [← h9, hlab]; rfl
      subst this
      exact ⟨bs l, by simp [bs]⟩
/-- a leaf among the parameters -/
theorem RInv.leafIff (s : RInv T q R root L z B) (hL : L ≠ []) {d : NR} (hd : d ∈ T) (hk : d.kd = 1) : d.leaf = true ↔ leafAt L (q d.n) := by
  rw [s.sh.leaf d hd hk]
  constructor
  · intro h ⟨t, ht⟩
    simp only [Bool.and_eq_true, List.isEmpty_iff, Option.isNone_iff_eq_none] at h
    obtain ⟨e, h1, _⟩ := s.hasCh hd ht
    cases h1 with
    | st _ _ c => rw [h.1.1] at c; cases c
    | pa _ _ c => rw [h.1.2] at c; cases c
    | an _ _ c => rw [h.2] at c; cases c
  · intro h
    have none : ∀ e, Ch T d e → False := fun e he => by
      obtain ⟨t, l, h1, _⟩ := s.sh.ch he
      exact h ⟨t, s.chHas hL he (by rw [h1]; exact ⟨l, by simp⟩)⟩
    have h1 : d.kids = [] := by
      cases hk' : d.kids with
      | nil => rfl
      | cons a l =>
        obtain ⟨e, he, h2⟩ := s.sh.cl.kids d hd a (by rw [hk']; exact .head _)
        exact (none e (.st hd he (by rw [hk', h2]; exact .head _))).elim
    have h2 : d.pch = Option.none := by
      cases hp : d.pch with
      | none => rfl
      | some a => obtain ⟨e, he, h2⟩ := s.sh.cl.pch d hd a hp; exact (none e (.pa hd he (by rw [hp, h2]))).elim
    have h3 : d.ach = Option.none := by
      cases hp : d.ach with
      | none => rfl
      | some a => obtain ⟨e, he, h2⟩ := s.sh.cl.ach d hd a hp; exact (none e (.an hd he (by rw [hp, h2]))).elim
    rw [h1, h2, h3]; rfl
end Bw

/- The plain law of Find: the machine over the nodes does the search over the routes. No program in sight. -/
namespace Bw
open Go Go.Proofs

theorem pre_len_eq {α : Type} {a b : List α} (h : a <+: b) (hl : b.length ≤ a.length) : a = b := h.eq_of_length (Nat.le_antisymm h.length_le hl)

open Classical in
theorem vis_succ (L : List Rt) (meth : List UInt8) (f : Nat) (p : List Tok) (s : List UInt8) (vs : List (List UInt8)) (b : Option (List Tok)) : vis L meth (f + 1) p s vs b =
    match own L meth p s vs with
    | some r => .stop r
    | none =>
      (match s with
        | c :: s' => if Has L (p ++ [Tok.b c]) then vis L meth f (p ++ [Tok.b c]) s' vs (bst L p s b) else .back (bst L p s b)
        | [] => .back (bst L p s b)).then fun b1 =>
      (if s ≠ [] ∧ Has L (p ++ [Tok.P]) then vis L meth f (p ++ [Tok.P]) (s.drop (cut L (p ++ [Tok.P]) s)) (vs ++ [s.take (cut L (p ++ [Tok.P]) s)]) b1 else .back b1).then fun b2 =>
      if Has L (p ++ [Tok.A]) then
        match look1 L meth (p ++ [Tok.A]) with
        | some h => .stop (.hit h (vs ++ [s]))
        | none => match lookL L nfName (p ++ [Tok.A]) with
          | some h => .stop (.hit h (vs ++ [s]))
          | none => .stop (.miss (b2.getD (p ++ [Tok.A])) vs)
      else .back b2 := rfl

/-- along a text that all routes share, the search goes on or goes back -/
theorem vis_edge {L : List Rt} {meth : List UInt8} {vs : List (List UInt8)} {b : Option (List Tok)} : ∀ (l : List UInt8) (f : Nat) (p : List Tok) (s : List UInt8), (∀ rt ∈ L, p <+: rt.tk → p ++ bs l <+: rt.tk) → Has L (p ++ bs l) → l.length ≤ f →
    vis L meth f p s vs b = if l <+: s then vis L meth (f - l.length) (p ++ bs l) (s.drop l.length) vs b else .back b
  | [], f, p, s, _, _, _ => by simp [bs]
  | a :: l, 0, p, s, _, _, hf => by simp at hf
  | a :: l, f + 1, p, s, hall, hh, hf => by
    have next : ∀ t, Has L (p ++ [t]) → t = Tok.b a := by
      rintro t ⟨rt, h1, h2⟩
      have h3 := hall rt h1 ((List.prefix_append _ _).trans h2)
      obtain ⟨u1, e1⟩ := h2
      obtain ⟨u2, e2⟩ := h3
      rw [← e2] at e1
      simp only [List.append_assoc, bs, List.map_cons] at e1
      have := List.append_cancel_left e1
      simp only [List.cons_append, List.cons.injEq] at this
      exact this.1
    have at' : ∀ rt ∈ L, rt.tk ≠ p := fun rt h1 h2 => by
      have h3 := hall rt h1 (by rw [h2]; exact List.prefix_rfl)
      have h4 := h3.length_le
      rw [h2] at h4
      simp [bs] at h4
      omega
    have hH : ¬ HasH L p := fun ⟨rt, h1, h2, _⟩ => at' rt h1 h2
    have hN : lookL L nfName p = none := by
      cases h : lookL L nfName p with
      | none => rfl
      | some v => obtain ⟨rt, h1, _, h2, _⟩ := lookL_mem h; exact absurd h2 (at' rt h1)
    have hown : own L meth p s vs = none := by
      unfold own
      by_cases hs : s = []
      · rw [if_pos hs, if_neg hH, hN]; rfl
      · rw [if_neg hs]
    have hbst : bst L p s b = b := by unfold bst; rw [if_neg (fun h => hH h.2.1)]
    have hP : ¬ Has L (p ++ [Tok.P]) := fun h => by cases next _ h
    have hA : ¬ Has L (p ++ [Tok.A]) := fun h => by cases next _ h
    simp only [vis, hown, hbst, hP, hA, and_false, if_false]
    cases s with
    | nil => simp [VO.then]
    | cons c s' =>
      simp only
      by_cases hc : Has L (p ++ [Tok.b c])
      · rw [if_pos hc]
        have hca := next _ hc
        simp only [Tok.b.injEq] at hca
        subst hca
        have ih := vis_edge (meth := meth) (vs := vs) (b := b) l f (p ++ [Tok.b c]) s' (fun rt h1 h2 => by
          have := hall rt h1 ((List.prefix_append _ _).trans h2)
          simpa [bs] using this) (by simpa [bs] using hh) (by simpa using hf)
        rw [ih]
        simp only [List.cons_prefix_cons, true_and, List.length_cons, List.drop_succ_cons, Nat.add_sub_add_right]
        split
        · rw [show p ++ bs (c :: l) = p ++ [Tok.b c] ++ bs l by simp [bs]]
          cases vis L meth (f - l.length) (p ++ [Tok.b c] ++ bs l) (s'.drop l.length) vs b <;> rfl
        · rfl
      · rw [if_neg hc]
        have : ¬ (a :: l <+: c :: s') := fun h => by
          rw [List.cons_prefix_cons] at h
          rw [← h.1] at hc
          refine hc (hh.mono ⟨bs l, by simp [bs]⟩)
        rw [if_neg this]
        rfl

variable {T : List NR} {q : Nat → List Tok} {R : List En} {root : Nat} {L : List Rt} {z B : Nat}

/-- the best place so far, as a node and as a place -/
def BR (T : List NR) (q : Nat → List Tok) (L : List Rt) (best : Option Nat) (b : Option (List Tok)) : Prop := (best = none ∧ b = none) ∨ ∃ x ∈ T, best = some x.n ∧ b = some (q x.n) ∧ HasH L (q x.n)
def pad (z : Nat) (vs : List (List UInt8)) : List (List UInt8) := vs ++ List.replicate (z - vs.length) []
theorem pad_len {z : Nat} {vs : List (List UInt8)} (h : vs.length ≤ z) : (pad z vs).length = z := by simp [pad]; omega
theorem pad_set {z : Nat} {vs : List (List UInt8)} (h : vs.length < z) (v : List UInt8) : (pad z vs).set vs.length v = pad z (vs ++ [v]) := by
  obtain ⟨n, rfl⟩ : ∃ n, z = vs.length + (n + 1) := ⟨z - vs.length - 1, by omega⟩
  simp only [pad, List.length_append, List.length_singleton]
  rw [show vs.length + (n + 1) - vs.length = n + 1 by omega, show vs.length + (n + 1) - (vs.length + 1) = n by omega, List.replicate_succ]
  simp
theorem pad_unset {z : Nat} {vs : List (List UInt8)} (h : vs.length < z) (v : List UInt8) : (pad z (vs ++ [v])).set vs.length [] = pad z vs := by
  rw [← pad_set h, List.set_set, pad_set h]
  obtain ⟨n, rfl⟩ : ∃ n, z = vs.length + (n + 1) := ⟨z - vs.length - 1, by omega⟩
  simp only [pad, List.length_append, List.length_singleton]
  rw [show vs.length + (n + 1) - vs.length = n + 1 by omega, show vs.length + (n + 1) - (vs.length + 1) = n by omega, List.replicate_succ]
  simp
theorem pad_get {z : Nat} {vs : List (List UInt8)} (v : List UInt8) : (pad z (vs ++ [v]))[vs.length]? = some v := by simp [pad]
theorem pad_set0 {z : Nat} {vs : List (List UInt8)} (h : vs.length < z) : (pad z vs).set vs.length [] = pad z vs := by
  rw [pad_set h]
  obtain ⟨n, rfl⟩ : ∃ n, z = vs.length + (n + 1) := ⟨z - vs.length - 1, by omega⟩
  simp only [pad, List.length_append, List.length_singleton]
  rw [show vs.length + (n + 1) - vs.length = n + 1 by omega, show vs.length + (n + 1) - (vs.length + 1) = n by omega, List.replicate_succ]
  simp

/-- a result, as the machine has it and as the search has it -/
inductive RR (T : List NR) (q : Nat → List Tok) (L : List Rt) (z : Nat) : Res → VR → Prop
  | hit {h vs} : RR T q L z (.hit h (pad z vs)) (.hit h vs)
  | miss {x : NR} {vs} (hx : x ∈ T) : RR T q L z (.miss x.n (pad z vs)) (.miss (q x.n) vs)

theorem RInv.hasZ (s : RInv T q R root L z B) {p : List Tok} (h : Has L p) : cnt p ≤ z := by
  obtain ⟨rt, h1, u, h2⟩ := h
  have h3 := s.zl rt h1
  have h4 := prs_cnt rt.rb.p none
  have h5 : cnt (prs rt.rb.p none).1 = cnt rt.tk := rfl
  rw [h5, ← h2, cnt_app] at h4
  have h6 : rt.nms.length = (prs rt.rb.p none).2.length := rfl
  simp at h4
  omega
end Bw
namespace Bw
open Go Go.Proofs
variable {T : List NR} {q : Nat → List Tok} {R : List En} {root : Nat} {L : List Rt} {z B : Nat}

def Fin' (T : List NR) (q : Nat → List Tok) (L : List Rt) (z : Nat) (Q : Res → Prop) (k : Option Nat → Res → Prop) : VO → Prop
  | .stop vr => ∃ res, Q res ∧ RR T q L z res vr
  | .back b => ∃ best, BR T q L best b ∧ ∀ res, k best res → Q res

theorem Fin'.mono {Q Q' : Res → Prop} {k : Option Nat → Res → Prop} {o : VO} (h : Fin' T q L z Q k o) (hq : ∀ res, Q res → Q' res) : Fin' T q L z Q' k o := by
  cases o with
  | stop vr => obtain ⟨res, h1, h2⟩ := h; exact ⟨res, hq _ h1, h2⟩
  | back b => obtain ⟨best, h1, h2⟩ := h; exact ⟨best, h1, fun res hr => hq _ (h2 res hr)⟩
theorem Fin'.weak {Q : Res → Prop} {k k' : Option Nat → Res → Prop} {o : VO} (h : Fin' T q L z Q k o) (hk : ∀ best res, k' best res → k best res) : Fin' T q L z Q k' o := by
  cases o with
  | stop vr => exact h
  | back b => obtain ⟨best, h1, h2⟩ := h; exact ⟨best, h1, fun res hr => h2 res (hk _ _ hr)⟩
theorem Fin'.then {Q : Res → Prop} {k1 k2 : Option Nat → Res → Prop} {o : VO} {f : Option (List Tok) → VO} (h : Fin' T q L z Q k1 o) (hf : ∀ best b, BR T q L best b → Fin' T q L z (k1 best) k2 (f b)) : Fin' T q L z Q k2 (o.then f) := by
  cases o with
  | stop vr => exact h
  | back b => obtain ⟨best, h1, h2⟩ := h; exact (hf best b h1).mono h2

theorem RInv.chAll (s : RInv T q R root L z B) {x d : NR} {t : Tok} (h : Ch T x d) (hd : q x.n ++ [t] <+: q d.n) {rt : Rt} (hrt : rt ∈ L) (hp : q x.n ++ [t] <+: rt.tk) : q d.n <+: rt.tk := by
  obtain ⟨y, hy, h3⟩ := s.node hrt
  obtain ⟨d', h4, h5, h6⟩ := s.sh.next h.l hy (t := t) (by rw [h3]; exact hp)
  have := s.sh.ch_uniq h h4 hd h5
  rw [this, ← h3]; exact h6
theorem upTo_le (s : List UInt8) : upTo s ≤ s.length := by
  unfold upTo; exact (List.takeWhile_sublist _).length_le
theorem cut_le (L : List Rt) (p : List Tok) (s : List UInt8) : cut L p s ≤ s.length := by
  unfold cut; split
  · exact Nat.le_refl _
  · exact upTo_le s
theorem cnt_bs (l : List UInt8) : cnt (bs l) = 0 := by
  induction l with
  | nil => rfl
  | cons a l ih => exact ih

section
variable {meth path : List UInt8}
/-- the any part -/
theorem RInv.runAny (s : RInv T q R root L z B) (hL : L ≠ []) {r : NR} (hr : r ∈ T) {si : Nat} {vs : List (List UInt8)} (hvs : vs.length = cnt (q r.n)) (best : Option Nat) (b : Option (List Tok)) (hb : BR T q L best b) :
    Fin' T q L z (Run T meth path 2 ⟨r.n, si, vs.length, pad z vs, best⟩) (fun best' res => r.ach = none → Run T meth path 2 ⟨r.n, si, vs.length, pad z vs, best'⟩ res)
      (open Classical in if Has L (q r.n ++ [Tok.A]) then
        match look1 L meth (q r.n ++ [Tok.A]) with
        | some h => .stop (.hit h (vs ++ [path.drop si]))
        | none => match lookL L nfName (q r.n ++ [Tok.A]) with
          | some h => .stop (.hit h (vs ++ [path.drop si]))
          | none => .stop (.miss (b.getD (q r.n ++ [Tok.A])) vs)
      else .back b) := by
  by_cases hA : Has L (q r.n ++ [Tok.A])
  · rw [if_pos hA]
    obtain ⟨d, hd, hda⟩ := (s.achIff hL hr).1 hA
    obtain ⟨hk, hpar, hpre, hq, _, _, _, hpc⟩ := s.sh.ach r d hr hd hda
    have hc1 : cnt (q d.n) = vs.length + 1 := by rw [hq, cnt_app, hvs]; rfl
    have hz : vs.length < z := by
      have := s.hasZ hA; rw [← hq, hc1] at this; omega
    have hv : vs.length < (pad z vs).length := by rw [pad_len (Nat.le_of_lt hz)]; exact hz
    have hget := s.get hd meth
    have hnf := s.nf hd
    rw [hq] at hget hnf
    cases h1 : look1 L meth (q r.n ++ [Tok.A]) with
    | some h =>
      simp only
      refine ⟨_, .anyHit (st := ⟨r.n, si, vs.length, pad z vs, best⟩) hr rfl hda hd (by rw [hpc, hc1]) hv (h := h) (by rw [hget]; exact h1), ?_⟩
      rw [pad_set hz]; exact .hit
    | none =>
      simp only
      cases h2 : lookL L nfName (q r.n ++ [Tok.A]) with
      | some h =>
        simp only
        refine ⟨_, .anyNf (st := ⟨r.n, si, vs.length, pad z vs, best⟩) hr rfl hda hd (by rw [hpc, hc1]) hv (h := h) (by rw [hget]; exact h1) (by rw [hnf]; exact h2), ?_⟩
        rw [pad_set hz]; exact .hit
      | none =>
        simp only
        refine ⟨_, .anyStop (st := ⟨r.n, si, vs.length, pad z vs, best⟩) hr rfl hda hd hk (by rw [hpc, hc1]) hv (by rw [hget]; exact h1) (by rw [hnf]; exact h2), ?_⟩
        rw [pad_set0 hz]
        rcases hb with ⟨rfl, rfl⟩ | ⟨x, hx, rfl, rfl, _⟩
        · have := RR.miss (q := q) (L := L) (z := z) (vs := vs) hd
          rw [hq] at this; exact this
        · exact .miss hx
  · rw [if_neg hA]
    have hn : r.ach = none := by
      cases h : r.ach with
      | none => rfl
      | some a =>
        obtain ⟨d, hd, h2⟩ := s.sh.cl.ach r hr a h
        exact absurd ((s.achIff hL hr).2 ⟨d, hd, by rw [h, h2]⟩) hA
    exact ⟨best, hb, fun res h => h hn⟩

/-- what the theorem says of a node -/
def NodeRun (T : List NR) (q : Nat → List Tok) (L : List Rt) (z : Nat) (meth path : List UInt8) (f : Nat) (r : NR) : Prop :=
  ∀ si vs best b, si ≤ path.length → (r.kd = 0 → r.pre <+: path.drop si) → vs.length = cnt (q r.n) → BR T q L best b →
    Fin' T q L z (Run T meth path 0 ⟨r.n, si, vs.length, pad z vs, best⟩) (fun best' res => r.ach = none → Run T meth path 2 ⟨r.n, adv r si, vs.length, pad z vs, best'⟩ res) (vis L meth f (q r.n) (path.drop (adv r si)) vs b)

/-- the parameter part -/
theorem RInv.runPar (s : RInv T q R root L z B) (hL : L ≠ []) {f : Nat} {r : NR} (hr : r ∈ T) (ih : ∀ d ∈ T, d.kd = 0 ∨ d.kd = 1 → (q r.n).length < (q d.n).length → ∀ g, g ≤ f → 202 ≤ g + (q d.n).length → NodeRun T q L z meth path g d) (hf : 202 ≤ f + 1 + (q r.n).length)
    {si : Nat} {vs : List (List UInt8)} (hsi : si ≤ path.length) (hvs : vs.length = cnt (q r.n)) (best : Option Nat) (b : Option (List Tok)) (hb : BR T q L best b) :
    Fin' T q L z (Run T meth path 1 ⟨r.n, si, vs.length, pad z vs, best⟩) (fun best' res => Run T meth path 2 ⟨r.n, si, vs.length, pad z vs, best'⟩ res)
      (open Classical in if path.drop si ≠ [] ∧ Has L (q r.n ++ [Tok.P]) then vis L meth f (q r.n ++ [Tok.P]) ((path.drop si).drop (cut L (q r.n ++ [Tok.P]) (path.drop si))) (vs ++ [(path.drop si).take (cut L (q r.n ++ [Tok.P]) (path.drop si))]) b else .back b) := by
  by_cases hP : path.drop si ≠ [] ∧ Has L (q r.n ++ [Tok.P])
  · rw [if_pos hP]
    obtain ⟨d, hd, hdp⟩ := (s.pchIff hL hr).1 hP.2
    obtain ⟨hk, hpar, hpre, hq⟩ := s.sh.pch r d hr hd hdp
    have hc1 : cnt (q d.n) = vs.length + 1 := by rw [hq, cnt_app, hvs]; rfl
    have hz : vs.length < z := by
      have := s.hasZ hP.2; rw [← hq, hc1] at this; omega
    have hv : vs.length < (pad z vs).length := by rw [pad_len (Nat.le_of_lt hz)]; exact hz
    have hcut : cut L (q r.n ++ [Tok.P]) (path.drop si) = (if d.leaf then (path.drop si).length else upTo (path.drop si)) := by
      unfold cut
      rw [← hq]
      by_cases hl : d.leaf = true
      · rw [if_pos ((s.leafIff hL hd hk).1 hl), if_pos hl]
      · rw [if_neg (fun h => hl ((s.leafIff hL hd hk).2 h)), if_neg hl]
    have hle := cut_le L (q r.n ++ [Tok.P]) (path.drop si)
    generalize hcc : cut L (q r.n ++ [Tok.P]) (path.drop si) = c at *
    have hsi' : si + c ≤ path.length := by rw [List.length_drop] at hle; omega
    have hadv : adv d (si + c) = si + c := by unfold adv; rw [if_neg (by omega)]
    have h := ih d hd (.inr hk) (by rw [hq]; simp) f (Nat.le_refl _) (by rw [hq]; simp; omega) (si + c) (vs ++ [(path.drop si).take c]) best b hsi' (fun h => by omega) (by rw [hc1]; simp) hb
    rw [hadv, hq, show path.drop (si + c) = (path.drop si).drop c by rw [List.drop_drop]] at h
    refine (h.mono fun res hres => ?_).weak fun best' res hres hach => ?_
    · refine .par (st := ⟨r.n, si, vs.length, pad z vs, best⟩) hr rfl hdp hd hP.1 hv ?_
      simp only
      rw [← hcut, pad_set hz]
      simpa using hres
    · refine .up1 (v := (path.drop si).take c) (p := r.n) hd rfl hach hk (by simp) ?_ ?_ hpar ?_
      · simp only [List.length_append, List.length_singleton, Nat.add_sub_cancel]
        exact pad_get _
      · simp only [List.length_take]; omega
      · simp only [List.length_append, List.length_singleton, Nat.add_sub_cancel]
        rw [pad_unset hz, List.length_take, Nat.min_eq_left hle, Nat.add_sub_cancel]
        exact hres
  · rw [if_neg hP]
    refine ⟨best, hb, fun res hres => .npar (st := ⟨r.n, si, vs.length, pad z vs, best⟩) hr rfl ?_ hres⟩
    by_cases hs : path.drop si = []
    · exact .inr hs
    · left
      cases h : r.pch with
      | none => rfl
      | some a =>
        obtain ⟨d, hd, h2⟩ := s.sh.cl.pch r hr a h
        exact absurd ⟨hs, (s.pchIff hL hr).2 ⟨d, hd, by rw [h, h2]⟩⟩ hP

/-- the text part -/
theorem RInv.runText (s : RInv T q R root L z B) (hL : L ≠ []) {f : Nat} {r : NR} (hr : r ∈ T) (ih : ∀ d ∈ T, d.kd = 0 ∨ d.kd = 1 → (q r.n).length < (q d.n).length → ∀ g, g ≤ f → 202 ≤ g + (q d.n).length → NodeRun T q L z meth path g d) (hf : 202 ≤ f + 1 + (q r.n).length)
    {si : Nat} {vs : List (List UInt8)} (hsi : si ≤ path.length) (hk : r.kd = 0 → r.pre <+: path.drop si) (hvs : vs.length = cnt (q r.n)) (best : Option Nat) (b : Option (List Tok)) (hb : BR T q L best b)
    (hown : Bw.own L meth (q r.n) (path.drop (adv r si)) vs = none) :
    Fin' T q L z (Run T meth path 0 ⟨r.n, si, vs.length, pad z vs, best⟩) (fun best' res => Run T meth path 1 ⟨r.n, adv r si, vs.length, pad z vs, best'⟩ res)
      (open Classical in match path.drop (adv r si) with
        | c :: s' => if Has L (q r.n ++ [Tok.b c]) then vis L meth f (q r.n ++ [Tok.b c]) s' vs (bst L (q r.n) (path.drop (adv r si)) b) else .back (bst L (q r.n) (path.drop (adv r si)) b)
        | [] => .back (bst L (q r.n) (path.drop (adv r si)) b)) := by
  have hb1 : BR T q L (best1 r path (adv r si) best) (bst L (q r.n) (path.drop (adv r si)) b) := by
    unfold best1 bst
    rcases hb with ⟨rfl, rfl⟩ | ⟨x, hx, rfl, rfl, hH⟩
    · by_cases h : path.drop (adv r si) = [] ∧ r.hdl = true
      · have hH := (s.hdlIff hr).1 h.2
        rw [if_pos ⟨h.1, h.2, rfl⟩, if_pos ⟨h.1, hH, rfl⟩]
        exact .inr ⟨r, hr, rfl, rfl, hH⟩
      · rw [if_neg (fun h' => h ⟨h'.1, h'.2.1⟩), if_neg (fun h' => h ⟨h'.1, (s.hdlIff hr).2 h'.2.1⟩)]
        exact .inl ⟨rfl, rfl⟩
    · rw [if_neg (fun h => by cases h.2.2), if_neg (fun h => by cases h.2.2)]
      exact .inr ⟨x, hx, rfl, rfl, hH⟩
  have hadv : adv r si ≤ path.length := adv_le hk hsi
  have he : path.drop (adv r si) = [] → (r.hdl = true → getM r.f r.kv meth = none) ∧ (r.hdl = false → r.nf = none) := fun h => by
    unfold Bw.own at hown
    rw [if_pos h] at hown
    constructor
    · intro hh
      rw [if_pos ((s.hdlIff hr).1 hh)] at hown
      rw [s.get hr]; exact Option.map_eq_none_iff.1 hown
    · intro hh
      rw [if_neg (fun h => by rw [(s.hdlIff hr).2 h] at hh; cases hh)] at hown
      rw [s.nf hr]; exact Option.map_eq_none_iff.1 hown
  cases hs : path.drop (adv r si) with
  | nil =>
    simp only
    rw [hs] at hb1
    exact ⟨_, hb1, fun res hres => .stay (st := ⟨r.n, si, vs.length, pad z vs, best⟩) hr rfl hk he (fun h => absurd hs h) hres⟩
  | cons c s' =>
    simp only
    by_cases hH : Has L (q r.n ++ [Tok.b c])
    · rw [if_pos hH]
      have hbst : bst L (q r.n) (c :: s') b = b := by unfold bst; rw [if_neg (fun h => by cases h.1)]
      rw [hbst]
      obtain ⟨d, hd, hdk, hkid, hhead⟩ := s.kidSome hr hH
      obtain ⟨hk0, hpar, hpre, hokB, hq⟩ := s.sh.kid r d hr hd hdk
      obtain ⟨l, hl⟩ : ∃ l, d.pre = c :: l := by
        cases hp : d.pre with
        | nil => exact absurd hp hpre
        | cons a l => rw [hp] at hhead; simp only [List.head?_cons, Option.some.injEq] at hhead; exact ⟨l, by rw [hhead]⟩
      have hq' : q r.n ++ [Tok.b c] ++ bs l = q d.n := by rw [hq, hl]; simp [bs]
      have hlen : (q d.n).length = (q r.n).length + 1 + l.length := by rw [← hq']; simp [bs]; omega
      have hd200 := s.hasLen (s.hasNode hL hd)
      have hcd : Ch T r d := .st hr hd hdk
      have hpd : q r.n ++ [Tok.b c] <+: q d.n := ⟨bs l, hq'⟩
      rw [vis_edge l f _ s' (fun rt h1 h2 => by rw [hq']; exact s.chAll hcd hpd h1 h2) (by rw [hq']; exact s.hasNode hL hd) (by omega)]
      have hne : path.drop (adv r si) ≠ [] := by rw [hs]; simp
      have hdown : ∀ {x}, Run T meth path 0 ⟨d.n, adv r si, vs.length, pad z vs, best⟩ x → Run T meth path 0 ⟨r.n, si, vs.length, pad z vs, best⟩ x := fun h =>
        .down (st := ⟨r.n, si, vs.length, pad z vs, best⟩) hr rfl hk hne (by rw [hs]; exact hkid) h
      by_cases hm : l <+: s'
      · rw [if_pos hm, hq']
        have hpm : d.pre <+: path.drop (adv r si) := by rw [hl, hs, List.cons_prefix_cons]; exact ⟨rfl, hm⟩
        have hadv2 : adv d (adv r si) = adv r si + d.pre.length := by unfold adv; rw [if_pos hk0]
        have h := ih d hd (.inl hk0) (by omega) (f - l.length) (by omega) (by omega) (adv r si) vs best b hadv (fun _ => hpm) (by rw [hvs, hq, cnt_app, cnt_bs]; omega) hb
        rw [hadv2, show path.drop (adv r si + d.pre.length) = s'.drop l.length by rw [← List.drop_drop, hs, hl]; rfl] at h
        refine (h.mono fun res hres => hdown hres).weak fun best' res hres hach => ?_
        refine .up0 (p := r.n) hd rfl hach hk0 (by simp) hpar ?_
        simp only [Nat.add_sub_cancel]
        exact hres
      · rw [if_neg hm]
        refine ⟨best, hb, fun res hres => hdown ?_⟩
        refine .off1 (p := r.n) hd rfl hk0 ?_ hpar hres
        show ¬ d.pre <+: path.drop (adv r si)
        rw [hl, hs, List.cons_prefix_cons]
        exact fun h => hm h.2
    · rw [if_neg hH]
      rw [hs] at hb1
      refine ⟨_, hb1, fun res hres => .stay (st := ⟨r.n, si, vs.length, pad z vs, best⟩) hr rfl hk he (fun _ => ?_) hres⟩
      show kidOf T r ((path.drop (adv r si)).headD 0) = none
      rw [hs]
      exact s.kidNone hL hr hH

theorem RInv.nodeRun (s : RInv T q R root L z B) (hL : L ≠ []) : ∀ f r, r ∈ T → r.kd = 0 ∨ r.kd = 1 → 202 ≤ f + (q r.n).length → NodeRun T q L z meth path f r := by
  intro f
  induction f using Nat.strongRecOn with
  | _ f IH =>
  intro r hr hkd hf si vs best b hsi hk hvs hb
  have h200 := s.hasLen (s.hasNode hL hr)
  obtain ⟨f, rfl⟩ : ∃ g, f = g + 1 := ⟨f - 1, by omega⟩
  have ih : ∀ d ∈ T, d.kd = 0 ∨ d.kd = 1 → (q r.n).length < (q d.n).length → ∀ g, g ≤ f → 202 ≤ g + (q d.n).length → NodeRun T q L z meth path g d := fun d hd hk1 _ g hg h => IH g (by omega) d hd hk1 h
  have hadv : adv r si ≤ path.length := adv_le hk hsi
  rw [vis_succ]
  cases hown : Bw.own L meth (q r.n) (path.drop (adv r si)) vs with
  | some vr =>
    simp only
    unfold Bw.own at hown
    split at hown
    · rename_i he
      split at hown
      · rename_i hH
        obtain ⟨h, h1, rfl⟩ := Option.map_eq_some_iff.1 hown
        exact ⟨_, .hit (st := ⟨r.n, si, vs.length, pad z vs, best⟩) hr rfl hk he ((s.hdlIff hr).2 hH) (by rw [s.get hr]; exact h1), .hit⟩
      · rename_i hH
        obtain ⟨h, h1, rfl⟩ := Option.map_eq_some_iff.1 hown
        refine ⟨_, .nf (st := ⟨r.n, si, vs.length, pad z vs, best⟩) hr rfl hk he ?_ (by rw [s.nf hr]; exact h1), .hit⟩
        cases hh : r.hdl with
        | false => rfl
        | true => exact absurd ((s.hdlIff hr).1 hh) hH
    · cases hown
  | none =>
    simp only
    refine (s.runText hL hr ih hf hsi hk hvs best b hb hown).then fun best1 b1 hb1 => ?_
    refine (s.runPar hL hr ih hf hadv hvs best1 b1 hb1).then fun best2 b2 hb2 => ?_
    exact s.runAny hL hr hvs best2 b2 hb2
end
end Bw
namespace Bw
open Go Go.Proofs
variable {T : List NR} {q : Nat → List Tok} {R : List En} {root : Nat} {L : List Rt} {z B : Nat}

/-- what Find ends with, in the places' words -/
inductive VF (T : List NR) (q : Nat → List Tok) (L : List Rt) (z : Nat) : Res → VO → Prop
  | hit {h vs} : VF T q L z (.hit h (pad z vs)) (.stop (.hit h vs))
  | miss {x : NR} {vs} (hx : x ∈ T) : VF T q L z (.miss x.n (pad z vs)) (.stop (.miss (q x.n) vs))
  | back {x : NR} (hx : x ∈ T) (hH : HasH L (q x.n)) : VF T q L z (.miss x.n (pad z [])) (.back (some (q x.n)))
  | none : VF T q L z (.none' (pad z [])) (.back none)

theorem VF.of {res : Res} {vr : VR} (h : RR T q L z res vr) : VF T q L z res (.stop vr) := by
  cases h with
  | hit => exact .hit
  | miss hx => exact .miss hx

theorem VF.of_fin {Q : Res → Prop} {k : Option Nat → Res → Prop} {o : VO} (h : Fin' T q L z Q k o) (hk : ∀ best, k best (resOf best (pad z []))) : ∃ res, Q res ∧ VF T q L z res o := by
  cases o with
  | stop vr => obtain ⟨res, h1, h2⟩ := h; exact ⟨res, h1, .of h2⟩
  | back b =>
    obtain ⟨best, h1, h2⟩ := h
    refine ⟨_, h2 _ (hk best), ?_⟩
    rcases h1 with ⟨rfl, rfl⟩ | ⟨x, hx, rfl, rfl, hH⟩
    · exact .none
    · exact .back hx hH

theorem RInv.topRun (s : RInv T q R root L z B) (meth path : List UInt8) : ∃ res, Run T meth path 0 ⟨root, 0, 0, List.replicate z [], none⟩ res ∧ VF T q L z res (vis L meth 202 [] path [] none) := by
  obtain ⟨r, hr, hrn, hpar, hk, hokB, hq, hpre⟩ := s.sh.rt
  have hpad : List.replicate z [] = pad z ([] : List (List UInt8)) := by simp [pad]
  by_cases hL : L = []
  · have hR : R = [] := by
      cases h : R with
      | nil => rfl
      | cons e l => exact absurd hL (s.Lne (by rw [h]; simp))
    obtain ⟨_, hp0, hkids, hpch, hach⟩ := s.sh.one hR r hr
    have hH : ∀ p, ¬ HasH L p := fun p ⟨rt, h, _⟩ => by rw [hL] at h; cases h
    have hHas : ∀ p, ¬ Has L p := fun p ⟨rt, h, _⟩ => by rw [hL] at h; cases h
    have hhdl : ¬ r.hdl = true := fun h => hH _ ((s.hdlIff hr).1 h)
    have hvis : vis L meth 202 [] path [] none = .back none := by
      have hown : Bw.own L meth [] path [] = none := by
        unfold Bw.own
        by_cases hs : path = []
        · rw [if_pos hs, if_neg (hH _), hL]; rfl
        · rw [if_neg hs]
      have hbst : bst L [] path none = none := by unfold bst; rw [if_neg (fun h => hH _ h.2.1)]
      rw [show (202 : Nat) = 201 + 1 from rfl, vis_succ, hown, hbst]
      simp only [hHas, if_false, and_false]
      cases path <;> rfl
    rw [hvis]
    refine ⟨_, ?_, .none⟩
    have hadv : adv r 0 = 0 := by unfold adv; rw [hp0]; simp
    have hb1 : best1 r path 0 none = none := by unfold best1; rw [if_neg (fun h => hhdl h.2.1)]
    refine .stay (st := ⟨root, 0, 0, List.replicate z [], none⟩) hr hrn (fun _ => by rw [hp0]; exact List.nil_prefix) (fun _ => ⟨fun h => absurd h hhdl, fun _ => ?_⟩) (fun _ => ?_) ?_
    · rw [s.nf hr, hL]; rfl
    · unfold kidOf; rw [hkids]; rfl
    · rw [hadv, hb1, hpad]
      refine .npar (st := ⟨root, 0, 0, pad z [], none⟩) hr hrn (.inl hpch) ?_
      exact .end0 (st := ⟨root, 0, 0, pad z [], none⟩) hr hrn hach hk (by rw [hp0]; exact Nat.le_refl _) hpar
  · have hall : ∀ rt ∈ L, bs r.pre <+: rt.tk := fun rt hrt => by
      obtain ⟨y, hy, h⟩ := s.node hrt
      rw [← h, ← hq, ← hrn, hrn]
      exact s.sh.rch_pre (s.sh.reach y hy)
    have hqr : q r.n = bs r.pre := by rw [hrn, hq]
    have hHr := s.hasNode hL hr
    have h200 := s.hasLen hHr
    have hlen : (q r.n).length = r.pre.length := by rw [hqr]; simp [bs]
    have hedge := vis_edge (L := L) (meth := meth) (vs := []) (b := none) r.pre 202 [] path (fun rt h _ => by rw [List.nil_append]; exact hall rt h) (by rw [List.nil_append, ← hqr]; exact hHr) (by omega)
    rw [hedge, List.nil_append, ← hqr, hpad, ← hrn]
    by_cases hm : r.pre <+: path
    · rw [if_pos hm]
      have hadv : adv r 0 = r.pre.length := by unfold adv; rw [if_pos hk]; omega
      have h := s.nodeRun (meth := meth) (path := path) hL (202 - r.pre.length) r hr (.inl hk) (by omega) 0 [] none none (Nat.zero_le _) (fun _ => by simpa using hm) (by rw [hqr, cnt_bs]; rfl) (.inl ⟨rfl, rfl⟩)
      rw [hadv] at h
      refine VF.of_fin h fun best hach => ?_
      exact .end0 (st := ⟨r.n, r.pre.length, 0, pad z [], best⟩) hr rfl hach hk (Nat.le_refl _) hpar
    · rw [if_neg hm]
      exact ⟨_, .off0 (st := ⟨r.n, 0, 0, pad z [], none⟩) hr rfl hk (by simpa using hm) hpar, .none⟩
end Bw

/- The search over routes, whatever a route is. No program in sight. -/
namespace Bw
open Go Go.Proofs

structure Kn (α : Type) where
  has : List Tok → Prop
  hasH : List Tok → Prop
  look : List UInt8 → List Tok → Option α
inductive VRk (α : Type) where
  | hit (a : α) (vs : List (List UInt8))
  | miss (p : List Tok) (vs : List (List UInt8))
inductive VOk (α : Type) where
  | stop (r : VRk α)
  | back (b : Option (List Tok))
def VOk.then {α : Type} (o : VOk α) (k : Option (List Tok) → VOk α) : VOk α :=
  match o with
  | .stop r => .stop r
  | .back b => k b
def VRk.map {α β : Type} (f : α → β) : VRk α → VRk β
  | .hit a vs => .hit (f a) vs
  | .miss p vs => .miss p vs
def VOk.map {α β : Type} (f : α → β) : VOk α → VOk β
  | .stop r => .stop (r.map f)
  | .back b => .back b
def Kn.map {α β : Type} (f : α → β) (K : Kn α) : Kn β := ⟨K.has, K.hasH, fun m p => (K.look m p).map f⟩
def Kn.look1 {α : Type} (K : Kn α) (meth : List UInt8) (p : List Tok) : Option α := if meth = nfName then none else K.look meth p
open Classical in
noncomputable def Kn.own {α : Type} (K : Kn α) (meth : List UInt8) (p : List Tok) (s : List UInt8) (vs : List (List UInt8)) : Option (VRk α) :=
  if s = [] then (if K.hasH p then (K.look1 meth p).map (VRk.hit · vs) else (K.look nfName p).map (VRk.hit · vs)) else none
open Classical in
noncomputable def Kn.bst {α : Type} (K : Kn α) (p : List Tok) (s : List UInt8) (b : Option (List Tok)) : Option (List Tok) := if s = [] ∧ K.hasH p ∧ b = none then some p else b
def Kn.leaf {α : Type} (K : Kn α) (p : List Tok) : Prop := ¬ ∃ t, K.has (p ++ [t])
open Classical in
noncomputable def Kn.cut {α : Type} (K : Kn α) (p : List Tok) (s : List UInt8) : Nat := if K.leaf p then s.length else upTo s
open Classical in
noncomputable def Kn.any {α : Type} (K : Kn α) (meth : List UInt8) (p : List Tok) (s : List UInt8) (vs : List (List UInt8)) (b : Option (List Tok)) : VOk α :=
  if K.has (p ++ [Tok.A]) then
    match K.look1 meth (p ++ [Tok.A]) with
    | some h => .stop (.hit h (vs ++ [s]))
    | none => match K.look nfName (p ++ [Tok.A]) with
      | some h => .stop (.hit h (vs ++ [s]))
      | none => .stop (.miss (b.getD (p ++ [Tok.A])) vs)
  else .back b
open Classical in
noncomputable def visK {α : Type} (K : Kn α) (meth : List UInt8) : Nat → List Tok → List UInt8 → List (List UInt8) → Option (List Tok) → VOk α
  | 0, _, _, _, b => .back b
  | f + 1, p, s, vs, b =>
    match K.own meth p s vs with
    | some r => .stop r
    | none =>
      (match s with
        | c :: s' => if K.has (p ++ [Tok.b c]) then visK K meth f (p ++ [Tok.b c]) s' vs (K.bst p s b) else .back (K.bst p s b)
        | [] => .back (K.bst p s b)).then fun b1 =>
      (if s ≠ [] ∧ K.has (p ++ [Tok.P]) then visK K meth f (p ++ [Tok.P]) (s.drop (K.cut (p ++ [Tok.P]) s)) (vs ++ [s.take (K.cut (p ++ [Tok.P]) s)]) b1 else .back b1).then fun b2 =>
      K.any meth p s vs b2

open Classical in
theorem visK_succ {α : Type} (K : Kn α) (meth : List UInt8) (f : Nat) (p : List Tok) (s : List UInt8) (vs : List (List UInt8)) (b : Option (List Tok)) : visK K meth (f + 1) p s vs b =
    match K.own meth p s vs with
    | some r => .stop r
    | none =>
      (match s with
        | c :: s' => if K.has (p ++ [Tok.b c]) then visK K meth f (p ++ [Tok.b c]) s' vs (K.bst p s b) else .back (K.bst p s b)
        | [] => .back (K.bst p s b)).then fun b1 =>
      (if s ≠ [] ∧ K.has (p ++ [Tok.P]) then visK K meth f (p ++ [Tok.P]) (s.drop (K.cut (p ++ [Tok.P]) s)) (vs ++ [s.take (K.cut (p ++ [Tok.P]) s)]) b1 else .back b1).then fun b2 =>
      K.any meth p s vs b2 := rfl

open Classical in
noncomputable def Kn.text {α : Type} (K : Kn α) (g : List Tok → List UInt8 → VOk α) (p : List Tok) (s : List UInt8) (b : Option (List Tok)) : VOk α :=
  match s with
  | c :: s' => if K.has (p ++ [Tok.b c]) then g (p ++ [Tok.b c]) s' else .back b
  | [] => .back b
open Classical in
noncomputable def Kn.par {α : Type} (K : Kn α) (g : List Tok → List UInt8 → List UInt8 → VOk α) (p : List Tok) (s : List UInt8) (b : Option (List Tok)) : VOk α :=
  if s ≠ [] ∧ K.has (p ++ [Tok.P]) then g (p ++ [Tok.P]) (s.drop (K.cut (p ++ [Tok.P]) s)) (s.take (K.cut (p ++ [Tok.P]) s)) else .back b
theorem visK_parts {α : Type} (K : Kn α) (meth : List UInt8) (f : Nat) (p : List Tok) (s : List UInt8) (vs : List (List UInt8)) (b : Option (List Tok)) : visK K meth (f + 1) p s vs b =
    match K.own meth p s vs with
    | some r => .stop r
    | none => (K.text (fun p' s' => visK K meth f p' s' vs (K.bst p s b)) p s (K.bst p s b)).then fun b1 =>
      (K.par (fun p' s' v => visK K meth f p' s' (vs ++ [v]) b1) p s b1).then fun b2 => K.any meth p s vs b2 := by
  rw [visK_succ]
  cases s <;> rfl

theorem VOk.map_then {α β : Type} {f : α → β} {o : VOk α} {k : Option (List Tok) → VOk α} : (o.then k).map f = (o.map f).then fun b => (k b).map f := by
  cases o <;> rfl
theorem ite_map {α β : Type} {f : α → β} {c : Prop} [Decidable c] {x y : VOk α} : (if c then x else y).map f = if c then x.map f else y.map f := by split <;> rfl

open Classical in
theorem Kn.own_map {α β : Type} (f : α → β) (K : Kn α) (meth : List UInt8) (p : List Tok) (s : List UInt8) (vs : List (List UInt8)) : (K.map f).own meth p s vs = (K.own meth p s vs).map (VRk.map f) := by
  unfold Kn.own Kn.look1 Kn.map
  simp only
  split
  · split
    · split
      · rfl
      · cases K.look meth p <;> rfl
    · cases K.look nfName p <;> rfl
  · rfl
open Classical in
theorem Kn.any_map {α β : Type} (f : α → β) (K : Kn α) (meth : List UInt8) (p : List Tok) (s : List UInt8) (vs : List (List UInt8)) (b : Option (List Tok)) : (K.map f).any meth p s vs b = (K.any meth p s vs b).map f := by
  unfold Kn.any
  rw [ite_map]
  simp only [Kn.look1, Kn.map]
  congr 1
  by_cases hm : meth = nfName
  · simp only [hm, if_true]
    cases K.look nfName (p ++ [Tok.A]) <;> rfl
  · simp only [hm, if_false]
    cases K.look meth (p ++ [Tok.A]) with
    | some a => rfl
    | none => cases K.look nfName (p ++ [Tok.A]) <;> rfl
open Classical in
theorem visK_map {α β : Type} (f : α → β) (K : Kn α) (meth : List UInt8) : ∀ n p s vs b, visK (K.map f) meth n p s vs b = (visK K meth n p s vs b).map f
  | 0, _, _, _, _ => rfl
  | n + 1, p, s, vs, b => by
    rw [visK_succ, visK_succ, Kn.own_map]
    cases K.own meth p s vs with
    | some r => rfl
    | none =>
      simp only [Option.map_none, VOk.map_then]
      congr 1
      · cases s with
        | nil => rfl
        | cons c s' => simp only [ite_map]; rw [visK_map f K meth n]; rfl
      · funext b1
        rw [ite_map]
        congr 1
        · rw [visK_map f K meth n]; rfl
        · funext b2; exact Kn.any_map f K meth p s vs b2

def VRk.toVR {α : Type} (f : α → Nat) : VRk α → VR
  | .hit a vs => .hit (f a) vs
  | .miss p vs => .miss p vs
def VOk.toVO {α : Type} (f : α → Nat) : VOk α → VO
  | .stop r => .stop (r.toVR f)
  | .back b => .back b

/-- routes of any kind -/
def lookO {α : Type} (tk : α → List Tok) (m : α → List UInt8) : List α → List UInt8 → List Tok → Option α
  | [], _, _ => none
  | a :: l, m', p => if tk a = p ∧ m a = m' then some a else lookO tk m l m' p
def KOf {α : Type} (tk : α → List Tok) (m : α → List UInt8) (l : List α) : Kn α := ⟨fun p => ∃ a ∈ l, p <+: tk a, fun p => ∃ a ∈ l, tk a = p ∧ m a ≠ nfName, lookO tk m l⟩

theorem lookO_map {α β : Type} {tk : α → List Tok} {m : α → List UInt8} {tk' : β → List Tok} {m' : β → List UInt8} (f : α → β) (h1 : ∀ a, tk' (f a) = tk a) (h2 : ∀ a, m' (f a) = m a) (x : List UInt8) (p : List Tok) : ∀ l, lookO tk' m' (l.map f) x p = (lookO tk m l x p).map f
  | [] => rfl
  | a :: l => by
    simp only [List.map_cons, lookO, h1, h2]
    split
    · rfl
    · exact lookO_map f h1 h2 x p l
theorem KOf_map {α β : Type} {tk : α → List Tok} {m : α → List UInt8} {tk' : β → List Tok} {m' : β → List UInt8} (f : α → β) (h1 : ∀ a, tk' (f a) = tk a) (h2 : ∀ a, m' (f a) = m a) (l : List α) : KOf tk' m' (l.map f) = (KOf tk m l).map f := by
  unfold KOf Kn.map
  congr 1
  · funext p; exact propext ⟨fun ⟨b, hb, hp⟩ => by obtain ⟨a, ha, rfl⟩ := List.mem_map.1 hb; exact ⟨a, ha, by rw [← h1]; exact hp⟩, fun ⟨a, ha, hp⟩ => ⟨f a, List.mem_map.2 ⟨a, ha, rfl⟩, by rw [h1]; exact hp⟩⟩
  · funext p; exact propext ⟨fun ⟨b, hb, hp, hm⟩ => by obtain ⟨a, ha, rfl⟩ := List.mem_map.1 hb; exact ⟨a, ha, by rw [← h1]; exact hp, by rw [← h2]; exact hm⟩, fun ⟨a, ha, hp, hm⟩ => ⟨f a, List.mem_map.2 ⟨a, ha, rfl⟩, by rw [h1]; exact hp, by rw [h2]; exact hm⟩⟩
  · funext x p; exact lookO_map f h1 h2 x p l
theorem lookO_some {α : Type} {tk : α → List Tok} {m : α → List UInt8} {x : List UInt8} {p : List Tok} {a : α} : ∀ {l : List α}, lookO tk m l x p = some a → a ∈ l ∧ tk a = p ∧ m a = x
  | [], h => by cases h
  | b :: l, h => by
    simp only [lookO] at h
    split at h
    · rename_i hc
      simp only [Option.some.injEq] at h
      subst h
      exact ⟨.head _, hc⟩
    · obtain ⟨h1, h2⟩ := lookO_some h; exact ⟨.tail _ h1, h2⟩
theorem lookO_none {α : Type} {tk : α → List Tok} {m : α → List UInt8} {x : List UInt8} {p : List Tok} : ∀ {l : List α}, lookO tk m l x p = none ↔ ∀ a ∈ l, ¬ (tk a = p ∧ m a = x)
  | [] => by simp [lookO]
  | b :: l => by
    simp only [lookO]
    split
    · rename_i hc
      constructor
      · intro h; cases h
      · intro h; exact absurd hc (h b (.head _))
    · rename_i hc
      rw [lookO_none (l := l)]
      exact ⟨fun h a ha => (List.mem_cons.1 ha).elim (fun e => e ▸ hc) (h a), fun h a ha => h a (.tail _ ha)⟩

theorem lookL_lookO (L : List Rt) (m : List UInt8) (p : List Tok) : lookL L m p = (lookO Rt.tk (fun r => r.rb.m) L m p).map Rt.h := by
  induction L with
  | nil => rfl
  | cons r L ih =>
    simp only [lookL, lookO]
    split
    · rfl
    · exact ih

noncomputable def KR (L : List Rt) : Kn Rt := KOf Rt.tk (fun r => r.rb.m) L

theorem VOk.toVO_then {α : Type} {f : α → Nat} {o : VOk α} {k : Option (List Tok) → VOk α} : (o.then k).toVO f = (o.toVO f).then fun b => (k b).toVO f := by
  cases o <;> rfl
theorem ite_toVO {α : Type} {f : α → Nat} {c : Prop} [Decidable c] {x y : VOk α} : (if c then x else y).toVO f = if c then x.toVO f else y.toVO f := by split <;> rfl

open Classical in
theorem vis_visK (L : List Rt) (meth : List UInt8) : ∀ n p s vs b, vis L meth n p s vs b = (visK (KR L) meth n p s vs b).toVO Rt.h
  | 0, _, _, _, _ => rfl
  | n + 1, p, s, vs, b => by
    have hlook : ∀ m p, lookL L m p = ((KR L).look m p).map Rt.h := fun m p => lookL_lookO L m p
    have hlook1 : ∀ p, look1 L meth p = ((KR L).look1 meth p).map Rt.h := fun p => by
      unfold look1 Kn.look1
      split
      · rfl
      · exact hlook _ _
    have hown : own L meth p s vs = ((KR L).own meth p s vs).map (VRk.toVR Rt.h) := by
      unfold own Kn.own
      split
      · rw [hlook1, hlook]
        show (if HasH L p then _ else _) = Option.map _ (if HasH L p then _ else _)
        split
        · cases (KR L).look1 meth p <;> rfl
        · cases (KR L).look nfName p <;> rfl
      · rfl
    rw [vis_succ, visK_succ, hown]
    cases (KR L).own meth p s vs with
    | some r => rfl
    | none =>
      simp only [Option.map_none, VOk.toVO_then]
      congr 1
      · cases s with
        | nil => rfl
        | cons c s' =>
          simp only [ite_toVO]
          rw [vis_visK L meth n]; rfl
      · funext b1
        rw [ite_toVO]
        congr 1
        · rw [vis_visK L meth n]; rfl
        · funext b2
          unfold Kn.any
          rw [ite_toVO, hlook1, hlook]
          show (if Has L _ then _ else _) = (if Has L _ then _ else _)
          congr 1
          cases (KR L).look1 meth (p ++ [Tok.A]) with
          | some a => rfl
          | none => cases (KR L).look nfName (p ++ [Tok.A]) <;> rfl
end Bw

/- What the search finds: its values put in their places are the path. What Find tells, without nodes. No program in sight. -/
namespace Bw
open Go Go.Proofs

def fill : List Tok → List (List UInt8) → List UInt8
  | [], _ => []
  | .b c :: u, ws => c :: fill u ws
  | _ :: u, [] => fill u []
  | _ :: u, w :: ws => w ++ fill u ws

theorem Kn.look1_some {α : Type} {K : Kn α} {meth : List UInt8} {p : List Tok} {a : α} (h : K.look1 meth p = some a) : meth ≠ nfName ∧ K.look meth p = some a := by
  unfold Kn.look1 at h
  split at h
  · cases h
  · rename_i hm; exact ⟨hm, h⟩

open Classical in
theorem visK_hit {α : Type} {tk : α → List Tok} {m : α → List UInt8} {l : List α} {meth : List UInt8} : ∀ (f : Nat) (p : List Tok) (s : List UInt8) (vs : List (List UInt8)) (b : Option (List Tok)) (a : α) (vs' : List (List UInt8)),
    visK (KOf tk m l) meth f p s vs b = .stop (.hit a vs') → a ∈ l ∧ (m a = meth ∧ meth ≠ nfName ∨ m a = nfName) ∧ ∃ u ws, tk a = p ++ u ∧ vs' = vs ++ ws ∧ ws.length = cnt u ∧ fill u ws = s
  | 0, _, _, _, _, _, _, h => by cases h
  | f + 1, p, s, vs, b, a, vs', h => by
    have l1 : ∀ {q}, (KOf tk m l).look1 meth q = some a → a ∈ l ∧ (m a = meth ∧ meth ≠ nfName ∨ m a = nfName) ∧ tk a = q := fun h => by
      obtain ⟨h1, h2⟩ := Kn.look1_some h
      obtain ⟨h3, h4, h5⟩ := lookO_some h2
      exact ⟨h3, .inl ⟨h5, h1⟩, h4⟩
    have l2 : ∀ {q}, (KOf tk m l).look nfName q = some a → a ∈ l ∧ (m a = meth ∧ meth ≠ nfName ∨ m a = nfName) ∧ tk a = q := fun h => by
      obtain ⟨h3, h4, h5⟩ := lookO_some h
      exact ⟨h3, .inr h5, h4⟩
    have fin : ∀ {q u w}, a ∈ l ∧ (m a = meth ∧ meth ≠ nfName ∨ m a = nfName) ∧ tk a = q → q = p ++ u → vs' = vs ++ w → w.length = cnt u → fill u w = s → a ∈ l ∧ (m a = meth ∧ meth ≠ nfName ∨ m a = nfName) ∧ ∃ u ws, tk a = p ++ u ∧ vs' = vs ++ ws ∧ ws.length = cnt u ∧ fill u ws = s :=
      fun h h1 h2 h3 h4 => ⟨h.1, h.2.1, _, _, h.2.2.trans h1, h2, h3, h4⟩
    rw [visK_parts] at h
    cases ho : (KOf tk m l).own meth p s vs with
    | some r =>
      rw [ho] at h
      simp only [VOk.stop.injEq] at h
      subst h
      unfold Kn.own at ho
      split at ho
      · rename_i hs
        subst hs
        split at ho
        · obtain ⟨x, h1, h2⟩ := Option.map_eq_some_iff.1 ho
          simp only [VRk.hit.injEq] at h2
          obtain ⟨rfl, rfl⟩ := h2
          exact fin (u := []) (w := []) (l1 h1) (by simp) (by simp) rfl rfl
        · obtain ⟨x, h1, h2⟩ := Option.map_eq_some_iff.1 ho
          simp only [VRk.hit.injEq] at h2
          obtain ⟨rfl, rfl⟩ := h2
          exact fin (u := []) (w := []) (l2 h1) (by simp) (by simp) rfl rfl
      · cases ho
    | none =>
      rw [ho] at h
      simp only at h
      cases ht : (KOf tk m l).text (fun p' s' => visK (KOf tk m l) meth f p' s' vs ((KOf tk m l).bst p s b)) p s ((KOf tk m l).bst p s b) with
      | stop r =>
        rw [ht] at h
        simp only [VOk.then, VOk.stop.injEq] at h
        subst h
        cases s with
        | nil => cases ht
        | cons c s' =>
          simp only [Kn.text] at ht
          split at ht
          · obtain ⟨h1, h2, u, ws, h3, h4, h5, h6⟩ := visK_hit f _ _ _ _ _ _ ht
            exact ⟨h1, h2, .b c :: u, ws, by rw [h3]; simp, h4, h5, by rw [fill, h6]⟩
          · cases ht
      | back b1 =>
        rw [ht] at h
        simp only [VOk.then] at h
        cases ht2 : (KOf tk m l).par (fun p' s' v => visK (KOf tk m l) meth f p' s' (vs ++ [v]) b1) p s b1 with
        | stop r =>
          rw [ht2] at h
          simp only [VOk.stop.injEq] at h
          subst h
          unfold Kn.par at ht2
          split at ht2
          · obtain ⟨h1, h2, u, ws, h3, h4, h5, h6⟩ := visK_hit f _ _ _ _ _ _ ht2
            refine ⟨h1, h2, .P :: u, s.take ((KOf tk m l).cut (p ++ [Tok.P]) s) :: ws, by rw [h3]; simp, by rw [h4]; simp, ?_, ?_⟩
            · show ws.length + 1 = cnt (.P :: u)
              rw [show Tok.P :: u = [Tok.P] ++ u from rfl, cnt_app, h5]; simp [cnt]; omega
            · show s.take ((KOf tk m l).cut (p ++ [Tok.P]) s) ++ fill u ws = s
              rw [h6]; exact List.take_append_drop _ _
          · cases ht2
        | back b2 =>
          rw [ht2] at h
          simp only at h
          unfold Kn.any at h
          split at h
          · cases h1 : (KOf tk m l).look1 meth (p ++ [Tok.A]) with
            | some x =>
              rw [h1] at h
              simp only [VOk.stop.injEq, VRk.hit.injEq] at h
              obtain ⟨rfl, rfl⟩ := h
              exact fin (u := [.A]) (w := [s]) (l1 h1) rfl rfl rfl (by simp [fill])
            | none =>
              rw [h1] at h
              simp only at h
              cases h2 : (KOf tk m l).look nfName (p ++ [Tok.A]) with
              | some x =>
                rw [h2] at h
                simp only [VOk.stop.injEq, VRk.hit.injEq] at h
                obtain ⟨rfl, rfl⟩ := h
                exact fin (u := [.A]) (w := [s]) (l2 h2) rfl rfl rfl (by simp [fill])
              | none => rw [h2] at h; simp only [VOk.stop.injEq] at h; cases h
          · cases h

/-! ### what Find tells -/
def tkk (k : RB × Nat) : List Tok := (prs k.1.p none).1
def mk' (k : RB × Nat) : List UInt8 := k.1.m
noncomputable def KS (Rs : List RB) : Kn (RB × Nat) := KOf tkk mk' Rs.zipIdx.reverse

/-- the methods that are told for a place -/
def AlOf {α : Type} (K : Kn α) (p : List Tok) (al : List UInt8) : Prop :=
  ∃ ms : List (List UInt8), ms.Nodup ∧ (∀ x, x ∈ ms ↔ x ≠ nfName ∧ x ≠ optNm ∧ (K.look x p).isSome = true) ∧ al = optNm ++ ms.flatMap fun k => [44, 32] ++ k

inductive FRes (Rs : List RB) (meth : List UInt8) : VOk (RB × Nat) → Int → List UInt8 → List (List UInt8) → List (List UInt8) → List UInt8 → Prop
  | hit {rb n vs} (h : Rs[n]? = some rb) (hl : vs.length = (prs rb.p none).2.length) : FRes Rs meth (.stop (.hit (rb, n) vs)) (n : Nat) rb.p (prs rb.p none).2 vs []
  | missNf {o pl vs rb n} (ho : o = .stop (.miss pl vs) ∨ o = .back (some pl) ∧ vs = []) (hl : (KS Rs).look nfName pl = some (rb, n)) (h : Rs[n]? = some rb) (hn : rb.m = nfName) :
      FRes Rs meth o (n : Nat) rb.p (prs rb.p none).2 ((vs ++ List.replicate (prs rb.p none).2.length []).take (prs rb.p none).2.length) []
  | miss {o pl vs p al} (ho : o = .stop (.miss pl vs) ∨ o = .back (some pl) ∧ vs = []) (hl : (KS Rs).look nfName pl = none) (ha : AlOf (KS Rs) pl al) : FRes Rs meth o (if meth = optM then -3 else -2) p [] [] al
  | none : FRes Rs meth (.back none) (-1) [] [] [] []
end Bw

/- What Find tells, without nodes: from the nodes' words. No program in sight. -/
namespace Bw
open Go Go.Proofs

theorem aGet_some : ∀ {kv : AL} {x : List UInt8}, (aGet kv x).isSome = true ↔ x ∈ kv.map (·.1)
  | [], x => by simp [aGet]
  | (k, v) :: r, x => by
    simp only [aGet, List.map_cons, List.mem_cons]
    split
    · rename_i e; simp [e]
    · rename_i e
      rw [aGet_some (kv := r)]
      constructor
      · exact .inr
      · rintro (h | h)
        · exact absurd h.symm e
        · exact h

theorem stdNm_inj {i j : Nat} (hi : i < 11) (hj : j < 11) (h : stdNm i = stdNm j) : i = j := by
  have h1 := stdIx_nm hi
  have h2 := stdIx_nm hj
  rw [h, h2] at h1
  exact (Option.some.inj h1).symm
theorem stdIx_some {x : List UInt8} {i : Nat} (hx : stdIx x = some i) : x = stdNm i ∧ i < 11 := by
  refine ⟨?_, stdIx_lt hx⟩
  unfold stdIx at hx
  repeat' (split at hx; · rename_i e; rw [e]; simp only [Option.some.injEq] at hx; subst hx; rfl)
  cases hx

theorem hdr_al {f : Nat → Option Nat} {kv : AL} {hdr : List UInt8} (h : Hdr f kv hdr) (hnd : (kv.map (·.1)).Nodup) (hkv : ∀ p ∈ kv, stdIx p.1 = none ∧ p.1 ≠ nfName) :
    ∃ ms : List (List UInt8), ms.Nodup ∧ (∀ x, x ∈ ms ↔ x ≠ nfName ∧ x ≠ optNm ∧ (getM f kv x).isSome = true) ∧ hdr = optNm ++ ms.flatMap fun k => [44, 32] ++ k := by
  obtain ⟨ks, hp1, rfl⟩ := h
  have hnf : stdIx nfName = none := by decide
  have ho : stdIx optNm = some 4 := by decide
  refine ⟨([0, 1, 2, 3, 5, 6, 7, 8, 9, 10].filter fun i => (f i).isSome).map stdNm ++ ks, ?_, ?_, ?_⟩
  · have hks : ∀ x ∈ ks, stdIx x = none ∧ x ≠ nfName := fun x hx => by
      obtain ⟨p, hp, rfl⟩ := List.mem_map.1 (hp1.mem_iff.1 hx)
      exact hkv p hp
    rw [List.nodup_append]
    refine ⟨?_, hp1.nodup_iff.2 hnd, ?_⟩
    · have h0 : ([0, 1, 2, 3, 5, 6, 7, 8, 9, 10] : List Nat).Nodup := by decide
      have h1 : (([0, 1, 2, 3, 5, 6, 7, 8, 9, 10] : List Nat).filter fun i => (f i).isSome).Nodup := h0.filter (fun i => (f i).isSome)
      have hlt : ∀ i ∈ ([0, 1, 2, 3, 5, 6, 7, 8, 9, 10] : List Nat).filter (fun i => (f i).isSome), i < 11 := fun i hi => by
        have := (List.mem_filter.1 hi).1
        simp only [List.mem_cons, List.not_mem_nil, or_false] at this
        omega
      generalize ([0, 1, 2, 3, 5, 6, 7, 8, 9, 10] : List Nat).filter (fun i => (f i).isSome) = l at h1 hlt
      induction l with
      | nil => exact .nil
      | cons a l ih =>
        rw [List.map_cons, List.nodup_cons]
        have h1 := List.nodup_cons.1 (show (a :: l).Nodup from h1)
        refine ⟨fun hm => ?_, ih h1.2 fun i hi => hlt i (.tail _ hi)⟩
        obtain ⟨j, hj, e⟩ := List.mem_map.1 hm
        have := stdNm_inj (hlt j (.tail _ hj)) (hlt a (.head _)) e
        exact h1.1 (this ▸ hj)
    · intro x hx y hy e
      subst e
      obtain ⟨i, hi, rfl⟩ := List.mem_map.1 hx
      have := (List.mem_filter.1 hi).1
      have h3 := (hks _ hy).1
      rw [stdIx_nm (by simp only [List.mem_cons, List.not_mem_nil, or_false] at this; omega)] at h3
      cases h3
  · intro x
    rw [List.mem_append, List.mem_map]
    cases hx : stdIx x with
    | some i =>
      obtain ⟨rfl, hi⟩ := stdIx_some hx
      have hg : getM f kv (stdNm i) = f i := by simp only [getM, hx]
      rw [hg]
      constructor
      · rintro (⟨j, hj, e⟩ | h)
        · obtain ⟨hj1, hj2⟩ := List.mem_filter.1 hj
          have hj3 : j < 11 ∧ j ≠ 4 := by simp only [List.mem_cons, List.not_mem_nil, or_false] at hj1; omega
          have := stdNm_inj hj3.1 hi e
          subst this
          refine ⟨fun h => ?_, fun h => ?_, hj2⟩
          · rw [h, hnf] at hx; cases hx
          · rw [h, ho] at hx; exact hj3.2 (Option.some.inj hx).symm
        · obtain ⟨p, hp, hpx⟩ := List.mem_map.1 (hp1.mem_iff.1 h)
          have := (hkv p hp).1
          rw [hpx, hx] at this; cases this
      · rintro ⟨_, h2, h3⟩
        refine .inl ⟨i, List.mem_filter.2 ⟨?_, h3⟩, rfl⟩
        have : i ≠ 4 := fun h => h2 (by rw [h]; rfl)
        have h10 : i = 0 ∨ i = 1 ∨ i = 2 ∨ i = 3 ∨ i = 5 ∨ i = 6 ∨ i = 7 ∨ i = 8 ∨ i = 9 ∨ i = 10 := by omega
        simpa using h10
    | none =>
      have hg : getM f kv x = aGet kv x := by simp only [getM, hx]
      rw [hg, aGet_some, ← hp1.mem_iff]
      constructor
      · rintro (⟨j, hj, e⟩ | h)
        · have hj1 := (List.mem_filter.1 hj).1
          have hj3 : j < 11 := by simp only [List.mem_cons, List.not_mem_nil, or_false] at hj1; omega
          rw [← e, stdIx_nm hj3] at hx; cases hx
        · obtain ⟨p, hp, hpx⟩ := List.mem_map.1 (hp1.mem_iff.1 h)
          refine ⟨hpx ▸ (hkv p hp).2, fun h2 => ?_, h⟩
          rw [h2, ho] at hx; cases hx
      · exact fun h => .inr h.2.2
  · simp only [Go.Proofs.hp, List.flatMap_append, List.append_assoc, List.flatMap_map]

variable {T : List NR} {q : Nat → List Tok} {R : List En} {root : Nat} {L : List Rt} {z B : Nat}

theorem zout_hit {meth : List UInt8} {res : Res} {num : Int} {p al : List UInt8} {ns vals vs : List (List UInt8)} {h : Nat} (hz : ZOut L T meth res num p ns vals al) (e : res = .hit h vs) : ∃ rt ∈ L, rt.h = h ∧ num = (rt.num : Nat) ∧ p = rt.rb.p ∧ ns = rt.nms ∧ vals = vs ∧ al = [] := by
  cases hz with
  | none' => cases e
  | @hit vals rt hr => injection e with e1 e2; exact ⟨rt, hr, e1, rfl, rfl, rfl, e2, rfl⟩
  | missNf _ _ _ => cases e
  | miss _ _ _ => cases e
theorem zout_none {meth : List UInt8} {res : Res} {num : Int} {p al : List UInt8} {ns vals vs : List (List UInt8)} (hz : ZOut L T meth res num p ns vals al) (e : res = .none' vs) : num = -1 ∧ p = [] ∧ ns = [] ∧ al = [] := by
  cases hz with
  | none' => exact ⟨rfl, rfl, rfl, rfl⟩
  | hit _ => cases e
  | missNf _ _ _ => cases e
  | miss _ _ _ => cases e
theorem zout_miss {meth : List UInt8} {res : Res} {num : Int} {p al : List UInt8} {ns vals vs : List (List UInt8)} {n : Nat} (hz : ZOut L T meth res num p ns vals al) (e : res = .miss n vs) : ∃ r ∈ T, r.n = n ∧ vals = vs ∧
    ((∃ rt ∈ L, r.nf = some rt.h ∧ num = (rt.num : Nat) ∧ p = rt.rb.p ∧ ns = rt.nms ∧ al = []) ∨ (r.nf = none ∧ r.hdl = true ∧ num = (if meth = optM then -3 else -2) ∧ ns = [] ∧ al = r.hdr)) := by
  cases hz with
  | none' => cases e
  | hit _ => cases e
  | @missNf vals rt r hr hT hn => injection e with e1 e2; exact ⟨r, hT, e1, e2, .inl ⟨rt, hr, hn, rfl, rfl, rfl, rfl⟩⟩
  | @miss vals r hT hn hd => injection e with e1 e2; exact ⟨r, hT, e1, e2, .inr ⟨hn, hd, rfl, rfl, rfl⟩⟩

theorem pad_take {z k : Nat} {vs : List (List UInt8)} (h : k ≤ z) : (pad z vs).take k = (vs ++ List.replicate k []).take k := by
  apply List.ext_getElem?
  intro i
  simp only [pad, List.getElem?_take, List.getElem?_append, List.getElem?_replicate]
  split
  · split
    · rfl
    · rw [if_pos (by omega), if_pos (by omega)]
  · rfl

theorem h_inj {L : List Rt} (hnd : (L.map Rt.h).Nodup) {a b : Rt} (ha : a ∈ L) (hb : b ∈ L) (h : a.h = b.h) : a = b := by
  induction L with
  | nil => cases ha
  | cons r L ih =>
    rw [List.map_cons, List.nodup_cons] at hnd
    rcases List.mem_cons.1 ha with h1 | h1
    · rcases List.mem_cons.1 hb with h2 | h2
      · exact h1.trans h2.symm
      · exact absurd (List.mem_map.2 ⟨b, h2, h1 ▸ h.symm⟩) hnd.1
    · rcases List.mem_cons.1 hb with h2 | h2
      · exact absurd (List.mem_map.2 ⟨a, h1, h2 ▸ h⟩) hnd.1
      · exact ih hnd.2 h1 h2

theorem RInv.fres (s : RInv T q R root L z B) (hnd : (L.map Rt.h).Nodup) {Rs : List RB} (hkey : L.reverse.map Rt.key = Rs.zipIdx) {meth path : List UInt8} {res : Res} (hv : VF T q L z res (vis L meth 202 [] path [] none))
    {num : Int} {p al : List UInt8} {ns vals : List (List UInt8)} (hz : ZOut L T meth res num p ns vals al) : FRes Rs meth (visK (KS Rs) meth 202 [] path [] none) num p ns (vals.take ns.length) al := by
  have hkey2 : L.map Rt.key = Rs.zipIdx.reverse := by rw [← hkey, List.map_reverse, List.reverse_reverse]
  have hKS : KS Rs = (KR L).map Rt.key := by
    unfold KS KR
    rw [← hkey2]
    exact KOf_map Rt.key (fun _ => rfl) (fun _ => rfl) L
  have hRs : ∀ rt ∈ L, Rs[rt.num]? = some rt.rb := fun rt h => by
    have h1 : rt.key ∈ Rs.zipIdx := by rw [← hkey]; exact List.mem_map.2 ⟨rt, List.mem_reverse.2 h, rfl⟩
    have := List.mem_zipIdx_iff_getElem?.1 h1
    exact this
  have hcnt : ∀ rt : Rt, rt.nms.length = cnt rt.tk := fun rt => by
    have h1 := prs_cnt rt.rb.p none
    show (prs rt.rb.p none).2.length = cnt (prs rt.rb.p none).1
    simpa using h1
  have hlookS : ∀ x p, (KS Rs).look x p = (lookO Rt.tk (fun r => r.rb.m) L x p).map Rt.key := fun x p => by rw [hKS]; rfl
  have missCase : ∀ {x : NR} {vs : List (List UInt8)} {o : VOk (RB × Nat)}, x ∈ T → res = .miss x.n (pad z vs) → (o = .stop (.miss (q x.n) vs) ∨ o = .back (some (q x.n)) ∧ vs = []) → FRes Rs meth o num p ns (vals.take ns.length) al := by
    intro x vs o hx hr ho
    obtain ⟨r, hrT, hrn, rfl, h⟩ := zout_miss hz hr
    have hrx : r = x := uniq s.sh.cl.nd hrT hx hrn
    subst hrx
    have hnf := s.nf hrT
    rw [lookL_lookO] at hnf
    rcases h with ⟨rt, hrt, h1, rfl, rfl, rfl, rfl⟩ | ⟨h1, h2, rfl, rfl, rfl⟩
    · rw [h1] at hnf
      obtain ⟨rt', h3, h4⟩ := Option.map_eq_some_iff.1 hnf.symm
      obtain ⟨h5, h6, h7⟩ := lookO_some h3
      have := h_inj hnd h5 hrt h4
      subst this
      have hz2 : rt'.nms.length ≤ z := s.zl _ hrt
      rw [pad_take hz2]
      exact .missNf ho (by rw [hlookS, h3]; rfl) (hRs _ hrt) h7
    · rw [h1] at hnf
      have h3 : lookO Rt.tk (fun r => r.rb.m) L nfName (q r.n) = none := by
        cases h : lookO Rt.tk (fun r => r.rb.m) L nfName (q r.n) with
        | none => rfl
        | some a => rw [h] at hnf; cases hnf
      refine .miss ho (by rw [hlookS, h3]; rfl) ?_
      obtain ⟨ms, g1, g2, g3⟩ := hdr_al (s.sh.hdr r hrT h2) (s.ok r hrT).keys.2 (s.sh.kv r hrT)
      refine ⟨ms, g1, fun x => ?_, g3⟩
      rw [g2 x]
      have hg := s.get hrT x
      constructor
      · rintro ⟨a1, a2, a3⟩
        rw [hg, if_neg a1, lookL_lookO] at a3
        exact ⟨a1, a2, by rw [hlookS]; simpa using a3⟩
      · rintro ⟨a1, a2, a3⟩
        refine ⟨a1, a2, ?_⟩
        rw [hg, if_neg a1, lookL_lookO]
        rw [hlookS] at a3
        simpa using a3
  rw [vis_visK] at hv
  rw [hKS, visK_map]
  generalize ho : visK (KR L) meth 202 [] path [] none = o at hv
  cases o with
  | stop r =>
    cases r with
    | hit rt0 vs =>
      have hh := visK_hit _ _ _ _ _ _ _ ho
      obtain ⟨h1, h2, u, ws, h3, h4, h5, h6⟩ := hh
      have hr : res = .hit rt0.h (pad z vs) := by
        generalize hx : (VOk.stop (VRk.hit rt0 vs)).toVO Rt.h = o' at hv
        cases hv with
        | hit => simp only [VOk.toVO, VRk.toVR, VO.stop.injEq, VR.hit.injEq] at hx; rw [hx.1, hx.2]
        | miss _ => cases hx
        | back _ _ => cases hx
        | none => cases hx
      obtain ⟨rt, hrt, h7, rfl, rfl, rfl, rfl, rfl⟩ := zout_hit hz hr
      have := h_inj hnd hrt h1 h7
      subst this
      have hlen : vs.length = rt.nms.length := by
        rw [hcnt, h3, h4]; simpa using h5
      have htk : (pad z vs).take rt.nms.length = vs := by rw [← hlen]; simp [pad]
      rw [htk]
      exact .hit (hRs _ hrt) hlen
    | miss pl vs =>
      generalize hx : (VOk.stop (VRk.miss pl vs)).toVO Rt.h = o' at hv
      cases hv with
      | hit => cases hx
      | @miss x vs' hxT =>
        simp only [VOk.toVO, VRk.toVR, VO.stop.injEq, VR.miss.injEq] at hx
        obtain ⟨rfl, rfl⟩ := hx
        exact missCase hxT rfl (.inl rfl)
      | back _ _ => cases hx
      | none => cases hx
  | back b =>
    generalize hx : (VOk.back b).toVO Rt.h = o' at hv
    cases hv with
    | hit => cases hx
    | miss _ => cases hx
    | @back x hxT _ =>
      simp only [VOk.toVO, VO.back.injEq] at hx
      subst hx
      exact missCase hxT rfl (.inr ⟨rfl, rfl⟩)
    | none =>
      simp only [VOk.toVO, VO.back.injEq] at hx
      subst hx
      obtain ⟨rfl, rfl, rfl, rfl⟩ := zout_none hz rfl
      simp only [List.length_nil, List.take_zero]
      exact .none
end Bw
namespace Bw
open Go Go.Proofs
variable {T : List NR} {q : Nat → List Tok} {R : List En} {root : Nat} {L : List Rt} {z B : Nat}
theorem RInv.zlen (s : RInv T q R root L z B) {o : VO} {meth : List UInt8} {res : Res} (hv : VF T q L z res o) {num : Int} {p al : List UInt8} {ns vals : List (List UInt8)} (hz : ZOut L T meth res num p ns vals al) : ns.length ≤ vals.length ∧ ns.length ≤ 200 ∧ p.length ≤ 200 ∨ ns = [] := by
  have h1 : z ≤ res.vals.length := by
    cases hv <;> simp only [Res.vals, pad, List.length_append, List.length_replicate] <;> omega
  have hl : ∀ rt ∈ L, rt.nms.length ≤ z := s.zl
  have hz2 := s.zz
  cases hz with
  | none' => exact .inr rfl
  | @hit vals rt hr =>
    have := hl rt hr; have := (s.rb rt hr).pl
    simp only [Res.vals] at h1
    exact .inl ⟨by omega, by omega, by omega⟩
  | @missNf vals rt r hr hT hn =>
    have := hl rt hr; have := (s.rb rt hr).pl
    simp only [Res.vals] at h1
    exact .inl ⟨by omega, by omega, by omega⟩
  | miss _ _ _ => exact .inr rfl
theorem RH_w (s : RInv T q R root L z B) {rb rt eb zb : Nat} : ∀ e ∈ RH rb root rt eb zb z T L, e.w = true := by
  intro e he
  simp only [RH, List.mem_cons, List.mem_append] at he
  rcases he with rfl | rfl | rfl | rfl | he | he
  · rfl
  · rfl
  · rfl
  · rfl
  · exact ents_w s.ok e he
  · obtain ⟨r, hr, he⟩ := List.mem_flatMap.1 he
    simp only [Rt.ents, List.mem_cons] at he
    rcases he with rfl | rfl | rfl | he
    · rfl
    · rfl
    · rfl
    · exact (s.own r hr).w e he
theorem RH_nd {rb rt eb zb : Nat} (h : (RH rb root rt eb zb z T L).Pairwise (fun x y => x.b ≠ y.b)) : (L.map Rt.h).Nodup := by
  have h1 : (L.flatMap Rt.ents).Pairwise (fun x y => x.b ≠ y.b) := h.sublist ((List.sublist_append_right _ _).trans (((List.sublist_cons_self _ _).trans (List.sublist_cons_self _ _)).trans ((List.sublist_cons_self _ _).trans (List.sublist_cons_self _ _))))
  clear h
  induction L with
  | nil => exact .nil
  | cons r L ih =>
    rw [List.flatMap_cons] at h1
    have h2 := List.pairwise_append.1 h1
    rw [List.map_cons, List.nodup_cons]
    refine ⟨fun hm => ?_, ih h2.2.1⟩
    obtain ⟨x, hx, e⟩ := List.mem_map.1 hm
    exact h2.2.2 (rmE r.h (some r.hh) r.rb.p r.pad r.nms.length r.pcp) (.tail _ (.tail _ (.head _))) (rmE x.h (some x.hh) x.rb.p x.pad x.nms.length x.pcp) (List.mem_flatMap.2 ⟨x, hx, .tail _ (.tail _ (.head _))⟩) e.symm
end Bw
