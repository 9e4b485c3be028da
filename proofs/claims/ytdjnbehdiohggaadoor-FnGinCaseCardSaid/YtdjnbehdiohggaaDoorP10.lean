/- Lemmas of the walk and plain facts (GtP3 .. GtP6). -/
import Derived.Test.YtdjnbehdiohggaaDoorP07
import Derived.Test.YtdjnbehdiohggaaDoorP06
/- What routes a tree stands for; a route in a new node. No program in sight. -/
namespace Gt
open Gs Tr
/-- routes from a node on: their numbers and texts -/
abbrev F := List Tok → Option (Nat × List UInt8)
def upd (f : F) (s : List Tok) (v : Nat × List UInt8) : F := fun x => if x = s then some v else f x
def one (s : List Tok) (v : Nat × List UInt8) : F := fun x => if x = s then some v else none
/-- those that go on with a byte -/
def at_ (f : F) (p : List UInt8) (c : UInt8) : F := fun s => if s.head? = some (.b c) then f (bs p ++ s) else none
/-- a node's end: a route ends there, or the ways part, or a wildcard follows -/
def Min (h : Option Nat) (wild : Bool) (idx : List UInt8) (kids : List T0) : Prop := h.isSome = true ∨ wild = true ∨ 2 ≤ idx.length ∨ ∃ k, idx = [47] ∧ kids = [k] ∧ k.nt = 3
/-- the flag: the node's own end is as Min says -/
inductive Rep : Bool → T0 → F → Prop
  | st {b : Bool} {path idx : List UInt8} {wild : Bool} {nt pr : Nat} {h : Option Nat} {full : List UInt8} {kids : List T0} {f : F} (wn : List UInt8) (wk : T0) (hp : ∀ c ∈ path, plainB c) (hnt : nt = 0 ∨ nt = 1)
      (hpre : ∀ s v, f s = some v → ∃ r, s = bs path ++ r) (hh : f (bs path) = h.map fun k => (k, full)) (hnd : idx.Nodup) (hpl : ∀ c ∈ idx, plainB c) (hlen : kids.length = idx.length + wild.toNat)
      (hk : ∀ (j : Nat) c k, idx[j]? = some c → kids[j]? = some k → Rep true k (at_ f path c))
      (hkn : ∀ (j : Nat) k, j < idx.length → kids[j]? = some k → k.nt = 0 ∨ k.nt = 3)
      (hne : ∀ c ∈ idx, ∃ s v, f (bs path ++ .b c :: s) = some v)
      (hno : ∀ c, c ∉ idx → ∀ s, f (bs path ++ .b c :: s) = none)
      (hw : wild = true → kids[idx.length]? = some wk ∧ word wn ∧ wk.nt = 2 ∧ wk.path = 58 :: wn ∧ (∃ s v, f (bs path ++ .P wn :: s) = some v) ∧ ∀ m, m ≠ wn → ∀ s, f (bs path ++ .P m :: s) = none)
      (hwr : wild = true → Rep true wk (fun s => f (bs path ++ .P wn :: s)))
      (hnw : wild = false → ∀ m s, f (bs path ++ .P m :: s) = none)
      (hA : ∀ m s, f (bs path ++ .A m :: s) = none) (hmin : b = true → Min h wild idx kids) : Rep b (.node () path idx wild nt pr h full kids) f
  | pa {b : Bool} {n : List UInt8} {pr : Nat} {h : Option Nat} {full : List UInt8} {f : F} (hh : f [] = h.map fun k => (k, full)) (hno : ∀ s, s ≠ [] → f s = none) : Rep b (.node () (58 :: n) [] false 2 pr h full []) f
  | pk {b : Bool} {n idx : List UInt8} {pr : Nat} {h : Option Nat} {full : List UInt8} {k : T0} {f : F} (hh : f [] = h.map fun k => (k, full)) (hidx : idx = [] ∨ idx = [47]) (hk : Rep true k (fun s => if s = [] then none else f s)) (hkn : k.nt = 0)
      (h47 : ∀ s v, f s = some v → s = [] ∨ ∃ r, s = .b 47 :: r) (hne : ∃ s v, s ≠ [] ∧ f s = some v) : Rep b (.node () (58 :: n) idx false 2 pr h full [k]) f
  /-- a catch-all: two nodes -/
  | ca {b : Bool} {pr pr2 num : Nat} {full full2 n : List UInt8} (hn : word n) : Rep b (.node () [] [] true 3 pr none full [.node () (47 :: 42 :: n) [] false 3 pr2 (some num) full2 []]) (one [.b 47, .A n] (num, full2))
theorem bs_inj {a c : List UInt8} : bs a = bs c ↔ a = c :=
  ⟨fun h => by
    have := congrArg txt h
    rw [txt_bs, txt_bs] at this; exact this, fun h => by rw [h]⟩
theorem bs_cons_ne (p : List UInt8) (x : Tok) (s : List Tok) : bs p ++ x :: s ≠ bs p := fun h => by
  have := congrArg List.length h
  simp at this
theorem one_self (s v) : one s v s = some v := if_pos rfl
theorem one_ne {s x : List Tok} (h : x ≠ s) (v) : one s v x = none := if_neg h
theorem at_one {p : List UInt8} {c : UInt8} {s : List Tok} (v) : at_ (one (bs p ++ .b c :: s) v) p c = one (.b c :: s) v := by
  funext x
  unfold at_ one
  by_cases h : x = .b c :: s
  · subst h; simp
  · rw [if_neg h]
    split
    · rw [if_neg fun e => h (List.append_cancel_left e)]
    · rfl
/-- a leaf of plain bytes -/
theorem rep_leaf {b : Bool} {pre : List UInt8} {nt pr h : Nat} {full : List UInt8} (hp : ∀ c ∈ pre, plainB c) (hnt : nt = 0 ∨ nt = 1) : Rep b (.node () pre [] false nt pr (some h) full []) (one (bs pre) (h, full)) := by
  refine .st [] new hp hnt (fun s v hs => ?_) (one_self _ _) List.nodup_nil (by simp) rfl (by simp) (by simp) (by simp) (fun c _ s => one_ne (bs_cons_ne _ _ _) _) (fun h => by cases h) (fun h => by cases h) (fun _ m s => one_ne (bs_cons_ne _ _ _) _) (fun m s => one_ne (bs_cons_ne _ _ _) _) (fun _ => .inl rfl)
  unfold one at hs
  split at hs
  · rename_i e; exact ⟨[], by rw [e, List.append_nil]⟩
  · cases hs
/-- a node ahead of a parameter alone -/
theorem rep_par {b : Bool} {pre n : List UInt8} {nt pr : Nat} {f0 : List UInt8} {k : T0} {q : List Tok} {v : Nat × List UInt8} (hp : ∀ c ∈ pre, plainB c) (hnt : nt = 0 ∨ nt = 1) (hn : word n) (hk : Rep true k (one q v)) (hk2 : k.nt = 2) (hkp : k.path = 58 :: n) :
    Rep b (.node () pre [] true nt pr none f0 [k]) (one (bs pre ++ .P n :: q) v) := by
  have e : (fun s => one (bs pre ++ .P n :: q) v (bs pre ++ .P n :: s)) = one q v := by
    funext s
    unfold one
    by_cases h : s = q
    · subst h; simp
    · rw [if_neg h, if_neg fun e => h (by have := List.append_cancel_left e; simpa using this)]
  refine .st n k hp hnt (fun s u hs => ?_) (one_ne (fun h => bs_cons_ne _ _ _ h.symm) _) List.nodup_nil (by simp) rfl (by simp) (by simp) (by simp) (fun c _ s => one_ne (fun h => ?_) _) (fun _ => ⟨rfl, hn, hk2, hkp, ⟨q, v, one_self _ _⟩, fun m hm s => one_ne (fun h => ?_) _⟩) (fun _ => by rw [e]; exact hk) (fun h => by cases h) (fun m s => one_ne (fun h => ?_) _) (fun _ => .inr (.inl rfl))
  · unfold one at hs
    split at hs
    · rename_i e; exact ⟨_, e⟩
    · cases hs
  · have := List.append_cancel_left h; simp at this
  · have := List.append_cancel_left h; simp at this; exact hm this.1
  · have := List.append_cancel_left h; simp at this
/-- a node ahead of a catch-all alone -/
theorem rep_cat {b : Bool} {pre n : List UInt8} {nt pr h : Nat} {f0 full : List UInt8} (hp : ∀ c ∈ pre, plainB c) (hnt : nt = 0 ∨ nt = 1) (hn : word n) :
    Rep b (.node () pre [47] false nt pr none f0 [.node () [] [] true 3 1 none full [.node () (47 :: 42 :: n) [] false 3 1 (some h) full []]]) (one (bs pre ++ [.b 47, .A n]) (h, full)) := by
  refine .st [] new hp hnt (fun s u hs => ?_) (one_ne (fun h => bs_cons_ne _ _ _ h.symm) _) (by simp) (by simp [plainB]) rfl (fun j c k hj hk => ?_) (fun j k hj hk => ?_) (fun c hc => ⟨[.A n], (h, full), ?_⟩) (fun c hc s => one_ne (fun e => ?_) _) (fun h => by cases h) (fun h => by cases h) (fun _ m s => one_ne (fun e => ?_) _) (fun m s => one_ne (fun e => ?_) _) (fun _ => .inr (.inr (.inr ⟨_, rfl, rfl, rfl⟩)))
  · unfold one at hs
    split at hs
    · rename_i e; exact ⟨_, e⟩
    · cases hs
  · match j, hj, hk with
    | 0, hj, hk =>
      cases hj; cases hk
      rw [at_one]
      exact .ca hn
    | j + 1, hj, _ => simp at hj
  · match j, hj, hk with
    | 0, _, hk => cases hk; exact .inr rfl
    | j + 1, hj, _ => simp at hj
  · rw [List.mem_singleton.1 hc]; exact one_self _ _
  · have := List.append_cancel_left e
    simp at this
    exact hc (by simp [this.1])
  · have := List.append_cancel_left e; simp at this
  · have := List.append_cancel_left e; simp at this
theorem par_leaf {b : Bool} {n : List UInt8} {pr h : Nat} {full : List UInt8} : Rep b (.node () (58 :: n) [] false 2 pr (some h) full []) (one [] (h, full)) :=
  .pa (one_self _ _) fun _ hs => one_ne hs _
theorem par_kid {b : Bool} {n idx : List UInt8} {pr : Nat} {full : List UInt8} {k : T0} {r : List Tok} {v : Nat × List UInt8} (hidx : idx = [] ∨ idx = [47]) (hk : Rep true k (one (.b 47 :: r) v)) (hkn : k.nt = 0) : Rep b (.node () (58 :: n) idx false 2 pr none full [k]) (one (.b 47 :: r) v) := by
  have e : (fun s => if s = [] then none else one (.b 47 :: r) v s) = one (.b 47 :: r) v := by
    funext s
    by_cases h : s = []
    · subst h; rw [if_pos rfl, one_ne (by simp)]
    · rw [if_neg h]
  refine .pk (one_ne (by simp) _) hidx (by rw [e]; exact hk) hkn (fun s u hs => ?_) ⟨_, v, by simp, one_self _ _⟩
  unfold one at hs
  split at hs
  · rename_i e; exact .inr ⟨r, e⟩
  · cases hs
/-- a route in a new node -/
theorem ins_fresh : ∀ (g : Nat) (sl : Bool) (s : List Tok) (nt pr h : Nat) (f0 full : List UInt8), (txt s).length < g → Ok sl s → (∃ c r, s = .b c :: r) → (nt = 0 ∨ nt = 1) →
    ∃ t', insT g (.node () [] [] false nt pr none f0 []) (txt s) full h = some (some t') ∧ Rep true t' (one s (h, full)) ∧ t'.nt = nt ∧ t'.pr = pr
  | 0, _, _, _, _, _, _, _, hg, _, _, _ => absurd hg (Nat.not_lt_zero _)
  | g + 1, sl, s, nt, pr, h, f0, full, hg, hok, hb, hnt => by
    obtain ⟨pre, r, rfl, hp, hr, hcase⟩ := tok_split sl s hok
    have hpre : pre ≠ [] := by
      rintro rfl
      obtain ⟨c, q, e⟩ := hb
      rcases hcase with rfl | ⟨n, q2, rfl⟩ | ⟨n, rfl⟩ <;> simp [bs] at e
    have hpl : 0 < pre.length := List.length_pos_iff.2 hpre
    rw [if_neg hpre] at hr
    rw [txt_app, txt_bs] at hg ⊢
    rcases hcase with rfl | ⟨n, q, rfl⟩ | ⟨n, rfl⟩
    · have hf := fw_plain pre 0 hp
      simp only [txt, List.append_nil] at *
      unfold insT
      rw [hf]
      exact ⟨_, rfl, rep_leaf hp hnt, rfl, rfl⟩
    · obtain ⟨h1, hn, hq, hq2⟩ := hr
      have hn0 : 0 < n.length := List.length_pos_iff.2 hn.1
      have hf := fw_P (t := txt q) hp hn (txt_hd47 hq)
      simp only [txt] at hg ⊢
      unfold insT
      rw [hf]
      have hl : ¬ (58 :: n).length < 2 := by simp; omega
      simp only [hl, if_false, List.head?_cons, if_true, hpl, List.take_left, List.drop_left]
      have hd : (58 :: (n ++ txt q)).drop (58 :: n).length = txt q := by simp
      rw [hd]
      rcases hq with rfl | ⟨q', rfl⟩
      · have : ¬ (58 :: n).length < (58 :: (n ++ txt [])).length := by simp [txt]
        rw [if_neg this]
        exact ⟨_, rfl, rep_par hp hnt hn par_leaf rfl rfl, rfl, rfl⟩
      · have : (58 :: n).length < (58 :: (n ++ txt (.b 47 :: q'))).length := by simp [txt]
        rw [if_pos this]
        obtain ⟨t', h3, h4, h5, h6⟩ := ins_fresh g false (.b 47 :: q') 0 1 h full full (by simp at hg; omega) hq2 ⟨47, q', rfl⟩ (.inl rfl)
        rw [h3]
        refine ⟨_, rfl, rep_par hp hnt hn (par_kid (.inl rfl) h4 h5) rfl rfl, rfl, rfl⟩
    · obtain ⟨h1, hn, _⟩ := hr
      have hn0 : 0 < n.length := List.length_pos_iff.2 hn.1
      obtain ⟨pre0, rfl⟩ : ∃ pre0, pre = pre0 ++ [47] := by
        rcases List.eq_nil_or_concat pre with e | ⟨l, c, e⟩
        · exact absurd e hpre
        · rw [List.concat_eq_append] at e
          subst e
          simp at h1
          subst h1
          exact ⟨l, rfl⟩
      have e1 : txt [.A n] = 42 :: n := by simp [txt]
      rw [e1] at hg ⊢
      have hf := fw_A hp hn
      have hl : ¬ (42 :: n).length < 2 := by simp; omega
      have hh : ¬ ((some 42 : Option UInt8) = some 58) := by decide
      have hlen : ¬ ((pre0 ++ [47]).length + (42 :: n).length ≠ (pre0 ++ [47] ++ 42 :: n).length) := by simp; omega
      have hi : ¬ ((pre0 ++ [47]).length = 0 ∨ (pre0 ++ [47] ++ 42 :: n)[(pre0 ++ [47]).length - 1]? ≠ some 47) := by simp
      unfold insT
      simp only [hf, hl, if_false, List.head?_cons, hh, hlen]
      rw [if_neg (by simp : ¬ (([] : List UInt8).getLast? = some 47)), if_neg hi]
      have ht : (pre0 ++ [47] ++ 42 :: n).take ((pre0 ++ [47]).length - 1) = pre0 := by simp
      have hd : (pre0 ++ [47] ++ 42 :: n).drop ((pre0 ++ [47]).length - 1) = 47 :: 42 :: n := by simp
      rw [ht, hd]
      have e2 : bs (pre0 ++ [47]) ++ [.A n] = bs pre0 ++ [.b 47, .A n] := by rw [bs_app]; simp [bs]
      rw [e2]
      exact ⟨_, rfl, rep_cat (fun c hc => hp c (List.mem_append_left _ hc)) hnt hn, rfl, rfl⟩
end Gt

/- How a tree's node is turned, and what it stands for then. No program in sight. -/
namespace Gt
open Gs Tr
structure St (b : Bool) (path idx : List UInt8) (wild : Bool) (nt : Nat) (h : Option Nat) (full : List UInt8) (kids : List T0) (f : F) : Prop where
  hp : ∀ c ∈ path, plainB c
  hnt : nt = 0 ∨ nt = 1
  hpre : ∀ s v, f s = some v → ∃ r, s = bs path ++ r
  hh : f (bs path) = h.map fun k => (k, full)
  hnd : idx.Nodup
  hpl : ∀ c ∈ idx, plainB c
  hlen : kids.length = idx.length + wild.toNat
  hk : ∀ (j : Nat) c k, idx[j]? = some c → kids[j]? = some k → Rep true k (at_ f path c)
  hkn : ∀ (j : Nat) k, j < idx.length → kids[j]? = some k → k.nt = 0 ∨ k.nt = 3
  hne : ∀ c ∈ idx, ∃ s v, f (bs path ++ .b c :: s) = some v
  hno : ∀ c, c ∉ idx → ∀ s, f (bs path ++ .b c :: s) = none
  hw : wild = true → ∃ wn wk, kids[idx.length]? = some wk ∧ word wn ∧ wk.nt = 2 ∧ wk.path = 58 :: wn ∧ (∃ s v, f (bs path ++ .P wn :: s) = some v) ∧ (∀ m, m ≠ wn → ∀ s, f (bs path ++ .P m :: s) = none) ∧ Rep true wk (fun s => f (bs path ++ .P wn :: s))
  hnw : wild = false → ∀ m s, f (bs path ++ .P m :: s) = none
  hA : ∀ m s, f (bs path ++ .A m :: s) = none
  hmin : b = true → Min h wild idx kids
theorem St.rep {b path idx wild nt h full kids f} {pr : Nat} (x : St b path idx wild nt h full kids f) : Rep b (.node () path idx wild nt pr h full kids) f := by
  cases hwl : wild with
  | false => subst hwl; exact .st [] new x.hp x.hnt x.hpre x.hh x.hnd x.hpl x.hlen x.hk x.hkn x.hne x.hno (fun h => by cases h) (fun h => by cases h) x.hnw x.hA x.hmin
  | true =>
    subst hwl
    obtain ⟨wn, wk, h1, h2, h3, h4, h5, h6, h7⟩ := x.hw rfl
    exact .st wn wk x.hp x.hnt x.hpre x.hh x.hnd x.hpl x.hlen x.hk x.hkn x.hne x.hno (fun _ => ⟨h1, h2, h3, h4, h5, h6⟩) (fun _ => h7) x.hnw x.hA x.hmin
theorem Rep.toSt {b path idx wild nt pr h full kids f} (x : Rep b (.node () path idx wild nt pr h full kids) f) (hn : nt = 0 ∨ nt = 1) : St b path idx wild nt h full kids f := by
  cases x with
  | st wn wk hp hnt hpre hh hnd hpl hlen hk hkn hne hno hw hwr hnw hA hmin =>
    exact ⟨hp, hnt, hpre, hh, hnd, hpl, hlen, hk, hkn, hne, hno, fun e => ⟨wn, wk, (hw e).1, (hw e).2.1, (hw e).2.2.1, (hw e).2.2.2.1, (hw e).2.2.2.2.1, (hw e).2.2.2.2.2, hwr e⟩, hnw, hA, hmin⟩
  | pa => omega
  | pk => omega
  | ca => omega
theorem Rep.incr {b t f} (x : Rep b t f) : Rep b t.incr f := by
  cases x with
  | st wn wk hp hnt hpre hh hnd hpl hlen hk hkn hne hno hw hwr hnw hA hmin => exact .st wn wk hp hnt hpre hh hnd hpl hlen hk hkn hne hno hw hwr hnw hA hmin
  | pa hh hno => exact .pa hh hno
  | pk hh hidx hk hkn h47 hne => exact .pk hh hidx hk hkn h47 hne
  | ca hn => exact .ca hn
theorem incr_nt (t : T0) : t.incr.nt = t.nt := by cases t; rfl
theorem incr_path (t : T0) : t.incr.path = t.path := by cases t; rfl
theorem incr_kids (t : T0) : t.incr.kids = t.kids := by cases t; rfl
/-! ### updates -/
theorem upd_self (f : F) (s v) : upd f s v s = some v := if_pos rfl
theorem upd_ne (f : F) {s x : List Tok} (h : x ≠ s) (v) : upd f s v x = f x := if_neg h
theorem upd_some {f : F} {s x : List Tok} {v u} (h : upd f s v x = some u) : x = s ∨ f x = some u := by
  unfold upd at h
  split at h
  · exact .inl ‹_›
  · exact .inr h
theorem at_upd {f : F} {p : List UInt8} {c : UInt8} {s : List Tok} (v) : at_ (upd f (bs p ++ .b c :: s) v) p c = upd (at_ f p c) (.b c :: s) v := by
  funext x
  unfold at_ upd
  by_cases h : x = .b c :: s
  · subst h; simp
  · rw [if_neg h]
    show _ = if x.head? = some (.b c) then f (bs p ++ x) else none
    split
    · rw [if_neg fun e => h (List.append_cancel_left e)]
    · rfl
theorem at_upd_ne {f : F} {p : List UInt8} {c : UInt8} {y : List Tok} (v) (h : ∀ r, y ≠ bs p ++ .b c :: r) : at_ (upd f y v) p c = at_ f p c := by
  funext x
  unfold at_ upd
  split
  · rename_i hx
    cases x with
    | nil => simp at hx
    | cons a r =>
      simp at hx
      subst hx
      rw [if_neg fun e => h r e.symm]
  · rfl
theorem bs_cancel {p : List UInt8} {a c : List Tok} (h : bs p ++ a = bs p ++ c) : a = c := List.append_cancel_left h
theorem nil_ne (p : List UInt8) {x : Tok} {s : List Tok} : bs p ≠ bs p ++ x :: s := fun h => bs_cons_ne _ _ _ h.symm
theorem upd_fun {f : F} {p : List UInt8} {wn : List UInt8} {q : List Tok} (v) : (fun s => upd f (bs p ++ .P wn :: q) v (bs p ++ .P wn :: s)) = upd (fun s => f (bs p ++ .P wn :: s)) q v := by
  funext s
  unfold upd
  by_cases h : s = q
  · subst h; simp
  · rw [if_neg h, if_neg fun e => h (by have := bs_cancel e; simpa using this)]
theorem upd_fun_ne {f : F} {p : List UInt8} {wn : List UInt8} {y : List Tok} (v) (h : ∀ r, y ≠ bs p ++ .P wn :: r) : (fun s => upd f y v (bs p ++ .P wn :: s)) = fun s => f (bs p ++ .P wn :: s) := by
  funext s
  exact upd_ne f (fun e => h s e.symm) v
/-! ### a node turned -/
section
variable {b : Bool} {path idx : List UInt8} {wild : Bool} {nt : Nat} {h : Option Nat} {full : List UInt8} {kids : List T0} {f : F}
theorem St.setH (x : St b path idx wild nt h full kids f) (hn : Nat) (full' : List UInt8) : St true path idx wild nt (some hn) full' kids (upd f (bs path) (hn, full')) where
  hp := x.hp
  hnt := x.hnt
  hpre s v hs := by
    rcases upd_some hs with rfl | hs
    · exact ⟨[], by simp⟩
    · exact x.hpre s v hs
  hh := upd_self _ _ _
  hnd := x.hnd
  hpl := x.hpl
  hlen := x.hlen
  hk j c k hj hkj := by rw [at_upd_ne _ fun r => nil_ne _]; exact x.hk j c k hj hkj
  hkn := x.hkn
  hne c hc := by
    obtain ⟨s, v, hs⟩ := x.hne c hc
    exact ⟨s, v, by rw [upd_ne _ (bs_cons_ne _ _ _)]; exact hs⟩
  hno c hc s := by rw [upd_ne _ (bs_cons_ne _ _ _)]; exact x.hno c hc s
  hw e := by
    obtain ⟨wn, wk, h1, h2, h3, h4, ⟨s, v, h5⟩, h6, h7⟩ := x.hw e
    refine ⟨wn, wk, h1, h2, h3, h4, ⟨s, v, by rw [upd_ne _ (bs_cons_ne _ _ _)]; exact h5⟩, fun m hm s => by rw [upd_ne _ (bs_cons_ne _ _ _)]; exact h6 m hm s, ?_⟩
    rw [upd_fun_ne _ fun r => nil_ne _]; exact h7
  hnw e m s := by rw [upd_ne _ (bs_cons_ne _ _ _)]; exact x.hnw e m s
  hA m s := by rw [upd_ne _ (bs_cons_ne _ _ _)]; exact x.hA m s
  hmin _ := .inl rfl
theorem nodup_at {α : Type} : ∀ {l : List α} {i j : Nat} {a : α}, l.Nodup → l[i]? = some a → l[j]? = some a → i = j
  | [], i, j, a, _, h, _ => by simp at h
  | x :: l, 0, 0, a, _, _, _ => rfl
  | x :: l, 0, j + 1, a, hn, h1, h2 => by
    simp at h1 h2; subst h1
    exact absurd (List.mem_of_getElem? h2) (List.nodup_cons.1 hn).1
  | x :: l, i + 1, 0, a, hn, h1, h2 => by
    simp at h1 h2; subst h2
    exact absurd (List.mem_of_getElem? h1) (List.nodup_cons.1 hn).1
  | x :: l, i + 1, j + 1, a, hn, h1, h2 => by
    have := nodup_at (i := i) (j := j) (a := a) (List.nodup_cons.1 hn).2 (by simpa using h1) (by simpa using h2)
    omega
theorem bcons_ne {p : List UInt8} {x y : Tok} {s r : List Tok} (h : x ≠ y) : bs p ++ x :: s ≠ bs p ++ y :: r := fun e => by
  have := bs_cancel e
  simp at this
  exact h this.1
theorem St.setKid (x : St b path idx wild nt h full kids f) {j : Nat} {c : UInt8} {k k' : T0} {q : List Tok} {v : Nat × List UInt8} (hj : idx[j]? = some c) (hkj : kids[j]? = some k) (hk' : Rep true k' (upd (at_ f path c) (.b c :: q) v)) (hn : k'.nt = k.nt) : St b path idx wild nt h full (kids.set j k') (upd f (bs path ++ .b c :: q) v) where
  hp := x.hp
  hnt := x.hnt
  hpre s v hs := by
    rcases upd_some hs with rfl | hs
    · exact ⟨_, rfl⟩
    · exact x.hpre s v hs
  hh := by rw [upd_ne _ (nil_ne _)]; exact x.hh
  hnd := x.hnd
  hpl := x.hpl
  hlen := by rw [List.length_set]; exact x.hlen
  hk j2 c2 k2 hj2 hk2 := by
    have hlt := (List.getElem?_eq_some_iff.1 hkj).1
    by_cases e : j = j2
    · subst e
      rw [hj] at hj2
      cases hj2
      rw [List.getElem?_set_self hlt] at hk2
      cases hk2
      rw [at_upd]; exact hk'
    · rw [List.getElem?_set_ne e] at hk2
      have hc : c ≠ c2 := by
        rintro rfl
        exact e (nodup_at x.hnd hj hj2)
      rw [at_upd_ne _ fun r => bcons_ne (by simpa using hc)]
      exact x.hk j2 c2 k2 hj2 hk2
  hkn j2 k2 hj2 hk2 := by
    have hlt := (List.getElem?_eq_some_iff.1 hkj).1
    by_cases e : j = j2
    · subst e
      rw [List.getElem?_set_self hlt] at hk2
      cases hk2
      rw [hn]; exact x.hkn j k hj2 hkj
    · rw [List.getElem?_set_ne e] at hk2
      exact x.hkn j2 k2 hj2 hk2
  hne c2 hc2 := by
    obtain ⟨s, u, hs⟩ := x.hne c2 hc2
    by_cases e : bs path ++ .b c2 :: s = bs path ++ .b c :: q
    · exact ⟨s, v, by rw [e]; exact upd_self _ _ _⟩
    · exact ⟨s, u, by rw [upd_ne _ e]; exact hs⟩
  hno c2 hc2 s := by
    rw [upd_ne _ (bcons_ne fun e => hc2 (by cases e; exact List.mem_of_getElem? hj))]
    exact x.hno c2 hc2 s
  hw e := by
    obtain ⟨wn, wk, h1, h2, h3, h4, ⟨s, u, h5⟩, h6, h7⟩ := x.hw e
    have hjl := (List.getElem?_eq_some_iff.1 hj).1
    refine ⟨wn, wk, by rw [List.getElem?_set_ne (by omega)]; exact h1, h2, h3, h4, ⟨s, u, by rw [upd_ne _ (bcons_ne (by simp))]; exact h5⟩, fun m hm s => by rw [upd_ne _ (bcons_ne (by simp))]; exact h6 m hm s, ?_⟩
    rw [upd_fun_ne _ fun r => bcons_ne (by simp)]; exact h7
  hnw e m s := by rw [upd_ne _ (bcons_ne (by simp))]; exact x.hnw e m s
  hA m s := by rw [upd_ne _ (bcons_ne (by simp))]; exact x.hA m s
  hmin e := by
    rcases x.hmin e with h1 | h1 | h1 | ⟨k0, h1, h2, h3⟩
    · exact .inl h1
    · exact .inr (.inl h1)
    · exact .inr (.inr (.inl h1))
    · subst h2
      have : j = 0 := by have := (List.getElem?_eq_some_iff.1 hkj).1; simp at this; omega
      subst this
      cases hkj
      exact .inr (.inr (.inr ⟨k', h1, rfl, by rw [hn]; exact h3⟩))
theorem moveTo_perm {β : Type} (l : List β) {pos np : Nat} (hnp : np ≤ pos) : (moveTo l pos np).Perm l := by
  have h1 : l = (l.take pos).take np ++ (l.take pos).drop np ++ ((l.drop pos).take 1 ++ (l.drop pos).drop 1) := by
    rw [List.take_append_drop, List.take_append_drop, List.take_append_drop]
  unfold moveTo
  rw [List.take_take, Nat.min_eq_left hnp, List.drop_drop] at h1
  conv => rhs; rw [h1]
  simp only [List.append_assoc]
  exact (List.perm_append_comm_assoc _ _ _).append_left _
/-- where the moved list's place comes from -/
def mv (pos np i : Nat) : Nat := if i < np then i else if i = np then pos else if i ≤ pos then i - 1 else i
theorem moveTo_mv {β : Type} (l : List β) {pos np : Nat} (hnp : np ≤ pos) (hpos : pos < l.length) (i : Nat) : (moveTo l pos np)[i]? = l[mv pos np i]? := by
  rw [moveTo_get l hnp hpos]
  unfold mv
  split
  · rfl
  · split
    · rfl
    · split <;> rfl
theorem mv_lt {pos np i n : Nat} (hnp : np ≤ pos) (hpos : pos < n) : mv pos np i < n ↔ i < n := by
  unfold mv
  split
  · omega
  · split
    · omega
    · split <;> omega
theorem St.move (x : St b path idx wild nt h full kids f) {pos np : Nat} (hpos : pos < idx.length) (hnp : np ≤ pos) : St b path (moveTo idx pos np) wild nt h full (moveTo kids pos np) f where
  hp := x.hp
  hnt := x.hnt
  hpre := x.hpre
  hh := x.hh
  hnd := (moveTo_perm idx hnp).nodup_iff.2 x.hnd
  hpl c hc := x.hpl c ((moveTo_perm idx hnp).mem_iff.1 hc)
  hlen := by rw [(moveTo_perm idx hnp).length_eq, (moveTo_perm kids hnp).length_eq]; exact x.hlen
  hk j c k hj hkj := by
    rw [moveTo_mv idx hnp hpos] at hj
    rw [moveTo_mv kids hnp (by have := x.hlen; omega)] at hkj
    exact x.hk _ c k hj hkj
  hkn j k hj hkj := by
    rw [(moveTo_perm idx hnp).length_eq] at hj
    rw [moveTo_mv kids hnp (by have := x.hlen; omega)] at hkj
    exact x.hkn _ k ((mv_lt hnp hpos).2 hj) hkj
  hne c hc := x.hne c ((moveTo_perm idx hnp).mem_iff.1 hc)
  hno c hc := x.hno c fun e => hc ((moveTo_perm idx hnp).mem_iff.2 e)
  hw e := by
    obtain ⟨wn, wk, h1, h2⟩ := x.hw e
    refine ⟨wn, wk, ?_, h2⟩
    rw [(moveTo_perm idx hnp).length_eq, moveTo_get kids hnp (by have := x.hlen; omega), if_neg (by omega), if_neg (by omega), if_neg (by omega)]
    exact h1
  hnw := x.hnw
  hA := x.hA
  hmin e := by
    rcases x.hmin e with h1 | h1 | h1 | ⟨k0, h1, h2, h3⟩
    · exact .inl h1
    · exact .inr (.inl h1)
    · exact .inr (.inr (.inl (by rw [(moveTo_perm idx hnp).length_eq]; exact h1)))
    · subst h1 h2
      simp at hpos
      have : np = 0 := by omega
      subst hpos this
      exact .inr (.inr (.inr ⟨k0, rfl, rfl, h3⟩))
theorem St.pr (x : St b path idx wild nt h full kids f) (j : Nat) : St b path idx wild nt h full (kids.modify j incr) f where
  hp := x.hp
  hnt := x.hnt
  hpre := x.hpre
  hh := x.hh
  hnd := x.hnd
  hpl := x.hpl
  hlen := by rw [List.length_modify]; exact x.hlen
  hk j2 c k hj hkj := by
    rw [List.getElem?_modify] at hkj
    obtain ⟨k0, h1, rfl⟩ := Option.map_eq_some_iff.1 hkj
    have := x.hk j2 c k0 hj h1
    split
    · exact this.incr
    · exact this
  hkn j2 k hj hkj := by
    rw [List.getElem?_modify] at hkj
    obtain ⟨k0, h1, rfl⟩ := Option.map_eq_some_iff.1 hkj
    have := x.hkn j2 k0 hj h1
    split
    · rw [incr_nt]; exact this
    · exact this
  hne := x.hne
  hno := x.hno
  hw e := by
    obtain ⟨wn, wk, h1, h2, h3, h4, h5, h6, h7⟩ := x.hw e
    by_cases hj : j = idx.length
    · refine ⟨wn, wk.incr, by rw [List.getElem?_modify, h1, hj]; simp, h2, by rw [incr_nt]; exact h3, by rw [incr_path]; exact h4, h5, h6, h7.incr⟩
    · refine ⟨wn, wk, by rw [List.getElem?_modify, h1]; simp [hj], h2, h3, h4, h5, h6, h7⟩
  hnw := x.hnw
  hA := x.hA
  hmin e := by
    rcases x.hmin e with h1 | h1 | h1 | ⟨k0, h1, h2, h3⟩
    · exact .inl h1
    · exact .inr (.inl h1)
    · exact .inr (.inr (.inl h1))
    · subst h1 h2
      cases j with
      | zero => exact .inr (.inr (.inr ⟨k0.incr, rfl, rfl, by rw [incr_nt]; exact h3⟩))
      | succ j => exact .inr (.inr (.inr ⟨k0, rfl, by simp, h3⟩))
theorem addKid_get {wild : Bool} {kids : List T0} {n : Nat} (hl : kids.length = n + wild.toNat) (k : T0) : (∀ i, i < n → (addKid wild kids k)[i]? = kids[i]?) ∧ (addKid wild kids k)[n]? = some k ∧ (wild = true → (addKid wild kids k)[n + 1]? = kids[n]?) ∧ (addKid wild kids k).length = n + 1 + wild.toNat := by
  unfold addKid
  cases wild with
  | false =>
    simp at hl
    subst hl
    rw [if_neg (by simp)]
    exact ⟨fun i hi => by rw [List.getElem?_append_left hi], by simp, fun h => (by cases h), by simp⟩
  | true =>
    simp at hl
    have hb : kids ≠ [] := fun e => by rw [e] at hl; simp at hl
    rw [if_pos ⟨rfl, hb⟩]
    obtain ⟨p, x, e⟩ : ∃ p x, kids = p ++ [x] := by
      rcases List.eq_nil_or_concat kids with e | ⟨p, x, e⟩
      · exact absurd e hb
      · exact ⟨p, x, by rw [e, List.concat_eq_append]⟩
    subst e
    simp at hl
    subst hl
    refine ⟨fun i hi => ?_, by simp, fun _ => by simp, by simp⟩
    rw [List.dropLast_concat, List.append_assoc, List.getElem?_append_left hi, List.getElem?_append_left hi]
theorem St.newKid (x : St b path idx wild nt h full kids f) {c : UInt8} {k : T0} {q : List Tok} {v : Nat × List UInt8} (hc : c ∉ idx) (hcp : plainB c) (hk' : Rep true k (one (.b c :: q) v)) (hn : k.nt = 0) (hm : h.isSome = true ∨ wild = true ∨ 1 ≤ idx.length) : St true path (idx ++ [c]) wild nt h full (addKid wild kids k) (upd f (bs path ++ .b c :: q) v) := by
  obtain ⟨g1, g2, g3, g4⟩ := addKid_get x.hlen k
  exact {
  hp := x.hp
  hnt := x.hnt
  hpre := fun s v hs => by
    rcases upd_some hs with rfl | hs
    · exact ⟨_, rfl⟩
    · exact x.hpre s v hs
  hh := by rw [upd_ne _ (nil_ne _)]; exact x.hh
  hnd := List.nodup_append.2 ⟨x.hnd, by simp, fun a ha d hd => by rw [List.mem_singleton.1 hd]; exact fun e => hc (e ▸ ha)⟩
  hpl := fun d hd => by
    rcases List.mem_append.1 hd with hd | hd
    · exact x.hpl d hd
    · rw [List.mem_singleton.1 hd]; exact hcp
  hlen := by rw [g4]; simp
  hk := fun j c2 k2 hj hkj => by
    have hlt := (List.getElem?_eq_some_iff.1 hj).1
    by_cases e : j = idx.length
    · subst e
      rw [g2] at hkj
      cases hkj
      rw [List.getElem?_append_right (Nat.le_refl _), Nat.sub_self] at hj
      cases hj
      rw [at_upd]
      have : at_ f path c = fun _ => none := by
        funext s
        unfold at_
        split
        · rename_i hs
          cases s with
          | nil => simp at hs
          | cons a r =>
            simp at hs; subst hs
            exact x.hno c hc r
        · rfl
      rw [this]; exact hk'
    · have hl : j < idx.length := by simp at hlt; omega
      rw [g1 j hl] at hkj
      rw [List.getElem?_append_left hl] at hj
      have hcc : c ≠ c2 := fun e => hc (by rw [e]; exact List.mem_of_getElem? hj)
      rw [at_upd_ne _ fun r => bcons_ne (by simpa using hcc)]
      exact x.hk j c2 k2 hj hkj
  hkn := fun j k2 hj hkj => by
    by_cases e : j = idx.length
    · subst e
      rw [g2] at hkj
      cases hkj
      exact .inl hn
    · have hl : j < idx.length := by simp at hj; omega
      rw [g1 j hl] at hkj
      exact x.hkn j k2 hl hkj
  hne := fun c2 hc2 => by
    rcases List.mem_append.1 hc2 with hc2 | hc2
    · obtain ⟨s, u, hs⟩ := x.hne c2 hc2
      by_cases e : bs path ++ .b c2 :: s = bs path ++ .b c :: q
      · exact ⟨s, v, by rw [e]; exact upd_self _ _ _⟩
      · exact ⟨s, u, by rw [upd_ne _ e]; exact hs⟩
    · rw [List.mem_singleton.1 hc2]; exact ⟨q, v, upd_self _ _ _⟩
  hno := fun c2 hc2 s => by
    rw [upd_ne _ (bcons_ne fun e => hc2 (by cases e; simp))]
    exact x.hno c2 (fun e => hc2 (List.mem_append_left _ e)) s
  hw := fun e => by
    obtain ⟨wn, wk, h1, h2, h3, h4, ⟨s, u, h5⟩, h6, h7⟩ := x.hw e
    refine ⟨wn, wk, by rw [List.length_append]; exact (g3 e).trans h1, h2, h3, h4, ⟨s, u, by rw [upd_ne _ (bcons_ne (by simp))]; exact h5⟩, fun m hm s => by rw [upd_ne _ (bcons_ne (by simp))]; exact h6 m hm s, ?_⟩
    rw [upd_fun_ne _ fun r => bcons_ne (by simp)]; exact h7
  hnw := fun e m s => by rw [upd_ne _ (bcons_ne (by simp))]; exact x.hnw e m s
  hA := fun m s => by rw [upd_ne _ (bcons_ne (by simp))]; exact x.hA m s
  hmin := fun _ => by
    rcases hm with h1 | h1 | h1
    · exact .inl h1
    · exact .inr (.inl h1)
    · exact .inr (.inr (.inl (by simp; omega))) }
theorem St.newWild (x : St b path idx false nt h full kids f) {m : List UInt8} {wk : T0} {q : List Tok} {v : Nat × List UInt8} (hm : word m) (hwk : Rep true wk (one q v)) (hn : wk.nt = 2) (hwp : wk.path = 58 :: m) : St true path idx true nt h full (kids ++ [wk]) (upd f (bs path ++ .P m :: q) v) := by
  have hlen := x.hlen
  simp at hlen
  exact {
  hp := x.hp
  hnt := x.hnt
  hpre := fun s v hs => by
    rcases upd_some hs with rfl | hs
    · exact ⟨_, rfl⟩
    · exact x.hpre s v hs
  hh := by rw [upd_ne _ (nil_ne _)]; exact x.hh
  hnd := x.hnd
  hpl := x.hpl
  hlen := by simp [hlen]
  hk := fun j c k hj hkj => by
    have hl := (List.getElem?_eq_some_iff.1 hj).1
    rw [List.getElem?_append_left (by omega)] at hkj
    rw [at_upd_ne _ fun r => bcons_ne (by simp)]
    exact x.hk j c k hj hkj
  hkn := fun j k hj hkj => by
    rw [List.getElem?_append_left (by omega)] at hkj
    exact x.hkn j k hj hkj
  hne := fun c hc => by
    obtain ⟨s, u, hs⟩ := x.hne c hc
    exact ⟨s, u, by rw [upd_ne _ (bcons_ne (by simp))]; exact hs⟩
  hno := fun c hc s => by rw [upd_ne _ (bcons_ne (by simp))]; exact x.hno c hc s
  hw := fun _ => by
    refine ⟨m, wk, by rw [← hlen]; simp, hm, hn, hwp, ⟨q, v, upd_self _ _ _⟩, fun m2 hm2 s => ?_, ?_⟩
    · rw [upd_ne _ (bcons_ne (by simpa using hm2))]; exact x.hnw rfl m2 s
    · rw [upd_fun]
      have : (fun s => f (bs path ++ .P m :: s)) = fun _ => none := by funext s; exact x.hnw rfl m s
      rw [this]
      exact hwk
  hnw := fun e => by cases e
  hA := fun m s => by rw [upd_ne _ (bcons_ne (by simp))]; exact x.hA m s
  hmin := fun _ => .inr (.inl rfl) }
theorem St.setWild (x : St b path idx true nt h full kids f) {wn : List UInt8} {wk wk' : T0} {q : List Tok} {v : Nat × List UInt8} (hwk0 : kids[idx.length]? = some wk) (hwp : wk.path = 58 :: wn) (hwk : Rep true wk' (upd (fun s => f (bs path ++ .P wn :: s)) q v)) (hn : wk'.nt = 2) (hwp' : wk'.path = 58 :: wn) : St b path idx true nt h full (kids.set idx.length wk') (upd f (bs path ++ .P wn :: q) v) := by
  have hlen := x.hlen
  simp at hlen
  exact {
  hp := x.hp
  hnt := x.hnt
  hpre := fun s v hs => by
    rcases upd_some hs with rfl | hs
    · exact ⟨_, rfl⟩
    · exact x.hpre s v hs
  hh := by rw [upd_ne _ (nil_ne _)]; exact x.hh
  hnd := x.hnd
  hpl := x.hpl
  hlen := by rw [List.length_set]; exact x.hlen
  hk := fun j c k hj hkj => by
    have hl := (List.getElem?_eq_some_iff.1 hj).1
    rw [List.getElem?_set_ne (by omega)] at hkj
    rw [at_upd_ne _ fun r => bcons_ne (by simp)]
    exact x.hk j c k hj hkj
  hkn := fun j k hj hkj => by
    rw [List.getElem?_set_ne (by omega)] at hkj
    exact x.hkn j k hj hkj
  hne := fun c hc => by
    obtain ⟨s, u, hs⟩ := x.hne c hc
    exact ⟨s, u, by rw [upd_ne _ (bcons_ne (by simp))]; exact hs⟩
  hno := fun c hc s => by rw [upd_ne _ (bcons_ne (by simp))]; exact x.hno c hc s
  hw := fun _ => by
    obtain ⟨wn2, wk2, h1, h2, h3, h4, _, h6, h7⟩ := x.hw rfl
    rw [hwk0] at h1
    cases h1
    rw [hwp] at h4
    cases h4
    refine ⟨wn, wk', by rw [List.getElem?_set_self (by omega)], h2, hn, hwp', ⟨q, v, upd_self _ _ _⟩, fun m2 hm2 s => ?_, by rw [upd_fun]; exact hwk⟩
    rw [upd_ne _ (bcons_ne (by simpa using hm2))]; exact h6 m2 hm2 s
  hnw := fun e => by cases e
  hA := fun m s => by rw [upd_ne _ (bcons_ne (by simp))]; exact x.hA m s
  hmin := fun _ => .inr (.inl rfl) }
theorem St.split (x : St true path idx wild nt h full kids f) {i pr : Nat} {c : UInt8} (full' : List UInt8) (hc : path[i]? = some c) : St false (path.take i) [c] false nt none full' [.node () (path.drop i) idx wild 0 pr h full kids] f := by
  have hi := (List.getElem?_eq_some_iff.1 hc).1
  have hcp : c ∈ path := List.mem_of_getElem? hc
  have hd : path.drop i = c :: path.drop (i + 1) := by
    rw [List.drop_eq_getElem_cons hi, (List.getElem?_eq_some_iff.1 hc).2]
  have hbs : bs path = bs (path.take i) ++ bs (path.drop i) := by rw [← bs_app, List.take_append_drop]
  have hpre2 : ∀ s v, f s = some v → ∃ r, s = bs (path.take i) ++ .b c :: (bs (path.drop (i + 1)) ++ r) := fun s v hs => by
    obtain ⟨r, rfl⟩ := x.hpre s v hs
    exact ⟨r, by rw [hbs, hd]; simp [bs]⟩
  have hat : ∀ y : List Tok, at_ f (path.take i) c (bs (path.drop i) ++ y) = f (bs path ++ y) := fun y => by
    unfold at_
    rw [if_pos (by rw [hd]; rfl), hbs, List.append_assoc]
  have hat0 : at_ f (path.take i) c (bs (path.drop i)) = f (bs path) := by have := hat []; simpa using this
  have hat2 : ∀ d, at_ (at_ f (path.take i) c) (path.drop i) d = at_ f path d := fun d => by
    funext y
    show (if _ then at_ f (path.take i) c (bs (path.drop i) ++ y) else none) = _
    rw [hat]; rfl
  have hat3 : ∀ wn, (fun s => at_ f (path.take i) c (bs (path.drop i) ++ .P wn :: s)) = fun s => f (bs path ++ .P wn :: s) := fun wn => by
    funext s; exact hat _
  have hchild : St true (path.drop i) idx wild 0 h full kids (at_ f (path.take i) c) := {
    hp := fun d hd => x.hp d (List.mem_of_mem_drop hd)
    hnt := .inl rfl
    hpre := fun s v hs => by
      unfold at_ at hs
      split at hs
      · obtain ⟨r, hr⟩ := x.hpre _ v hs
        rw [hbs, List.append_assoc] at hr
        exact ⟨r, bs_cancel hr⟩
      · cases hs
    hh := by rw [hat0]; exact x.hh
    hnd := x.hnd
    hpl := x.hpl
    hlen := x.hlen
    hk := fun j d k hj hkj => by rw [hat2]; exact x.hk j d k hj hkj
    hkn := x.hkn
    hne := fun d hd => by
      obtain ⟨s, v, hs⟩ := x.hne d hd
      exact ⟨s, v, by rw [hat]; exact hs⟩
    hno := fun d hd s => by rw [hat]; exact x.hno d hd s
    hw := fun e => by
      obtain ⟨wn, wk, h1, h2, h3, h4, ⟨s, v, h5⟩, h6, h7⟩ := x.hw e
      exact ⟨wn, wk, h1, h2, h3, h4, ⟨s, v, by rw [hat]; exact h5⟩, fun m hm s => by rw [hat]; exact h6 m hm s, by rw [hat3]; exact h7⟩
    hnw := fun e m s => by rw [hat]; exact x.hnw e m s
    hA := fun m s => by rw [hat]; exact x.hA m s
    hmin := fun _ => x.hmin rfl }
  have hex : ∃ s v, f (bs path ++ s) = some v := by
    rcases x.hmin rfl with h1 | h1 | h1 | ⟨k0, h1, h2, h3⟩
    · obtain ⟨k, rfl⟩ := Option.isSome_iff_exists.1 h1
      exact ⟨[], _, by rw [List.append_nil, x.hh]; rfl⟩
    · obtain ⟨wn, wk, _, _, _, _, ⟨s, v, h5⟩, _⟩ := x.hw h1
      exact ⟨_, v, h5⟩
    · obtain ⟨d, e, l, rfl⟩ : ∃ d e l, idx = d :: e :: l := by
        match idx, h1 with
        | d :: e :: l, _ => exact ⟨d, e, l, rfl⟩
      obtain ⟨s, v, h5⟩ := x.hne d (.head _)
      exact ⟨_, v, h5⟩
    · subst h1
      obtain ⟨s, v, h5⟩ := x.hne 47 (.head _)
      exact ⟨_, v, h5⟩
  have hne2 : ∀ (y : Tok) (s : List Tok), y ≠ .b c → f (bs (path.take i) ++ y :: s) = none := fun y s hy => by
    cases hf : f (bs (path.take i) ++ y :: s) with
    | none => rfl
    | some v =>
      obtain ⟨r, hr⟩ := hpre2 _ v hf
      have := bs_cancel hr
      simp at this
      exact absurd this.1 hy
  exact {
  hp := fun d hd => x.hp d (List.mem_of_mem_take hd)
  hnt := x.hnt
  hpre := fun s v hs => by
    obtain ⟨r, hr⟩ := hpre2 s v hs
    exact ⟨_, hr⟩
  hh := by
    cases hf : f (bs (path.take i)) with
    | none => rfl
    | some v =>
      obtain ⟨r, hr⟩ := hpre2 _ v hf
      exact absurd hr (nil_ne _)
  hnd := by simp
  hpl := fun d hd => by rw [List.mem_singleton.1 hd]; exact x.hp c hcp
  hlen := rfl
  hk := fun j d k hj hkj => by
    match j, hj, hkj with
    | 0, hj, hkj => cases hj; cases hkj; exact hchild.rep
    | j + 1, hj, _ => simp at hj
  hkn := fun j k hj hkj => by
    match j, hj, hkj with
    | 0, _, hkj => cases hkj; exact .inl rfl
    | j + 1, hj, _ => simp at hj
  hne := fun d hdm => by
    rw [List.mem_singleton.1 hdm]
    obtain ⟨s, v, hs⟩ := hex
    exact ⟨bs (path.drop (i + 1)) ++ s, v, by rw [← hs, hbs, hd]; simp [bs]⟩
  hno := fun d hd s => hne2 _ s (by simpa using hd)
  hw := fun e => by cases e
  hnw := fun _ m s => hne2 _ s (by simp)
  hA := fun m s => hne2 _ s (by simp)
  hmin := fun e => by cases e }
end
end Gt

/- A route added to a tree: the tree's meaning, or the refusal. No program in sight. -/
namespace Gt
open Gs Tr
/-- what walkT does behind the split -/
def stepT (rec : T0 → List UInt8 → Nat → Option (Option T0)) (t : T0) (full : List UInt8) (pfi h : Nat) : List UInt8 → Option (Option T0)
  | [] => if t.h.isSome then some none else some (some (.node () t.path t.idx t.wild t.nt t.pr (some h) full t.kids))
  | c :: rest =>
    if t.nt = 2 ∧ c = 47 ∧ t.kids.length = 1 then
      match t.kids with
      | [k] => (rec k.incr (c :: rest) (pfi + t.path.length)).map fun r => r.map fun k' => t.setKids [k']
      | _ => none
    else match idxOf c t.idx with
    | some j =>
      match (bump t.idx t.kids j).2.1[(bump t.idx t.kids j).2.2]? with
      | some k => (rec k (c :: rest) (pfi + t.path.length)).map fun r => r.map fun k' => .node () t.path (bump t.idx t.kids j).1 t.wild t.nt t.pr t.h t.full ((bump t.idx t.kids j).2.1.set (bump t.idx t.kids j).2.2 k')
      | none => none
    | none =>
      if c ≠ 58 ∧ c ≠ 42 ∧ t.nt ≠ 3 then
        let b := bump (t.idx ++ [c]) (addKid t.wild t.kids (.node () [] [] false 0 0 none full [])) ((t.idx ++ [c]).length - 1)
        match b.2.1[b.2.2]? with
        | some k => (insT ((c :: rest).length + 1) k (c :: rest) full h).map fun r => r.map fun k' => .node () t.path b.1 t.wild t.nt t.pr t.h t.full (b.2.1.set b.2.2 k')
        | none => none
      else if t.wild then
        match t.kids.getLast? with
        | some k0 =>
          if k0.incr.path.length ≤ (c :: rest).length ∧ (c :: rest).take k0.incr.path.length = k0.incr.path ∧ k0.incr.nt ≠ 3 ∧ ((c :: rest).length ≤ k0.incr.path.length ∨ (c :: rest)[k0.incr.path.length]? = some 47) then
            (rec k0.incr (c :: rest) pfi).map fun r => r.map fun k' => t.setKids (t.kids.dropLast ++ [k'])
          else some none
        | none => none
      else insT ((c :: rest).length + 1) t (c :: rest) full h
theorem walkT_step (n : Nat) (t0 : T0) (path full : List UInt8) (pfi h : Nat) : walkT (n + 1) t0 path full pfi h = stepT (fun k p q => walkT n k p full q h) (if lcp path t0.path < t0.path.length then split t0 () (lcp path t0.path) (full.take (pfi + lcp path t0.path)) else t0) full pfi h (path.drop (lcp path t0.path)) := by
  conv => lhs; unfold walkT
  dsimp only
  generalize path.drop (lcp path t0.path) = p
  cases p <;> rfl
section
variable (a : Unit) (p i : List UInt8) (w : Bool) (n q : Nat) (h : Option Nat) (f : List UInt8) (k : List T0)
theorem n_path : (Tr.node a p i w n q h f k).path = p := rfl
theorem n_idx : (Tr.node a p i w n q h f k).idx = i := rfl
theorem n_wild : (Tr.node a p i w n q h f k).wild = w := rfl
theorem n_nt : (Tr.node a p i w n q h f k).nt = n := rfl
theorem n_pr : (Tr.node a p i w n q h f k).pr = q := rfl
theorem n_h : (Tr.node a p i w n q h f k).h = h := rfl
theorem n_full : (Tr.node a p i w n q h f k).full = f := rfl
theorem n_kids : (Tr.node a p i w n q h f k).kids = k := rfl
end
def Ap (f : F) (s : List Tok) : Prop := ∀ s' v, f s' = some v → apart s s' = true
def Out (f : F) (s : List Tok) (v : Nat × List UInt8) (nt : Nat) : Option T0 → Prop
  | some t' => Ap f s ∧ Rep true t' (upd f s v) ∧ t'.nt = nt
  | none => ¬ Ap f s
def OutP (f : F) (q : List Tok) (v : Nat × List UInt8) (n : List UInt8) : Option T0 → Prop
  | some t' => Ap f q ∧ Rep true t' (upd f q v) ∧ t'.nt = 2 ∧ t'.path = 58 :: n
  | none => ¬ Ap f q
/-! ### the moves of children -/
theorem bump_eq (idx : List UInt8) (kids : List T0) {j : Nat} (hj : j < idx.length) : ∃ np, np ≤ j ∧ bump idx kids j = (moveTo idx j np, moveTo (kids.modify j incr) j np, np) := by
  refine ⟨(bump idx kids j).2.2, newPos_le _ _ _, ?_⟩
  unfold bump
  by_cases h : newPos ((kids.modify j incr).map Tr.pr) ((((kids.modify j incr)[j]?).map Tr.pr).getD 0) j = j
  · simp only [h]
    simp [moveTo_self idx hj]
  · simp only [if_pos h, ne_eq]
theorem mv_eq {pos np i : Nat} (hnp : np ≤ pos) : mv pos np i = pos ↔ i = np := by
  unfold mv
  split
  · omega
  · split
    · omega
    · split <;> omega
theorem moveTo_set {β : Type} (l : List β) {pos np : Nat} (hnp : np ≤ pos) (hpos : pos < l.length) (y : β) : (moveTo l pos np).set np y = moveTo (l.set pos y) pos np := by
  apply List.ext_getElem?
  intro i
  have hl := moveTo_len l hnp hpos
  rw [moveTo_mv _ hnp (by rw [List.length_set]; exact hpos), List.getElem?_set, List.getElem?_set, hl]
  by_cases e : np = i
  · subst e
    rw [if_pos rfl, if_pos (by omega), if_pos ((mv_eq hnp).2 rfl).symm, if_pos hpos]
  · rw [if_neg e, if_neg (fun e2 => e ((mv_eq hnp).1 e2.symm).symm), moveTo_mv l hnp hpos]
theorem modify_set_self {β : Type} (l : List β) (j : Nat) (g : β → β) (y : β) : (l.modify j g).set j y = l.set j y := by
  apply List.ext_getElem?
  intro i
  rw [List.getElem?_set, List.getElem?_set, List.length_modify, List.getElem?_modify]
  by_cases e : j = i
  · rw [if_pos e, if_pos e]
  · rw [if_neg e, if_neg e]; simp [e]
theorem addKid_set {wild : Bool} {kids : List T0} {n : Nat} (hl : kids.length = n + wild.toNat) (k y : T0) : (addKid wild kids k).set n y = addKid wild kids y := by
  obtain ⟨a1, a2, a3, a4⟩ := addKid_get hl k
  obtain ⟨b1, b2, b3, b4⟩ := addKid_get hl y
  apply List.ext_getElem?
  intro i
  rw [List.getElem?_set, a4]
  by_cases e : n = i
  · subst e; rw [if_pos rfl, if_pos (by omega), b2]
  · rw [if_neg e]
    rcases Nat.lt_or_ge i n with h | h
    · rw [a1 i h, b1 i h]
    · rcases Nat.lt_or_ge i (n + 1 + wild.toNat) with h2 | h2
      · cases wild with
        | false => simp at h2; omega
        | true =>
          simp at h2
          have : i = n + 1 := by omega
          subst this
          rw [a3 rfl, b3 rfl]
      · rw [List.getElem?_eq_none (by omega), List.getElem?_eq_none (by omega)]
theorem dropLast_set {kids : List T0} {n : Nat} (hl : kids.length = n + 1) (y : T0) : kids.dropLast ++ [y] = kids.set n y := by
  rcases List.eq_nil_or_concat kids with e | ⟨p, x, e⟩
  · subst e; simp at hl
  · rw [List.concat_eq_append] at e
    subst e
    simp at hl
    subst hl
    simp
theorem idxOf_mem {c : UInt8} : ∀ {l : List UInt8} {j : Nat}, idxOf c l = some j → l[j]? = some c
  | [], j, h => by cases h
  | d :: l, j, h => by
    unfold idxOf at h
    by_cases e : c = d
    · rw [if_pos e] at h; cases h; simp [e]
    · rw [if_neg e] at h
      obtain ⟨j', h1, rfl⟩ := Option.map_eq_some_iff.1 h
      simpa using idxOf_mem h1
theorem idxOf_not {c : UInt8} : ∀ {l : List UInt8}, idxOf c l = none ↔ c ∉ l
  | [] => by simp [idxOf]
  | d :: l => by
    unfold idxOf
    by_cases e : c = d
    · rw [if_pos e]; simp [e]
    · rw [if_neg e, Option.map_eq_none_iff, idxOf_not]; simp [e]
/-! ### wildcards that insertChild lays -/
theorem ins_wild (g : Nat) {tp idx : List UInt8} {w : Bool} {nt pr h : Nat} {h0 : Option Nat} {f0 full : List UInt8} {kids : List T0} {m : List UInt8} {q : List Tok} (hg : (txt q).length < g) (hm : word m) (hq : q = [] ∨ ∃ r, q = .b 47 :: r) (hok : Ok false q) :
    ∃ wk, insT (g + 1) (.node () tp idx w nt pr h0 f0 kids) (58 :: (m ++ txt q)) full h = some (some (.node () tp idx true nt pr h0 f0 (addKid w kids wk))) ∧ wk.nt = 2 ∧ wk.path = 58 :: m ∧ Rep true wk (one q (h, full)) := by
  have hf := fw_P (pre := []) (t := txt q) (by simp) hm (txt_hd47 hq)
  rw [List.nil_append] at hf
  have hn0 : 0 < m.length := List.length_pos_iff.2 hm.1
  have hl : ¬ (58 :: m).length < 2 := by simp; omega
  have hd : (58 :: (m ++ txt q)).drop (58 :: m).length = txt q := by simp
  unfold insT
  simp only [hf, hl, if_false, List.head?_cons, if_true, List.length_nil, Nat.lt_irrefl, List.drop_zero, hd]
  rcases hq with rfl | ⟨q', rfl⟩
  · have : ¬ (58 :: m).length < (58 :: (m ++ txt [])).length := by simp [txt]
    rw [if_neg this]
    exact ⟨_, rfl, rfl, rfl, par_leaf⟩
  · have : (58 :: m).length < (58 :: (m ++ txt (.b 47 :: q'))).length := by simp [txt]
    rw [if_pos this]
    obtain ⟨t', h3, h4, h5, h6⟩ := ins_fresh g false (.b 47 :: q') 0 1 h full full hg hok ⟨47, q', rfl⟩ (.inl rfl)
    rw [h3]
    exact ⟨_, rfl, rfl, rfl, par_kid (.inl rfl) h4 h5⟩
theorem ins_catbad (g : Nat) {tp idx : List UInt8} {w : Bool} {nt pr h : Nat} {h0 : Option Nat} {f0 full : List UInt8} {kids : List T0} {m : List UInt8} (hm : word m) : insT (g + 1) (.node () tp idx w nt pr h0 f0 kids) (42 :: m) full h = some none := by
  have hf := fw_A (pre := []) (by simp) hm
  rw [List.nil_append] at hf
  have hn0 : 0 < m.length := List.length_pos_iff.2 hm.1
  have hl : ¬ (42 :: m).length < 2 := by simp; omega
  have hh : ¬ ((some 42 : Option UInt8) = some 58) := by decide
  have hlen : ¬ (([] : List UInt8).length + (42 :: m).length ≠ (42 :: m).length) := by simp
  unfold insT
  simp only [hf, hl, if_false, List.head?_cons, hh, hlen]
  split
  · rfl
  · rw [if_pos (.inl rfl)]
/-! ### who stands beside -/
section
variable {b : Bool} {path idx : List UInt8} {wild : Bool} {nt : Nat} {h0 : Option Nat} {f0 : List UInt8} {kids : List T0} {f : F}
theorem St.shape (x : St b path idx wild nt h0 f0 kids f) {s : List Tok} {v} (hs : f s = some v) : s = bs path ∨ (∃ d r, s = bs path ++ .b d :: r) ∨ ∃ m r, s = bs path ++ .P m :: r := by
  obtain ⟨r, rfl⟩ := x.hpre s v hs
  match r with
  | [] => exact .inl (by simp)
  | .b d :: r => exact .inr (.inl ⟨d, r, rfl⟩)
  | .P m :: r => exact .inr (.inr ⟨m, r, rfl⟩)
  | .A m :: r => rw [x.hA] at hs; cases hs
theorem St.ap_at (x : St b path idx wild nt h0 f0 kids f) {d : UInt8} {q : List Tok} : Ap f (bs path ++ .b d :: q) ↔ Ap (at_ f path d) (.b d :: q) := by
  constructor
  · intro h s v hs
    unfold at_ at hs
    split at hs
    · have := h _ v hs
      rwa [apart_app] at this
    · cases hs
  · intro h s v hs
    rcases x.shape hs with rfl | ⟨e, r, rfl⟩ | ⟨m, r, rfl⟩
    · have := apart_app (bs path) (.b d :: q) []
      rw [List.append_nil] at this
      rw [this]; rfl
    · rw [apart_app]
      by_cases he : d = e
      · subst he
        exact h _ v (by simpa [at_] using hs)
      · exact apart_b he _ _
    · rw [apart_app]; exact apart_bP _ _ _ _
theorem St.ap_new (x : St b path idx wild nt h0 f0 kids f) {d : UInt8} (hd : d ∉ idx) (q : List Tok) : Ap f (bs path ++ .b d :: q) :=
  x.ap_at.2 fun s v hs => by
    unfold at_ at hs
    split at hs
    · rename_i hx
      cases s with
      | nil => simp at hx
      | cons a r =>
        simp at hx; subst hx
        rw [x.hno d hd] at hs; cases hs
    · cases hs
theorem St.ap_P (x : St b path idx wild nt h0 f0 kids f) {wn : List UInt8} {q : List Tok} (ho : ∀ m, m ≠ wn → ∀ s, f (bs path ++ .P m :: s) = none) : Ap f (bs path ++ .P wn :: q) ↔ Ap (fun s => f (bs path ++ .P wn :: s)) q := by
  constructor
  · intro h s v hs
    have := h _ v hs
    rwa [apart_app, apart_cons] at this
  · intro h s v hs
    rcases x.shape hs with rfl | ⟨e, r, rfl⟩ | ⟨m, r, rfl⟩
    · have := apart_app (bs path) (.P wn :: q) []
      rw [List.append_nil] at this
      rw [this]; rfl
    · rw [apart_app, apart_comm]; exact apart_bP _ _ _ _
    · by_cases e : m = wn
      · subst e
        rw [apart_app, apart_cons]
        exact h r v hs
      · rw [ho m e] at hs; cases hs
theorem St.ap_end (x : St b path idx wild nt h0 f0 kids f) (hn : h0 = none) : Ap f (bs path) := fun s v hs => by
  rcases x.shape hs with rfl | ⟨e, r, rfl⟩ | ⟨m, r, rfl⟩
  · rw [x.hh, hn] at hs; cases hs
  · have := apart_app (bs path) [] (.b e :: r)
    rw [List.append_nil] at this
    rw [this]; rfl
  · have := apart_app (bs path) [] (.P m :: r)
    rw [List.append_nil] at this
    rw [this]; rfl
theorem St.ap_A (x : St b path idx wild nt h0 f0 kids f) (m : List UInt8) (hm : h0.isSome = true ∨ wild = true ∨ 1 ≤ idx.length) : ¬ Ap f (bs path ++ [.A m]) := fun h => by
  rcases hm with h1 | h1 | h1
  · obtain ⟨k, rfl⟩ := Option.isSome_iff_exists.1 h1
    have := h (bs path) _ x.hh
    have e := apart_app (bs path) [.A m] []
    rw [List.append_nil] at e
    rw [e] at this; cases this
  · obtain ⟨wn, wk, _, _, _, _, ⟨s, v, h5⟩, _⟩ := x.hw h1
    have := h _ v h5
    rw [apart_app, apart_ne (by simp)] at this; cases this
  · obtain ⟨d, l, rfl⟩ := List.exists_cons_of_length_pos h1
    obtain ⟨s, v, h5⟩ := x.hne d (.head _)
    have := h _ v h5
    rw [apart_app, apart_ne (by simp)] at this; cases this
theorem word_eq {m n : List UInt8} {q : List Tok} (hm : word m) (hn : word n) (hq : q = [] ∨ ∃ r, q = .b 47 :: r)
    (h2 : (58 :: (m ++ txt q)).take (58 :: n).length = 58 :: n) (h4 : (58 :: (m ++ txt q)).length ≤ (58 :: n).length ∨ (58 :: (m ++ txt q))[(58 :: n).length]? = some 47) : m = n := by
  have h3 : (m ++ txt q).take n.length = n := by simpa using h2
  have e : m ++ txt q = n ++ (m ++ txt q).drop n.length := by conv => lhs; rw [← List.take_append_drop n.length (m ++ txt q), h3]
  have ht : (m ++ txt q).drop n.length = [] ∨ ∃ r, (m ++ txt q).drop n.length = 47 :: r := by
    rcases h4 with h | h
    · exact .inl (List.drop_eq_nil_of_le (by simpa using h))
    · right
      have h5 : (m ++ txt q)[n.length]? = some 47 := by simpa using h
      exact ⟨_, by rw [List.drop_eq_getElem_cons (List.getElem?_eq_some_iff.1 h5).1, (List.getElem?_eq_some_iff.1 h5).2]⟩
  have a := takeW (n := m) (t := txt q) (fun c hc => (hm.2 c hc).1) (txt_hd47 hq)
  have b := takeW (n := n) (fun c hc => (hn.2 c hc).1) ht
  rw [← e, a] at b
  exact b
theorem St.setMin {b path idx nt h full kids f} (x : St b path idx true nt h full kids f) : St true path idx true nt h full kids f :=
  ⟨x.hp, x.hnt, x.hpre, x.hh, x.hnd, x.hpl, x.hlen, x.hk, x.hkn, x.hne, x.hno, x.hw, x.hnw, x.hA, fun _ => .inr (.inl rfl)⟩
/-- the step behind the split -/
theorem step_ok (x : St b path idx wild nt h0 f0 kids f) {pr : Nat} (hm : h0.isSome = true ∨ wild = true ∨ 1 ≤ idx.length) {rec : T0 → List UInt8 → Nat → Option (Option T0)} {full : List UInt8} {pfi h : Nat} {sl : Bool} {s' : List Tok} (hok : Ok sl s')
    (hbt : ∀ (j : Nat) d q', idx[j]? = some d → s' = .b d :: q' → b = true)
    (hS : ∀ (j : Nat) d k q', idx[j]? = some d → kids[j]? = some k → s' = .b d :: q' → ∃ r, rec k.incr (txt s') (pfi + path.length) = some r ∧ Out (at_ f path d) s' (h, full) k.nt r)
    (hP : ∀ wk wn q', wild = true → kids[idx.length]? = some wk → wk.path = 58 :: wn → wk.nt = 2 → Rep true wk (fun s => f (bs path ++ .P wn :: s)) → word wn → s' = .P wn :: q' → ∃ r, rec wk.incr (txt s') pfi = some r ∧ OutP (fun s => f (bs path ++ .P wn :: s)) q' (h, full) wn r) :
    ∃ r, stepT rec (.node () path idx wild nt pr h0 f0 kids) full pfi h (txt s') = some r ∧ Out f (bs path ++ s') (h, full) nt r := by
  have hnt2 : ¬ (nt = 2) := by have := x.hnt; omega
  have hnt3 : nt ≠ 3 := by have := x.hnt; omega
  match s', hok with
  | [], _ =>
    simp only [txt, stepT, n_h, n_path, n_idx, n_wild, n_nt, n_pr, n_kids]
    cases hh0 : h0 with
    | none =>
      subst hh0
      refine ⟨_, rfl, ?_⟩
      rw [List.append_nil]
      exact ⟨x.ap_end rfl, (x.setH h full).rep, rfl⟩
    | some k =>
      subst hh0
      refine ⟨none, rfl, fun ha => ?_⟩
      rw [List.append_nil] at ha
      have := ha _ _ x.hh
      rw [apart_self] at this; cases this
  | .b d :: q, hok =>
    have hdp : plainB d := hok.1
    have h1 : ¬ (nt = 2 ∧ d = 47 ∧ kids.length = 1) := fun e => hnt2 e.1
    have et : txt (.b d :: q) = d :: txt q := rfl
    rw [et]
    simp only [stepT, n_h, n_path, n_idx, n_wild, n_nt, n_pr, n_kids, n_full, h1, if_false]
    cases hj : idxOf d idx with
    | some j =>
      have hjd := idxOf_mem hj
      have hjl := (List.getElem?_eq_some_iff.1 hjd).1
      have hjk : j < kids.length := by have := x.hlen; omega
      obtain ⟨np, hnp, hb⟩ := bump_eq idx kids hjl
      obtain ⟨k, hk⟩ : ∃ k, kids[j]? = some k := ⟨_, List.getElem?_eq_getElem hjk⟩
      have hk2 : (moveTo (kids.modify j incr) j np)[np]? = some k.incr := by
        rw [moveTo_get _ hnp (by rw [List.length_modify]; exact hjk), if_neg (by omega), if_pos rfl, List.getElem?_modify, hk]
        simp
      obtain ⟨r, hr, ho⟩ := hS j d k q hjd hk rfl
      rw [et] at hr
      simp only [hb, hk2, hr, Option.map_some]
      refine ⟨_, rfl, ?_⟩
      cases r with
      | none => exact fun ha => ho (x.ap_at.1 ha)
      | some k' =>
        obtain ⟨o1, o2, o3⟩ := ho
        refine ⟨x.ap_at.2 o1, ?_, rfl⟩
        show Rep true (.node () path (moveTo idx j np) wild nt pr h0 f0 ((moveTo (kids.modify j incr) j np).set np k')) _
        rw [moveTo_set _ hnp (by rw [List.length_modify]; exact hjk), modify_set_self]
        have hbb := hbt j d q hjd rfl
        subst hbb
        exact ((x.setKid hjd hk o2 o3).move hjl hnp).rep
    | none =>
      have hni := idxOf_not.1 hj
      have hc : d ≠ 58 ∧ d ≠ 42 ∧ nt ≠ 3 := ⟨hdp.1, hdp.2, hnt3⟩
      simp only [hc, ne_eq, not_false_eq_true, and_self, if_true]
      have hpos : (idx ++ [d]).length - 1 = idx.length := by simp
      rw [hpos]
      obtain ⟨np, hnp, hb⟩ := bump_eq (idx ++ [d]) (addKid wild kids (.node () [] [] false 0 0 none full [])) (j := idx.length) (by simp)
      obtain ⟨g1, g2, g3, g4⟩ := addKid_get x.hlen (.node () [] [] false 0 0 none full [])
      have hk2 : (moveTo ((addKid wild kids (.node () [] [] false 0 0 none full [])).modify idx.length incr) idx.length np)[np]? = some (.node () [] [] false 0 1 none full []) := by
        rw [moveTo_get _ hnp (by rw [List.length_modify, g4]; omega), if_neg (by omega), if_pos rfl, List.getElem?_modify, g2]
        simp [Tr.incr, Tr.setPr, Tr.pr]
      obtain ⟨t', i1, i2, i3, i4⟩ := ins_fresh ((d :: txt q).length + 1) sl (.b d :: q) 0 1 h full full (by rw [et]; omega) hok ⟨d, q, rfl⟩ (.inl rfl)
      rw [et] at i1
      simp only [hb, hk2, i1, Option.map_some]
      refine ⟨_, rfl, x.ap_new hni q, ?_, rfl⟩
      rw [moveTo_set _ hnp (by rw [List.length_modify, g4]; omega), modify_set_self, addKid_set x.hlen]
      exact ((x.newKid hni hdp i2 i3 hm).move (by simp) hnp).rep
  | .P m :: q, hok =>
    obtain ⟨_, hmw, hq, hq2⟩ := hok
    have et : txt (.P m :: q) = 58 :: (m ++ txt q) := rfl
    rw [et]
    have h1 : ¬ (nt = 2 ∧ (58 : UInt8) = 47 ∧ kids.length = 1) := fun e => hnt2 e.1
    have hj : idxOf 58 idx = none := idxOf_not.2 fun e => (x.hpl 58 e).1 rfl
    have hc : ¬ ((58 : UInt8) ≠ 58 ∧ (58 : UInt8) ≠ 42 ∧ nt ≠ 3) := fun e => e.1 rfl
    simp only [stepT, n_h, n_path, n_idx, n_wild, n_nt, n_pr, n_kids, n_full, h1, if_false, hj, hc]
    cases hwl : wild with
    | false =>
      subst hwl
      obtain ⟨wk, w1, w2, w3, w4⟩ := ins_wild (58 :: (m ++ txt q)).length (tp := path) (idx := idx) (w := false) (nt := nt) (pr := pr) (h := h) (h0 := h0) (f0 := f0) (full := full) (kids := kids) (by simp; omega) hmw hq hq2
      simp only [Bool.false_eq_true, if_false, w1]
      refine ⟨_, rfl, ?_, ?_, rfl⟩
      · exact (x.ap_P fun m _ s => x.hnw rfl m s).2 fun s v hs => by
          have hs' : f (bs path ++ .P m :: s) = some v := hs
          rw [x.hnw rfl] at hs'; cases hs'
      · have : addKid false kids wk = kids ++ [wk] := by simp [addKid]
        rw [this]
        exact (x.newWild hmw w4 w2 w3).rep
    | true =>
      subst hwl
      obtain ⟨wn, wk, h1, h2, h3, h4, ⟨s5, v5, h5⟩, h6, h7⟩ := x.hw rfl
      have hl1 : kids.length = idx.length + 1 := by simpa using x.hlen
      have hlast : kids.getLast? = some wk := by rw [List.getLast?_eq_getElem?, hl1]; exact h1
      simp only [if_true, hlast]
      have hpi : wk.incr.path = 58 :: wn := by rw [incr_path]; exact h4
      have hni : wk.incr.nt ≠ 3 := by rw [incr_nt, h3]; decide
      by_cases e : m = wn
      · subst e
        obtain ⟨r, hr, ho⟩ := hP wk m q rfl h1 h4 h3 h7 h2 rfl
        rw [et] at hr
        have hcond : wk.incr.path.length ≤ (58 :: (m ++ txt q)).length ∧ (58 :: (m ++ txt q)).take wk.incr.path.length = wk.incr.path ∧ wk.incr.nt ≠ 3 ∧ ((58 :: (m ++ txt q)).length ≤ wk.incr.path.length ∨ (58 :: (m ++ txt q))[wk.incr.path.length]? = some 47) := by
          rw [hpi]
          refine ⟨by simp, by simp, hni, ?_⟩
          rcases hq with rfl | ⟨r, rfl⟩
          · left; simp [txt]
          · right; simp [txt]
        rw [if_pos hcond, hr]
        refine ⟨_, rfl, ?_⟩
        cases r with
        | none => exact fun ha => ho ((x.ap_P h6).1 ha)
        | some k' =>
          obtain ⟨o1, o2, o3, o4⟩ := ho
          refine ⟨(x.ap_P h6).2 o1, ?_, rfl⟩
          show Rep true (.node () path idx true nt pr h0 f0 (kids.dropLast ++ [k'])) _
          rw [dropLast_set hl1]
          exact (x.setWild h1 h4 o2 o3 o4).setMin.rep
      · rw [if_neg]
        · refine ⟨none, rfl, fun ha => ?_⟩
          have := ha _ _ h5
          rw [apart_app, apart_PP e] at this; cases this
        · rw [hpi]
          rintro ⟨_, c2, _, c4⟩
          exact e (word_eq hmw h2 hq c2 c4)
  | .A m :: q, hok =>
    obtain ⟨_, hmw, rfl⟩ := hok
    have et : txt [.A m] = 42 :: m := by simp [txt]
    rw [et]
    have h1 : ¬ (nt = 2 ∧ (42 : UInt8) = 47 ∧ kids.length = 1) := fun e => hnt2 e.1
    have hj : idxOf 42 idx = none := idxOf_not.2 fun e => (x.hpl 42 e).2 rfl
    have hc : ¬ ((42 : UInt8) ≠ 58 ∧ (42 : UInt8) ≠ 42 ∧ nt ≠ 3) := fun e => e.2.1 rfl
    simp only [stepT, n_h, n_path, n_idx, n_wild, n_nt, n_pr, n_kids, n_full, h1, if_false, hj, hc]
    cases hwl : wild with
    | false =>
      subst hwl
      simp only [Bool.false_eq_true, if_false]
      rw [ins_catbad _ hmw]
      exact ⟨none, rfl, x.ap_A m hm⟩
    | true =>
      subst hwl
      obtain ⟨wn, wk, h1, h2, h3, h4, _⟩ := x.hw rfl
      have hl1 : kids.length = idx.length + 1 := by simpa using x.hlen
      have hlast : kids.getLast? = some wk := by rw [List.getLast?_eq_getElem?, hl1]; exact h1
      simp only [if_true, hlast]
      have hpi : wk.incr.path = 58 :: wn := by rw [incr_path]; exact h4
      rw [if_neg]
      · exact ⟨none, rfl, x.ap_A m hm⟩
      · rw [hpi]
        rintro ⟨_, c2, _⟩
        simp at c2
end
end Gt

/- A route added by addRoute's loop: the tree's meaning, or the refusal. No program in sight. -/
namespace Gt
open Gs Tr
theorem Ok_bs {p : List UInt8} {s : List Tok} : ∀ {sl : Bool}, Ok sl (bs p ++ s) → ∃ sl', Ok sl' s := by
  induction p with
  | nil => intro sl h; exact ⟨sl, h⟩
  | cons c p ih => intro sl h; exact ih h.2
theorem take_one {l : List UInt8} {i : Nat} {x : UInt8} (h : l[i]? = some x) : (l.drop i).take 1 = [x] := by
  rw [List.drop_eq_getElem_cons (List.getElem?_eq_some_iff.1 h).1, (List.getElem?_eq_some_iff.1 h).2]; rfl
theorem txt_len_pos {c : UInt8} {q : List Tok} : 0 < (txt (.b c :: q)).length := by simp [txt]
/-- what is under a node begins with one byte: its path does, or the catch-all is next -/
theorem St.head {path idx : List UInt8} {wild : Bool} {nt : Nat} {h0 : Option Nat} {f0 : List UInt8} {kids : List T0} {f : F} (x : St true path idx wild nt h0 f0 kids f) {c : UInt8} (hc : ∀ s v, f s = some v → ∃ r, s = .b c :: r) (hp : path = []) :
    ∃ k, idx = [c] ∧ kids = [k] ∧ k.nt = 3 := by
  subst hp
  rcases x.hmin rfl with h1 | h1 | h1 | ⟨k, h1, h2, h3⟩
  · obtain ⟨k, rfl⟩ := Option.isSome_iff_exists.1 h1
    obtain ⟨r, e⟩ := hc [] _ x.hh
    cases e
  · obtain ⟨wn, wk, _, _, _, _, ⟨s, v, h5⟩, _⟩ := x.hw h1
    obtain ⟨r, e⟩ := hc _ v h5
    simp [bs] at e
  · obtain ⟨d, e, l, rfl⟩ : ∃ d e l, idx = d :: e :: l := by
      match idx, h1 with
      | d :: e :: l, _ => exact ⟨d, e, l, rfl⟩
    obtain ⟨s, v, h5⟩ := x.hne d (.head _)
    obtain ⟨s2, v2, h6⟩ := x.hne e (.tail _ (.head _))
    obtain ⟨r, e1⟩ := hc _ v h5
    obtain ⟨r2, e2⟩ := hc _ v2 h6
    simp [bs] at e1 e2
    have := x.hnd
    rw [e1.1, e2.1] at this
    simp at this
  · subst h1 h2
    obtain ⟨s, v, h5⟩ := x.hne 47 (.head _)
    obtain ⟨r, e1⟩ := hc _ v h5
    simp [bs] at e1
    exact ⟨k, by rw [e1.1], rfl, h3⟩
theorem at_head {f : F} {p : List UInt8} {c : UInt8} : ∀ s v, at_ f p c s = some v → ∃ r, s = .b c :: r := fun s v h => by
  unfold at_ at h
  split at h
  · rename_i hx
    cases s with
    | nil => simp at hx
    | cons a r => simp at hx; exact ⟨r, by rw [hx]⟩
  · cases h
/-- a catch-all's node: all is refused -/
theorem ca_refuses {_pr _pr2 num : Nat} {_full full2 n : List UInt8} {q : List Tok} {sl : Bool} (hok : Ok sl (.b 47 :: q)) : ¬ Ap (one [.b 47, .A n] (num, full2)) (.b 47 :: q) := fun h => by
  have := h _ _ (one_self _ _)
  rw [apart_cons] at this
  match q with
  | [] => cases this
  | .b _ :: _ => rw [apart_ne (by simp)] at this; cases this
  | .P _ :: _ => rw [apart_ne (by simp)] at this; cases this
  | .A m :: r =>
    have hr : r = [] := hok.2.2.2
    subst hr
    by_cases e : m = n
    · subst e; rw [apart_self] at this; cases this
    · rw [apart_ne (by simpa using e)] at this; cases this
theorem stepT_ca {rec : T0 → List UInt8 → Nat → Option (Option T0)} {t k : T0} {full r : List UInt8} {pfi h : Nat} (hn : t.nt = 3) (hi : t.idx = []) (hw : t.wild = true) (hk : t.kids = [k]) (hk3 : k.nt = 3) : stepT rec t full pfi h (47 :: r) = some none := by
  have e : k.incr.nt = 3 := by rw [incr_nt]; exact hk3
  simp [stepT, hn, hi, hw, hk, idxOf, e]
theorem walk_ok : ∀ (g : Nat),
    (∀ (t : T0) (f : F) (sl : Bool) (c : UInt8) (q : List Tok) (full : List UInt8) (pfi h : Nat), Rep true t f → t.nt ≠ 2 → Ok sl (.b c :: q) → (∀ s v, f s = some v → ∃ r, s = .b c :: r) → (t.nt = 3 ∨ 2 * (txt (.b c :: q)).length + 3 ≤ g) → 1 ≤ g →
      ∃ r, walkT g t (txt (.b c :: q)) full pfi h = some r ∧ Out f (.b c :: q) (h, full) t.nt r) ∧
    (∀ (t : T0) (f : F) (n : List UInt8) (q : List Tok) (full : List UInt8) (pfi h : Nat), Rep true t f → t.nt = 2 → t.path = 58 :: n → word n → (q = [] ∨ ∃ r, q = .b 47 :: r) → Ok false q → 2 * (58 :: (n ++ txt q)).length + 2 ≤ g →
      ∃ r, walkT g t (58 :: (n ++ txt q)) full pfi h = some r ∧ OutP f q (h, full) n r)
  | 0 => ⟨fun _ _ _ _ _ _ _ _ _ _ _ _ _ h1 => by omega, fun _ _ _ _ _ _ _ _ _ _ _ _ _ h => by omega⟩
  | g + 1 => by
    obtain ⟨ihS, ihP⟩ := walk_ok g
    constructor
    · intro t f sl c q full pfi h hr hn2 hok hhd hg hg1
      rw [walkT_step]
      generalize hs : (.b c :: q : List Tok) = s at *
      cases hr with
      | pa => exact absurd rfl hn2
      | pk => exact absurd rfl hn2
      | @ca _ pr pr2 num full1 full2 n hn =>
        obtain ⟨r, e⟩ := hhd _ _ (one_self _ _)
        simp at e
        have hc : c = 47 := e.1.symm
        subst hc
        subst hs
        have et : txt (.b 47 :: q) = 47 :: txt q := rfl
        have hl : lcp (47 :: txt q) [] = 0 := lcp_nil' _
        rw [et]
        refine ⟨none, ?_, ca_refuses (_pr := 0) (_pr2 := 0) (_full := []) hok⟩
        simp only [n_path, hl, List.length_nil, Nat.lt_irrefl, if_false, List.drop_zero]
        exact stepT_ca rfl rfl rfl rfl rfl
      | @st _ path idx wild nt pr h0 full0 kids _ wn wk hp hnt hpre hh hnd hpl hlen hk hkn hne hno hw hwr hnw hA hmin =>
        have X : St true path idx wild nt h0 full0 kids f := (Rep.st (pr := pr) wn wk hp hnt hpre hh hnd hpl hlen hk hkn hne hno hw hwr hnw hA hmin).toSt hnt
        have hg2 : 2 * (txt s).length + 3 ≤ g + 1 := by
          rcases hg with h | h
          · simp only [n_nt] at h; omega
          · exact h
        obtain ⟨i, s', hi, hss, hl, hd, hnx⟩ := lcp_tok path s hp
        obtain ⟨sl', hok'⟩ := Ok_bs (hss ▸ hok)
        have hmm : h0.isSome = true ∨ wild = true ∨ 1 ≤ idx.length := by
          rcases hmin rfl with h | h | h | ⟨k, h, _⟩
          · exact .inl h
          · exact .inr (.inl h)
          · exact .inr (.inr (by omega))
          · exact .inr (.inr (by rw [h]; simp))
        simp only [n_path, hl, hd, n_nt]
        by_cases hlt : i < path.length
        · obtain ⟨x, hx⟩ : ∃ x, path[i]? = some x := ⟨_, List.getElem?_eq_getElem hlt⟩
          have Y := X.split (pr := pr + 4294967295) (full.take (pfi + i)) hx
          have e0 : Gt.split (.node () path idx wild nt pr h0 full0 kids) () i (full.take (pfi + i)) = .node () (path.take i) [x] false nt pr none (full.take (pfi + i)) [.node () (path.drop i) idx wild 0 (pr + 4294967295) h0 full0 kids] := by
            unfold Gt.split
            simp only [n_h, n_path, n_idx, n_wild, n_nt, n_pr, n_kids, n_full, take_one hx]
          rw [if_pos hlt, e0]
          have hnxx := hnx x hx
          obtain ⟨r, h1, h2⟩ := step_ok Y (pr := pr) (.inr (.inr (by simp))) (rec := fun k p q => walkT g k p full q h) (full := full) (pfi := pfi) (h := h) hok'
            (fun j d q' hj e => by
              have : d = x := by
                have := List.mem_of_getElem? hj
                simpa using this
              subst this
              exact absurd (by rw [e]; rfl) hnxx)
            (fun j d k q' hj _ e => by
              have : d = x := by
                have := List.mem_of_getElem? hj
                simpa using this
              subst this
              exact absurd (by rw [e]; rfl) hnxx)
            (fun _ _ _ e => by cases e)
          rw [← hss] at h2
          exact ⟨r, h1, h2⟩
        · have hie : i = path.length := by omega
          subst hie
          rw [if_neg hlt]
          rw [List.take_length] at hss
          have htl : (txt s).length = path.length + (txt s').length := by rw [hss, txt_app, txt_bs, List.length_append]
          obtain ⟨r, h1, h2⟩ := step_ok X (pr := pr) hmm (rec := fun k p q => walkT g k p full q h) (full := full) (pfi := pfi) (h := h) hok' (fun _ _ _ _ _ => rfl)
            (fun j d k q' hj hkj e => by
              subst e
              have hkr := hk j d k hj hkj
              have hkn2 := hkn j k (List.getElem?_eq_some_iff.1 hj).1 hkj
              have := ihS k.incr (at_ f path d) sl' d q' full (pfi + path.length) h hkr.incr (by rw [incr_nt]; omega) hok' at_head ?_ (by have := txt_len_pos (c := d) (q := q'); omega)
              · rw [incr_nt] at this; exact this
              · rw [incr_nt]
                by_cases hp0 : path = []
                · obtain ⟨k0, e1, e2, e3⟩ := X.head (c := c) (fun s2 v2 h2 => hhd s2 v2 h2) hp0
                  left
                  rw [e1] at hj
                  rw [e2] at hkj
                  have hj0 : j = 0 := by have := (List.getElem?_eq_some_iff.1 hj).1; simp at this; omega
                  subst hj0
                  cases hkj
                  exact e3
                · right
                  have := List.length_pos_iff.2 hp0
                  omega)
            (fun wk2 wn2 q' hwl hwk hwp hw2 hwr2 hwn e => by
              subst e
              obtain ⟨_, _, hq, hq2⟩ := hok'
              exact ihP wk2.incr _ wn2 q' full pfi h hwr2.incr (by rw [incr_nt]; exact hw2) (by rw [incr_path]; exact hwp) hwn hq hq2 (by
                have : (txt (.P wn2 :: q')).length = (58 :: (wn2 ++ txt q')).length := rfl
                omega))
          rw [← hss] at h2
          exact ⟨r, h1, h2⟩
    · intro t f n q full pfi h hr hn2 hpth hw hq hok hg
      rw [walkT_step]
      have hl : lcp (58 :: (n ++ txt q)) (58 :: n) = n.length + 1 := by
        have := lcp_front (58 :: n) (txt q) []
        rw [List.append_nil, lcp_nil'] at this
        exact this
      have hd : (58 :: (n ++ txt q)).drop (n.length + 1) = txt q := by simp
      have hnl : ¬ (n.length + 1 < (58 :: n : List UInt8).length) := by simp
      rw [hpth, hl, hd, if_neg hnl]
      have hgl : (58 :: (n ++ txt q)).length = n.length + 1 + (txt q).length := by simp; omega
      have hn0 := List.length_pos_iff.2 hw.1
      cases hr with
      | st wn wk hp hnt => simp only [n_nt] at hn2; omega
      | ca => simp only [n_nt] at hn2; omega
      | @pa _ n2 pr h0 full0 _ hh hno =>
        simp only [n_path, List.cons.injEq, true_and] at hpth
        subst hpth
        rcases hq with rfl | ⟨r, rfl⟩
        · simp only [txt, stepT, n_h, n_path, n_idx, n_wild, n_nt, n_pr, n_kids]
          cases h0 with
          | none =>
            refine ⟨_, rfl, fun s v hs => ?_, .pa (upd_self _ _ _) (fun s hs => by rw [upd_ne _ hs]; exact hno s hs), rfl, rfl⟩
            by_cases e : s = []
            · subst e; rw [hh] at hs; cases hs
            · rw [hno s e] at hs; cases hs
          | some k =>
            refine ⟨none, rfl, fun ha => ?_⟩
            have := ha _ _ hh
            cases this
        · have et : txt (.b 47 :: r) = 47 :: txt r := rfl
          rw [et]
          have h1 : ¬ ((2 : Nat) = 2 ∧ (47 : UInt8) = 47 ∧ ([] : List T0).length = 1) := fun e => by cases e.2.2
          have hc : (47 : UInt8) ≠ 58 ∧ (47 : UInt8) ≠ 42 ∧ (2 : Nat) ≠ 3 := by decide
          have hb : bump ([] ++ [(47 : UInt8)]) (addKid false [] (.node () [] [] false 0 0 none full [] : T0)) (([] ++ [(47 : UInt8)]).length - 1) = ([47], [.node () [] [] false 0 1 none full []], 0) := rfl
          obtain ⟨t', i1, i2, i3, i4⟩ := ins_fresh ((47 :: txt r).length + 1) false (.b 47 :: r) 0 1 h full full (by rw [et]; omega) hok ⟨47, r, rfl⟩ (.inl rfl)
          rw [et] at i1
          simp only [stepT, n_h, n_path, n_idx, n_wild, n_nt, n_pr, n_kids, n_full, idxOf, hc, ne_eq, not_false_eq_true, and_self, if_true, hb, List.getElem?_cons_zero, i1, Option.map_some]
          refine ⟨_, rfl, fun s v hs => ?_, ?_, rfl, rfl⟩
          · by_cases e : s = []
            · subst e; rfl
            · rw [hno s e] at hs; cases hs
          · refine .pk (h := h0) (full := full0) (by rw [upd_ne _ (by simp)]; exact hh) (.inr rfl) ?_ i3 (fun s v hs => ?_) ⟨.b 47 :: r, (h, full), by simp, upd_self _ _ _⟩
            · have : (fun s => if s = [] then none else upd f (.b 47 :: r) (h, full) s) = one (.b 47 :: r) (h, full) := by
                funext s
                by_cases e : s = []
                · subst e; rw [if_pos rfl, one_ne (by simp)]
                · rw [if_neg e]
                  unfold upd one
                  rw [hno s e]
              rw [this]; exact i2
            · rcases upd_some hs with rfl | hs
              · exact .inr ⟨r, rfl⟩
              · by_cases e : s = []
                · exact .inl e
                · rw [hno s e] at hs; cases hs
      | @pk _ n2 idx pr h0 full0 k _ hh hidx hk hkn h47 hne =>
        simp only [n_path, List.cons.injEq, true_and] at hpth
        subst hpth
        rcases hq with rfl | ⟨r, rfl⟩
        · simp only [txt, stepT, n_h, n_path, n_idx, n_wild, n_nt, n_pr, n_kids]
          cases h0 with
          | none =>
            refine ⟨_, rfl, fun s v hs => ?_, .pk (upd_self _ _ _) hidx ?_ hkn (fun s v hs => ?_) ?_, rfl, rfl⟩
            · rcases h47 s v hs with rfl | ⟨r, rfl⟩
              · rw [hh] at hs; cases hs
              · rfl
            · have : (fun s => if s = [] then none else upd f [] (h, full) s) = fun s => if s = [] then none else f s := by
                funext s
                by_cases e : s = []
                · rw [if_pos e, if_pos e]
                · rw [if_neg e, if_neg e, upd_ne _ e]
              rw [this]; exact hk
            · rcases upd_some hs with rfl | hs
              · exact .inl rfl
              · exact h47 s v hs
            · obtain ⟨s, v, h1, h2⟩ := hne
              exact ⟨s, v, h1, by rw [upd_ne _ h1]; exact h2⟩
          | some k =>
            refine ⟨none, rfl, fun ha => ?_⟩
            have := ha _ _ hh
            cases this
        · have et : txt (.b 47 :: r) = 47 :: txt r := rfl
          have h1 : (2 : Nat) = 2 ∧ (47 : UInt8) = 47 ∧ ([k] : List T0).length = 1 := ⟨rfl, rfl, rfl⟩
          obtain ⟨r2, hr2, ho⟩ := ihS k.incr _ false 47 r full (pfi + (58 :: n2).length) h hk.incr (by rw [incr_nt]; omega) hok (fun s v hs => by
            split at hs
            · cases hs
            · rename_i e
              rcases h47 s v hs with rfl | h
              · exact absurd rfl e
              · exact h) (.inr (by rw [et] at hgl hg ⊢; omega)) (by omega)
          rw [et] at hr2 ⊢
          simp only [stepT, n_h, n_path, n_idx, n_wild, n_nt, n_pr, n_kids, n_full, h1, if_true, hr2, Option.map_some, and_self]
          refine ⟨_, rfl, ?_⟩
          cases r2 with
          | none =>
            refine fun ha => ho fun s v hs => ?_
            dsimp only at hs
            split at hs
            · cases hs
            · exact ha s v hs
          | some k' =>
            obtain ⟨o1, o2, o3⟩ := ho
            rw [incr_nt] at o3
            refine ⟨fun s v hs => ?_, .pk (by rw [upd_ne _ (by simp)]; exact hh) hidx ?_ (o3.trans hkn) (fun s v hs => ?_) ⟨.b 47 :: r, (h, full), by simp, upd_self _ _ _⟩, rfl, rfl⟩
            · by_cases e : s = []
              · subst e; rfl
              · exact o1 s v (by dsimp only; rw [if_neg e]; exact hs)
            · have : (fun s => if s = [] then none else upd f (.b 47 :: r) (h, full) s) = upd (fun s => if s = [] then none else f s) (.b 47 :: r) (h, full) := by
                funext s
                by_cases e : s = []
                · subst e; rw [if_pos rfl, upd_ne _ (by simp)]; rfl
                · unfold upd
                  dsimp only
                  rw [if_neg e, if_neg e]
              rw [this]; exact o2
            · rcases upd_some hs with rfl | hs
              · exact .inr ⟨r, rfl⟩
              · exact h47 s v hs
end Gt
