/- Routes with other names for their parameters, routes in another order: the search tells the same. -/
import Derived.Test.YtekclaobeccbdaaDoorBo
import Derived.Test.YtekclaobeccbdaaDoorBn
import Derived.Test.YtekclaobeccbdaaDoorBl
import Derived.Test.YtekclaobeccbdaaDoorBm
/- Two lists of routes that the search takes for the same. No program in sight. -/
namespace Bw
open Go Go.Proofs

theorem lookO_map' {α β : Type} {tk : α → List Tok} {m : α → List UInt8} {tk' : β → List Tok} {m' : β → List UInt8} (f : α → β) (x : List UInt8) (p : List Tok) : ∀ l, (∀ a ∈ l, tk' (f a) = tk a ∧ m' (f a) = m a) → lookO tk' m' (l.map f) x p = (lookO tk m l x p).map f
  | [], _ => rfl
  | a :: l, h => by
    obtain ⟨h1, h2⟩ := h a (.head _)
    simp only [List.map_cons, lookO, h1, h2]
    split
    · rfl
    · exact lookO_map' f x p l fun b hb => h b (.tail _ hb)
theorem KOf_map' {α β : Type} {tk : α → List Tok} {m : α → List UInt8} {tk' : β → List Tok} {m' : β → List UInt8} (f : α → β) (l : List α) (h : ∀ a ∈ l, tk' (f a) = tk a ∧ m' (f a) = m a) : KOf tk' m' (l.map f) = (KOf tk m l).map f := by
  unfold KOf Kn.map
  congr 1
  · funext p; exact propext ⟨fun ⟨b, hb, hp⟩ => by obtain ⟨a, ha, rfl⟩ := List.mem_map.1 hb; exact ⟨a, ha, by rw [← (h a ha).1]; exact hp⟩, fun ⟨a, ha, hp⟩ => ⟨f a, List.mem_map.2 ⟨a, ha, rfl⟩, by rw [(h a ha).1]; exact hp⟩⟩
  · funext p; exact propext ⟨fun ⟨b, hb, hp, hm⟩ => by obtain ⟨a, ha, rfl⟩ := List.mem_map.1 hb; exact ⟨a, ha, by rw [← (h a ha).1]; exact hp, by rw [← (h a ha).2]; exact hm⟩, fun ⟨a, ha, hp, hm⟩ => ⟨f a, List.mem_map.2 ⟨a, ha, rfl⟩, by rw [(h a ha).1]; exact hp, by rw [(h a ha).2]; exact hm⟩⟩
  · funext x p; exact lookO_map' f x p l h

/-- what a search tells, by what it ends in -/
theorem fres_place {Rs : List RB} {meth : List UInt8} {o : VOk (RB × Nat)} {num : Int} {p al : List UInt8} {ns vs : List (List UInt8)} (h : FRes Rs meth o num p ns vs al) :
    (∃ rb n, o = .stop (.hit (rb, n) vs) ∧ Rs[n]? = some rb ∧ num = (n : Nat) ∧ p = rb.p ∧ ns = (prs rb.p none).2 ∧ al = []) ∨
    (∃ pl ws rb n, (o = .stop (.miss pl ws) ∨ o = .back (some pl) ∧ ws = []) ∧ (KS Rs).look nfName pl = some (rb, n) ∧ Rs[n]? = some rb ∧ num = (n : Nat) ∧ p = rb.p ∧ ns = (prs rb.p none).2 ∧ vs = (ws ++ List.replicate (prs rb.p none).2.length []).take (prs rb.p none).2.length ∧ al = []) ∨
    (∃ pl ws, (o = .stop (.miss pl ws) ∨ o = .back (some pl) ∧ ws = []) ∧ (KS Rs).look nfName pl = none ∧ num = (if meth = optM then -3 else -2) ∧ ns = [] ∧ vs = [] ∧ AlOf (KS Rs) pl al) ∨
    (o = .back none ∧ num = -1 ∧ ns = [] ∧ vs = [] ∧ al = []) := by
  cases h with
  | hit h hl => exact .inl ⟨_, _, rfl, h, rfl, rfl, rfl, rfl⟩
  | missNf ho h1 h2 _ => exact .inr (.inl ⟨_, _, _, _, ho, h1, h2, rfl, rfl, rfl, rfl, rfl⟩)
  | miss ho h1 h2 => exact .inr (.inr (.inl ⟨_, _, ho, h1, rfl, rfl, rfl, h2⟩))
  | none => exact .inr (.inr (.inr ⟨rfl, rfl, rfl, rfl, rfl⟩))

theorem fres_vl {Rs : List RB} (hR : Right Rs) {meth : List UInt8} {o : VOk (RB × Nat)} {num : Int} {p al : List UInt8} {ns vs : List (List UInt8)} (h : FRes Rs meth o num p ns vs al) : vs.length ≤ 200 := by
  have key : ∀ rb ∈ Rs, (prs rb.p none).2.length ≤ 200 := fun rb hrb => by
    have h1 := prs_cnt rb.p none
    have h2 : cnt (prs rb.p none).1 ≤ (prs rb.p none).1.length := by rw [cnt]; exact List.length_filter_le _ _
    have h3 := prs_len rb.p none
    have h4 := (hR.2 rb hrb).pl
    simp at h1; omega
  cases h with
  | hit h hl => rw [hl]; exact key _ (List.mem_of_getElem? h)
  | missNf _ _ h _ => have := key _ (List.mem_of_getElem? h); rw [List.length_take]; omega
  | miss _ _ _ => simp
  | none => simp

/-- two lists of routes, the one the other's image: what is found -/
theorem fresMap {R1 R2 : List RB} {f : RB × Nat → RB × Nat} (hK : KS R2 = (KS R1).map f) {meth path : List UInt8} (hlen : ∀ k : RB × Nat, R1[k.2]? = some k.1 → (prs (f k).1.p none).2.length = (prs k.1.p none).2.length)
    {num1 num2 : Int} {p1 p2 al1 al2 : List UInt8} {ns1 ns2 vs1 vs2 : List (List UInt8)} (h1 : FRes R1 meth (visK (KS R1) meth 202 [] path [] none) num1 p1 ns1 vs1 al1) (h2 : FRes R2 meth (visK (KS R2) meth 202 [] path [] none) num2 p2 ns2 vs2 al2) :
    vs1 = vs2 ∧ alw al1 = alw al2 ∧
    ((∃ rb n, R1[n]? = some rb ∧ num1 = (n : Nat) ∧ num2 = ((f (rb, n)).2 : Nat) ∧ p1 = rb.p ∧ p2 = (f (rb, n)).1.p ∧ ns1 = (prs p1 none).2 ∧ ns2 = (prs p2 none).2) ∨ (num1 = num2 ∧ num1 < 0 ∧ ns1 = [] ∧ ns2 = [])) := by
  rw [hK, visK_map] at h2
  generalize visK (KS R1) meth 202 [] path [] none = o at h1 h2
  have hlk : ∀ x q, (KS R2).look x q = ((KS R1).look x q).map f := fun x q => by rw [hK]; rfl
  have hneg : (if meth = optM then (-3 : Int) else -2) < 0 := by split <;> decide
  have nohit : ∀ {pl ws} {a : RB × Nat} {vs}, (o = .stop (.miss pl ws) ∨ o = .back (some pl) ∧ ws = []) → o.map f ≠ .stop (.hit a vs) := by
    rintro pl ws a vs (rfl | ⟨rfl, _⟩) h <;> cases h
  have noback : ∀ {pl ws}, (o = .stop (.miss pl ws) ∨ o = .back (some pl) ∧ ws = []) → o.map f ≠ .back none := by
    rintro pl ws (rfl | ⟨rfl, _⟩) h <;> cases h
  have same : ∀ {pl ws pl2 ws2}, (o = .stop (.miss pl ws) ∨ o = .back (some pl) ∧ ws = []) → (o.map f = .stop (.miss pl2 ws2) ∨ o.map f = .back (some pl2) ∧ ws2 = []) → pl2 = pl ∧ ws2 = ws := by
    rintro pl ws pl2 ws2 (rfl | ⟨rfl, rfl⟩) (h | ⟨h, h'⟩)
    · cases h; exact ⟨rfl, rfl⟩
    · cases h
    · cases h
    · cases h; exact ⟨rfl, h'⟩
  rcases fres_place h1 with ⟨rb, n, rfl, hr, rfl, rfl, rfl, rfl⟩ | ⟨pl, ws, rb, n, ho, hl, hr, rfl, rfl, rfl, rfl, rfl⟩ | ⟨pl, ws, ho, hl, rfl, rfl, rfl, ha⟩ | ⟨rfl, rfl, rfl, rfl, rfl⟩
  · obtain ⟨rfl, rfl, rfl, rfl, rfl, _⟩ := fres_hit (rb := (f (rb, n)).1) (n := (f (rb, n)).2) h2
    exact ⟨rfl, rfl, .inl ⟨rb, n, hr, rfl, rfl, rfl, rfl, rfl, rfl⟩⟩
  · rcases fres_place h2 with ⟨rb2, n2, ho2, _⟩ | ⟨pl2, ws2, rb2, n2, ho2, hl2, hr2, rfl, rfl, rfl, rfl, rfl⟩ | ⟨pl2, ws2, ho2, hl2, _⟩ | ⟨ho2, _⟩
    · exact absurd ho2 (nohit ho)
    · obtain ⟨rfl, rfl⟩ := same ho ho2
      rw [hlk, hl] at hl2
      simp only [Option.map_some, Option.some.injEq] at hl2
      have e1 : (f (rb, n)).1 = rb2 := by rw [hl2]
      have e2 : (f (rb, n)).2 = n2 := by rw [hl2]
      have hle := hlen (rb, n) hr
      rw [e1] at hle
      refine ⟨by rw [hle], rfl, .inl ⟨rb, n, hr, rfl, by rw [e2], rfl, by rw [e1], rfl, rfl⟩⟩
    · obtain ⟨rfl, rfl⟩ := same ho ho2
      rw [hlk, hl] at hl2; cases hl2
    · exact absurd ho2 (noback ho)
  · rcases fres_place h2 with ⟨rb2, n2, ho2, _⟩ | ⟨pl2, ws2, rb2, n2, ho2, hl2, _⟩ | ⟨pl2, ws2, ho2, hl2, rfl, rfl, rfl, ha2⟩ | ⟨ho2, _⟩
    · exact absurd ho2 (nohit ho)
    · obtain ⟨rfl, rfl⟩ := same ho ho2
      rw [hlk, hl] at hl2; cases hl2
    · obtain ⟨rfl, rfl⟩ := same ho ho2
      exact ⟨rfl, alw_of ha ha2 (fun x => by rw [hlk]; cases (KS R1).look x pl2 <;> rfl), .inr ⟨rfl, hneg, rfl, rfl⟩⟩
    · exact absurd ho2 (noback ho)
  · obtain ⟨rfl, _, rfl, rfl, rfl⟩ := fres_none h2
    exact ⟨rfl, rfl, .inr ⟨rfl, by decide, rfl, rfl⟩⟩
end Bw

/- Routes with other names for their parameters; routes in another order. No program in sight. -/
namespace Bw
open Go Go.Proofs

def isAll (p : List UInt8) : Bool := decide ((parts (ePath p)).getLast? = some [42])
def renAt (nm p : List UInt8) (k : Nat) : List UInt8 := if (prs p none).2.getD k [] = [42] ∧ isAll p = true ∧ k + 1 = (prs p none).2.length then [42] else 58 :: nm
def renW (nm p : List UInt8) : List (List UInt8) := (List.range (prs p none).2.length).map (renAt nm p)
def ren (nm : List UInt8) (r : RB) : RB := ⟨r.m, rv false r.p (renW nm r.p), r.nm⟩

def Wok (nm : List UInt8) : List Tok → List (List UInt8) → Prop
  | [], ws => ws = []
  | .b _ :: u, ws => Wok nm u ws
  | .P :: u, w :: ws => w = 58 :: nm ∧ Wok nm u ws
  | .A :: u, w :: ws => w = [42] ∧ Wok nm u ws
  | .P :: _, [] => False
  | .A :: _, [] => False

theorem prs_skip : ∀ (nm s acc : List UInt8), 47 ∉ nm → prs (nm ++ s) (some acc) = prs s (some (acc ++ nm))
  | [], s, acc, _ => by simp
  | c :: nm, s, acc, h => by
    have hc : c ≠ 47 := fun e => h (by rw [e]; exact .head _)
    rw [List.cons_append, prs, if_neg hc, prs_skip nm s _ fun hh => h (.tail _ hh)]
    simp
theorem prs_fill {nm : List UInt8} (hn : 47 ∉ nm) : ∀ (u : List Tok) (ws : List (List UInt8)), TkOk u → (∀ c, Tok.b c ∈ u → c ≠ 58 ∧ c ≠ 42) → Wok nm u ws → (prs (fill u ws) none).1 = u
  | [], ws, _, _, _ => by simp [fill, prs]
  | .b c :: u, ws, h, hb, hw => by
    have ih := prs_fill hn u ws h (fun c hc => hb c (.tail _ hc)) hw
    obtain ⟨h1, h2⟩ := hb c (.head _)
    show (prs (c :: fill u ws) none).1 = _
    rw [prs_b' _ h1 h2, ih]
  | .P :: u, [], _, _, hw => by cases hw
  | .A :: u, [], _, _, hw => by cases hw
  | .P :: u, w :: ws, h, hb, hw => by
    obtain ⟨rfl, hw⟩ := hw
    have ih := prs_fill hn u ws h.2 (fun c hc => hb c (.tail _ hc)) hw
    show (prs (58 :: nm ++ fill u ws) none).1 = _
    rw [List.cons_append, prs_P']
    have hhd : fill u ws = [] ∨ (fill u ws).head? = some 47 := by
      rcases h.1 with rfl | h1
      · exact .inl (by simp [fill])
      · cases u with
        | nil => cases h1
        | cons t u => simp only [List.head?_cons, Option.some.injEq] at h1; subst h1; exact .inr rfl
    show Tok.P :: (prs (nm ++ fill u ws) (some [])).1 = _
    rw [prs_skip _ _ _ hn, prs_some_end hhd]
    show Tok.P :: (prs (fill u ws) none).1 = _
    rw [ih]
  | .A :: u, w :: ws, h, _, hw => by
    have h' : u = [] := h
    subst h'
    obtain ⟨rfl, hw⟩ := hw
    have hw' : ws = [] := hw
    subst hw'
    rfl
theorem Wok.rep {nm : List UInt8} : ∀ (u : List Tok), Tok.A ∉ u → Wok nm u (List.replicate (cnt u) (58 :: nm))
  | [], _ => rfl
  | .b c :: u, h => by have := Wok.rep (nm := nm) u fun hh => h (.tail _ hh); exact this
  | .P :: u, h => by
    have := Wok.rep (nm := nm) u fun hh => h (.tail _ hh)
    have e : cnt (.P :: u) = cnt u + 1 := rfl
    rw [e, List.replicate_succ]
    exact ⟨rfl, this⟩
  | .A :: u, h => absurd (.head _) h
theorem Wok.snoc {nm : List UInt8} : ∀ {u : List Tok} {ws : List (List UInt8)}, Wok nm u ws → Wok nm (u ++ [.A]) (ws ++ [[42]])
  | [], ws, h => by have h' : ws = [] := h; subst h'; exact ⟨rfl, rfl⟩
  | .b c :: u, ws, h => Wok.snoc (u := u) h
  | .P :: u, w :: ws, h => ⟨h.1, Wok.snoc h.2⟩
  | .A :: u, w :: ws, h => ⟨h.1, Wok.snoc h.2⟩
  | .P :: _, [], h => by cases h
  | .A :: _, [], h => by cases h
theorem tk_A : ∀ {u : List Tok}, TkOk u → Tok.A ∉ u ∨ ∃ v, u = v ++ [.A] ∧ Tok.A ∉ v
  | [], _ => .inl (by simp)
  | .b c :: u, h => by
    rcases tk_A (u := u) h with h1 | ⟨v, rfl, h1⟩
    · exact .inl (by simpa using h1)
    · exact .inr ⟨.b c :: v, rfl, by simpa using h1⟩
  | .P :: u, h => by
    rcases tk_A h.2 with h1 | ⟨v, rfl, h1⟩
    · exact .inl (by simpa using h1)
    · exact .inr ⟨.P :: v, rfl, by simpa using h1⟩
  | .A :: u, h => .inr ⟨[], by have h' : u = [] := h; subst h'; rfl, by simp⟩

theorem last_cons {α : Type} (a : α) : ∀ (l : List α), (a :: l).getLast? = some (l.getLast?.getD a)
  | [] => rfl
  | b :: l => by rw [List.getLast?_cons]
theorem grp_none : ∀ {u : List Tok} {acc : List UInt8}, grp acc u = [] → acc = [] ∧ u = []
  | [], acc, h => by
    unfold grp txt at h
    split at h
    · exact ⟨by assumption, rfl⟩
    · cases h
  | .b c :: u, acc, h => by have := (grp_none (u := u) h).1; simp at this
  | .P :: u, acc, h => by simp [grp] at h
  | .A :: u, acc, h => by simp [grp] at h
theorem grp_last : ∀ {u : List Tok} {acc : List UInt8}, 42 ∉ acc → (∀ c, Tok.b c ∈ u → c ≠ 42) → ((grp acc u).getLast? = some [42] ↔ u.getLast? = some .A)
  | [], acc, h, _ => by
    unfold grp txt
    split
    · simp
    · simp only [List.getLast?_singleton, Option.some.injEq, List.getLast?_nil, reduceCtorEq, iff_false]
      intro e; rw [e] at h; exact h (.head _)
  | .b c :: u, acc, h, hb => by
    have ih := grp_last (u := u) (acc := acc ++ [c]) (by
      intro hh
      rcases List.mem_append.1 hh with hh | hh
      · exact h hh
      · exact hb c (.head _) (List.mem_singleton.1 hh).symm) fun c hc => hb c (.tail _ hc)
    show (grp (acc ++ [c]) u).getLast? = _ ↔ _
    rw [ih, last_cons]
    cases u.getLast? <;> simp
  | .P :: u, acc, h, hb => by
    have ih := grp_last (u := u) (acc := []) (by simp) fun c hc => hb c (.tail _ hc)
    show (txt acc ++ [58] :: grp [] u).getLast? = _ ↔ _
    rw [List.getLast?_append, last_cons, last_cons]
    cases hg : (grp [] u).getLast? with
    | none =>
      have := (grp_none (List.getLast?_eq_none_iff.1 hg)).2
      subst this
      simp
    | some x => rw [hg] at ih; simp only [Option.getD_some, Option.some_or, ih]; cases u.getLast? <;> simp
  | .A :: u, acc, h, hb => by
    have ih := grp_last (u := u) (acc := []) (by simp) fun c hc => hb c (.tail _ hc)
    show (txt acc ++ [42] :: grp [] u).getLast? = _ ↔ _
    rw [List.getLast?_append, last_cons, last_cons]
    cases hg : (grp [] u).getLast? with
    | none =>
      have := (grp_none (List.getLast?_eq_none_iff.1 hg)).2
      subst this
      simp
    | some x =>
      rw [hg] at ih
      simp only [Option.getD_some, Option.some_or, ih]
      cases hu : u.getLast? with
      | none =>
        have := List.getLast?_eq_none_iff.1 hu
        subst this
        simp [grp, txt] at hg
      | some _ => simp
theorem prs_bytes : ∀ (l : List UInt8) (o : Option (List UInt8)) (c : UInt8), Tok.b c ∈ (prs l o).1 → c ≠ 58 ∧ c ≠ 42
  | [], none, c, h => by simp [prs] at h
  | [], some acc, c, h => by simp [prs] at h
  | d :: l, none, c, h => by
    simp only [prs] at h
    split at h
    · rcases List.mem_cons.1 h with h | h
      · cases h
      · exact prs_bytes l _ c h
    · split at h
      · rcases List.mem_cons.1 h with h | h
        · cases h
        · exact prs_bytes l _ c h
      · rename_i h1 h2
        rcases List.mem_cons.1 h with h | h
        · cases h; exact ⟨h1, h2⟩
        · exact prs_bytes l _ c h
  | d :: l, some acc, c, h => by
    simp only [prs] at h
    split at h
    · rcases List.mem_cons.1 h with h | h
      · cases h; decide
      · exact prs_bytes l _ c h
    · exact prs_bytes l _ c h
theorem prs_last : ∀ (l : List UInt8) (o : Option (List UInt8)), (prs l o).1.getLast? = some .A → (prs l o).2.getLast? = some [42]
  | [], none, h => by simp [prs] at h
  | [], some acc, h => by simp [prs] at h
  | d :: l, none, h => by
    simp only [prs] at h ⊢
    split at h
    · rename_i h1
      rw [if_pos h1]
      rw [last_cons] at h
      cases hl : (prs l (some [])).1.getLast? with
      | none => rw [hl] at h; cases h
      | some t => rw [hl] at h; exact prs_last l _ (by rw [hl]; exact h)
    · rename_i h1
      rw [if_neg h1]
      split at h
      · rename_i h2
        rw [if_pos h2]
        simp only [last_cons] at h ⊢
        cases hl : (prs l none).1.getLast? with
        | none =>
          have e := List.getLast?_eq_none_iff.1 hl
          have hc := prs_cnt l none
          rw [e] at hc
          have h0 : (prs l none).2 = [] := List.length_eq_zero_iff.1 (by simpa [cnt] using hc)
          rw [h0]; rfl
        | some t => rw [hl] at h; rw [prs_last l _ (by rw [hl]; exact h)]; rfl
      · rename_i h2
        rw [if_neg h2]
        simp only [last_cons] at h ⊢
        cases hl : (prs l none).1.getLast? with
        | none => rw [hl] at h; cases h
        | some t => rw [hl] at h; exact prs_last l _ (by rw [hl]; exact h)
  | d :: l, some acc, h => by
    simp only [prs] at h ⊢
    split at h
    · rename_i h1
      rw [if_pos h1]
      simp only [last_cons] at h ⊢
      cases hl : (prs l none).1.getLast? with
      | none => rw [hl] at h; cases h
      | some t => rw [hl] at h; rw [prs_last l _ (by rw [hl]; exact h)]; rfl
    · rename_i h1
      rw [if_neg h1]
      exact prs_last l _ h

theorem renW_len (nm p : List UInt8) : (renW nm p).length = (prs p none).2.length := by simp [renW]
theorem renW_ok {nm p : List UInt8} (hk : okR p) (hd : p.head? = some 47) : Wok nm (prs p none).1 (renW nm p) := by
  have hT := prs_TkOk p none hk
  have hb := prs_bytes p none
  have hc := prs_cnt p none
  simp only [Option.isSome_none, Bool.false_eq_true, if_false, Nat.add_zero] at hc
  have hall : isAll p = true ↔ (prs p none).1.getLast? = some .A := by
    unfold isAll parts
    rw [decide_eq_true_eq, ePath_of hd]
    exact grp_last (by simp) fun c h => (hb c h).2
  rcases tk_A hT with h1 | ⟨v, hv, h1⟩
  · have hna : ¬ isAll p = true := fun h => by
      have := hall.1 h
      exact h1 (List.mem_of_getLast? this)
    have : renW nm p = List.replicate (cnt (prs p none).1) (58 :: nm) := by
      unfold renW
      rw [← hc]
      refine List.eq_replicate_iff.2 ⟨by simp, fun x hx => ?_⟩
      obtain ⟨k, _, rfl⟩ := List.mem_map.1 hx
      unfold renAt
      rw [if_neg fun h => hna h.2.1]
    rw [this]
    exact Wok.rep _ h1
  · have hl : (prs p none).1.getLast? = some .A := by rw [hv]; simp
    have hal := hall.2 hl
    have hnl := prs_last p none hl
    have hcv : (prs p none).2.length = cnt v + 1 := by rw [hc, hv, cnt_app]; rfl
    have : renW nm p = List.replicate (cnt v) (58 :: nm) ++ [[42]] := by
      unfold renW
      rw [hcv, List.range_succ, List.map_append]
      congr 1
      · refine List.eq_replicate_iff.2 ⟨by simp, fun x hx => ?_⟩
        obtain ⟨k, hk, rfl⟩ := List.mem_map.1 hx
        have := List.mem_range.1 hk
        unfold renAt
        rw [if_neg fun h => by omega]
      · simp only [List.map_cons, List.map_nil]
        have hnk : (prs p none).2.getD (cnt v) [] = [42] := by
          rw [List.getLast?_eq_getElem?, hcv, Nat.add_sub_cancel] at hnl
          rw [List.getD_eq_getElem?_getD, hnl]; rfl
        unfold renAt
        rw [if_pos ⟨hnk, hal, hcv.symm⟩]
    rw [this, hv]
    exact (Wok.rep v h1).snoc
theorem ren_tk {nm : List UInt8} (hn : 47 ∉ nm) {r : RB} (hr : RightR r) : (prs (ren nm r).p none).1 = (prs r.p none).1 := by
  show (prs (rv false r.p (renW nm r.p)) none).1 = _
  rw [rv_fill hr.okR (renW_len _ _)]
  exact prs_fill hn _ _ (prs_TkOk _ _ hr.okR) (prs_bytes _ _) (renW_ok hr.okR hr.hd)
theorem KS_ren {nm : List UInt8} (hn : 47 ∉ nm) {Rs : List RB} (hR : Right Rs) : KS (Rs.map (ren nm)) = (KS Rs).map fun k => (ren nm k.1, k.2) := by
  unfold KS
  have e : (Rs.map (ren nm)).zipIdx.reverse = Rs.zipIdx.reverse.map fun k => (ren nm k.1, k.2) := by
    rw [List.zipIdx_map, List.map_reverse]; rfl
  rw [e]
  refine KOf_map' _ _ fun k hk => ⟨?_, rfl⟩
  exact ren_tk hn (hR.2 k.1 (List.mem_of_getElem? (mem_KS.1 hk)))
theorem ren_cnt {nm : List UInt8} (hn : 47 ∉ nm) {r : RB} (hr : RightR r) : (prs (ren nm r).p none).2.length = (prs r.p none).2.length := by
  have h1 := prs_cnt (ren nm r).p none
  have h2 := prs_cnt r.p none
  rw [ren_tk hn hr] at h1
  omega

/-- routes in another order -/
theorem KS_turn {Rs : List RB} (hR : Right Rs) (hn : (Rs.map ekey).Nodup) {ord : List Nat} (hp : ord.Perm (List.range Rs.length)) {R2 : List RB} (h2 : ∀ k : Nat, R2[k]? = (ord[k]?).bind fun i => Rs[i]?) : KS Rs = (KS R2).map fun k => (k.1, ord.getD k.2 0) := by
  have hmem1 : ∀ (rb : RB) (k : Nat), R2[k]? = some rb → Rs[ord.getD k 0]? = some rb := fun rb k h => by
    rw [h2] at h
    obtain ⟨i, hi, h3⟩ := Option.bind_eq_some_iff.1 h
    rw [List.getD_eq_getElem?_getD, hi]; exact h3
  have hmem2 : ∀ (rb : RB) (i : Nat), Rs[i]? = some rb → ∃ k, R2[k]? = some rb ∧ ord.getD k 0 = i := fun rb i h => by
    have hi : i ∈ ord := hp.mem_iff.2 (List.mem_range.2 (List.getElem?_eq_some_iff.1 h).1)
    obtain ⟨k, hk⟩ := List.getElem?_of_mem hi
    exact ⟨k, by rw [h2, hk]; exact h, by rw [List.getD_eq_getElem?_getD, hk]; rfl⟩
  unfold KS KOf Kn.map
  congr 1
  · funext q
    exact propext ⟨fun ⟨a, ha, hq⟩ => by obtain ⟨k, hk, _⟩ := hmem2 _ _ (mem_KS.1 ha); exact ⟨(a.1, k), mem_KS.2 hk, hq⟩, fun ⟨a, ha, hq⟩ => ⟨(a.1, ord.getD a.2 0), mem_KS.2 (hmem1 _ _ (mem_KS.1 ha)), hq⟩⟩
  · funext q
    exact propext ⟨fun ⟨a, ha, hq⟩ => by obtain ⟨k, hk, _⟩ := hmem2 _ _ (mem_KS.1 ha); exact ⟨(a.1, k), mem_KS.2 hk, hq⟩, fun ⟨a, ha, hq⟩ => ⟨(a.1, ord.getD a.2 0), mem_KS.2 (hmem1 _ _ (mem_KS.1 ha)), hq⟩⟩
  · funext x q
    show lookO tkk mk' Rs.zipIdx.reverse x q = (lookO tkk mk' R2.zipIdx.reverse x q).map _
    cases h : lookO tkk mk' R2.zipIdx.reverse x q with
    | none =>
      refine lookO_none.2 fun a ha hh => ?_
      obtain ⟨k, hk, _⟩ := hmem2 _ _ (mem_KS.1 ha)
      exact lookO_none.1 h (a.1, k) (mem_KS.2 hk) hh
    | some b =>
      obtain ⟨g1, g2, g3⟩ := lookO_some h
      have g4 := hmem1 _ _ (mem_KS.1 g1)
      cases h' : lookO tkk mk' Rs.zipIdx.reverse x q with
      | none => exact absurd ⟨g2, g3⟩ (lookO_none.1 h' (b.1, ord.getD b.2 0) (mem_KS.2 g4))
      | some a =>
        obtain ⟨f1, f2, f3⟩ := lookO_some h'
        have f4 := mem_KS.1 f1
        have := apart_of hR hn f4 g4 (f2.trans g2.symm) (f3.trans g3.symm)
        rw [this, g4] at f4
        show some a = some (b.1, ord.getD b.2 0)
        have e1 : a.1 = b.1 := (Option.some.inj f4).symm
        rw [← e1, ← this]
end Bw

/- EchoAll, echoAllowed. Printed by wip/mk_j2.py. -/
namespace Go.Proofs
open Go Bw
set_option maxRecDepth 20000
theorem eqI_tt {P : Program} {c : Cx} {n : Nat} {op : Op} {ty : TypeId} {fr : SF} {H : SH} {i j : Int} (h : i = j) (hv : Val P c n op ty fr H (.bool (decide (i = j)))) : Val P c n op ty fr H (.bool true) := by rw [decide_eq_true h] at hv; exact hv
theorem alw_len (al : List UInt8) : (alw al).length ≤ al.length + 1 := by
  unfold alw
  split
  · simp
  · rw [srt_len]; exact spl_len al []


theorem f36_any (w : World) (p : List UInt8) (hp : p.length ≤ 90000) : Calls Tryd.prog 36 #[S p] w fun e w' => e = .returned (.bool (isAll p)) ∧ HF w (fun _ => False) [] w' := by
  refine enter (fun _ => False) [] Tryd.func36 rfl Tryd.ntmps36 rfl rfl (HF.start w _) fun c hc => ?_
  subst hc
  refine GC.seq ?_
  refine GC.reg ?_  -- region 0, echo.go:193
  refine G.v (V.asg rfl) rfl ?_
  refine G.nil ?_
  refine GC.seq ?_
  refine GC.reg ?_  -- region 1, echo.go:194
  refine G.v (V.mv rfl) rfl ?_
  refine G.callP Tryd.call21 rfl rfl (fun w1 hw1 => f21_any w1 p (by omega)) ?_
  refine G.callW (fun v H2 => ∃ ad1 cp1 v2, v = .tuple #[.slice ad1 (parts (ePath p)).length cp1, v2] ∧ Own 9 1 (.slice ad1 (parts (ePath p)).length cp1) (parts (ePath p)).length ((parts (ePath p)).map S) H2) Tryd.call39 rfl rfl (fun w1 hw1 => ?_) ?_
  · have hl := ePath_len p
    refine (f39_any w1 (ePath p) (by omega)).mono fun e w' ⟨v1, v2, H1, H2, h1, h2, h3, h4⟩ => ?_
    obtain ⟨ad1, cp1, rfl⟩ := h2.slice
    refine ⟨_, H1, h1, ?_, ad1, cp1, v2, rfl, h2⟩
    have := hw1.after0 h4 (fun e he => by
      rcases List.mem_append.1 he with he | he
      · exact h2.w e he
      · exact h3.w e he)
    exact this.sub (by simp)
  rintro v H2 ⟨ad1, cp1, v2, rfl, hown⟩
  refine G.v (V.mv rfl) rfl ?_
  refine G.v (V.ex rfl rfl) rfl ?_
  refine G.v (V.ex rfl rfl) rfl ?_
  refine G.v (V.asg rfl) rfl ?_
  refine G.v (V.asg rfl) rfl ?_
  refine G.nil ?_
  refine GC.seq ?_
  have hl := ePath_len p
  have hpl := parts_len (ePath p)
  refine GC.reg ?_  -- region 2, echo.go:195
  refine G.v (V.mv rfl) rfl ?_
  refine G.v (V.lenL Tryd.underlying24 rfl) rfl ?_
  refine G.v (V.gt rfl rfl) rfl ?_
  refine G.v (V.mv rfl) rfl ?_
  refine G.bc 14 rfl (fun h14 => ?_) (fun h14 => ?_)
  · refine G.vg rfl rfl (V.mv rfl) rfl ?_
    refine G.vg rfl rfl (V.mv rfl) rfl ?_
    refine G.vg rfl rfl (V.lenL Tryd.underlying24 rfl) rfl ?_
    have hpos : 0 < (parts (ePath p)).length := by have := of_decide_eq_true h14; omega
    obtain ⟨bl, cl, sl, e1, rfl⟩ := hown.at (i := (parts (ePath p)).length - 1) (by omega)
    obtain ⟨rfl, rfl⟩ : ad1 = some ⟨bl, 0, none⟩ ∧ cp1 = cl := by simpa using e1
    obtain ⟨x, hx⟩ : ∃ x, (parts (ePath p))[(parts (ePath p)).length - 1]? = some x := ⟨_, List.getElem?_eq_getElem (by omega)⟩
    have hlast : (parts (ePath p)).getLast? = some x := by rw [List.getLast?_eq_getElem?]; exact hx
    refine G.vg rfl rfl (V.subI (r := (((parts (ePath p)).length - 1 : Nat) : Int)) rfl rfl (by omega) (by omega) (by omega)) rfl ?_
    refine G.vg rfl rfl (V.ia (i := (parts (ePath p)).length - 1) Tryd.underlying24 Tryd.sizeOf9 rfl rfl (by omega)) rfl ?_
    refine G.vg rfl rfl (V.ld (b := bl) (off := 0 + ((parts (ePath p)).length - 1) * 1) (wf := true) (l := (parts (ePath p)).map S ++ sl) (T := 9) (fz := (0, 0)) (v := S x) Tryd.isAgg9 rfl (.head _) (by rw [nth_eq, List.getElem?_append_left (by rw [List.length_map]; omega), List.getElem?_map, Nat.mul_one, Nat.zero_add, hx]; rfl)) rfl ?_
    refine G.vg rfl rfl (V.eqS rfl rfl) rfl ?_
    refine G.v (V.pickT rfl rfl) rfl ?_
    refine G.v (V.asg rfl) rfl ?_
    refine G.nil ?_
    have hr : isAll p = decide (x = [42]) := by unfold isAll; rw [hlast]; simp
    exact GC.ret1 rfl rfl fun w' hw' => ⟨by rw [hr], hw'.sub (List.nil_sublist _)⟩
  · refine G.sg rfl rfl rfl rfl rfl rfl ?_
    refine G.sg rfl rfl rfl rfl rfl rfl ?_
    refine G.sg rfl rfl rfl rfl rfl rfl ?_
    refine G.sg rfl rfl rfl rfl rfl rfl ?_
    refine G.sg rfl rfl rfl rfl rfl rfl ?_
    refine G.sg rfl rfl rfl rfl rfl rfl ?_
    refine G.sg rfl rfl rfl rfl rfl rfl ?_
    refine G.v (V.pickF rfl rfl) rfl ?_
    refine G.v (V.asg rfl) rfl ?_
    refine G.nil ?_
    have hr : isAll p = false := by
      have h0 : (parts (ePath p)) = [] := List.length_eq_zero_iff.1 (by have := of_decide_eq_false h14; omega)
      unfold isAll; rw [h0]; rfl
    exact GC.ret1 rfl rfl fun w' hw' => ⟨by rw [hr], hw'.sub (List.nil_sublist _)⟩

theorem f37_any (w : World) (n1 n2 : Int) (p1 p2 al1 al2 : List UInt8) (ad1 ad2 ad3 ad4 : Option Addr) (l1 l2 l3 l4 c1 c2 c3 c4 : Nat) (h1 : al1.length ≤ 1000000) (h2 : al2.length ≤ 1000000) :
    Calls Tryd.prog 37 #[.agg #[I n1, S p1, .slice ad1 l1 c1, .slice ad2 l2 c2, S al1], .agg #[I n2, S p2, .slice ad3 l3 c3, .slice ad4 l4 c4, S al2]] w fun e w' => e = .returned (.bool (decide (alw al1 = alw al2))) ∧ HF w (fun _ => False) [] w' := by
  refine enter (fun _ => False) [] Tryd.func37 rfl Tryd.ntmps37 rfl rfl (HF.start w _) fun c hc => ?_
  subst hc
  refine GC.seq ?_
  refine GC.reg ?_  -- region 0, echo.go:220
  refine G.bx (l := [I n1, S p1, .slice ad1 l1 c1, .slice ad2 l2 c2, S al1]) rfl rfl rfl (fun b2 hb2 => ?_)
  refine G.bx (l := [I n2, S p2, .slice ad3 l3 c3, .slice ad4 l4 c4, S al2]) rfl rfl rfl (fun b3 hb3 => ?_)
  refine G.v (V.asg rfl) rfl ?_
  refine G.nil ?_
  refine GC.seq ?_
  have hSb : ∀ (H : SH) w1, HF w (fun _ => False) H w1 → (⟨b2, true, .row [I n1, S p1, .slice ad1 l1 c1, .slice ad2 l2 c2, S al1] 33 (0, 0)⟩ : Ent) ∈ H → (⟨b3, true, .row [I n2, S p2, .slice ad3 l3 c3, .slice ad4 l4 c4, S al2] 33 (0, 0)⟩ : Ent) ∈ H → w1.cell? ⟨b2, 4, none⟩ = some (S al1) ∧ w1.cell? ⟨b3, 4, none⟩ = some (S al2) := fun H w1 hw m1 m2 => ⟨cell_row hw m1 rfl, cell_row hw m2 rfl⟩
  refine GC.turn (H' := [⟨b3, true, .row [I n2, S p2, .slice ad3 l3 c3, .slice ad4 l4 c4, S al2] 33 (0, 0)⟩, ⟨b2, true, .row [I n1, S p1, .slice ad1 l1 c1, .slice ad2 l2 c2, S al1] 33 (0, 0)⟩]) (fun w1 hw1 => hw1) ?_
  refine GC.regA (fun w1 => w1.cell? ⟨b2, 4, none⟩ = some (S al1) ∧ w1.cell? ⟨b3, 4, none⟩ = some (S al2)) mixed ?_
  refine GA.p 0 rfl (by kernel_rfl) (fun w1 hw1 => hSb _ w1 hw1 (by simp) (by simp)) (fun _ => V.fa F33_4 rfl) rfl ?_
  refine GA.ld 1 rfl (by kernel_rfl) (fun w1 hw1 => hSb _ w1 hw1 (by simp) (by simp)) Tryd.isAgg9 rfl (fun w1 h => h.1) rfl ?_
  refine GA.p 3 rfl (by kernel_rfl) (fun w1 hw1 => hSb _ w1 hw1 (by simp) (by simp)) (fun _ => V.fa F33_4 rfl) rfl ?_
  refine GA.ld 4 rfl (by kernel_rfl) (fun w1 hw1 => hSb _ w1 hw1 (by simp) (by simp)) Tryd.isAgg9 rfl (fun w1 h => h.2) rfl ?_
  refine GA.one 2 rfl (by kernel_rfl) ?_
  refine GB.callW (xs := [.tmp 6]) (vs := [S al1]) (fun v H2 => ∃ HX, Own 9 1 v (alw al1).length ((alw al1).map S) HX ∧ H2 = HX ++ ([⟨b3, true, .row [I n2, S p2, .slice ad3 l3 c3, .slice ad4 l4 c4, S al2] 33 (0, 0)⟩, ⟨b2, true, .row [I n1, S p1, .slice ad1 l1 c1, .slice ad2 l2 c2, S al1] 33 (0, 0)⟩])) Tryd.call35 rfl rfl (fun v H2 ⟨_, _, h2⟩ w1 hw1 => hSb _ w1 hw1 (by rw [h2]; simp) (by rw [h2]; simp)) (fun w1 hw1 => ?_) ?_
  · exact (f35_any w1 al1 (by omega)).mono fun e w' ⟨v, Ha, g1, g2, g3⟩ => ⟨_, _, g1, hw1.after0 g3 g2.w, Ha, g2, rfl⟩
  rintro vX H2 ⟨HX, hownX, rfl⟩
  obtain ⟨adX, cpX, rfl⟩ := hownX.slice
  refine GA.one 5 rfl (by kernel_rfl) ?_
  refine GB.callW (xs := [.tmp 9]) (vs := [S al2]) (fun v H2 => ∃ HY, Own 9 1 v (alw al2).length ((alw al2).map S) HY ∧ H2 = HY ++ (HX ++ [⟨b3, true, .row [I n2, S p2, .slice ad3 l3 c3, .slice ad4 l4 c4, S al2] 33 (0, 0)⟩, ⟨b2, true, .row [I n1, S p1, .slice ad1 l1 c1, .slice ad2 l2 c2, S al1] 33 (0, 0)⟩])) Tryd.call35 rfl rfl (fun v H2 ⟨_, _, h2⟩ w1 hw1 => hSb _ w1 hw1 (by rw [h2]; simp) (by rw [h2]; simp)) (fun w1 hw1 => ?_) ?_
  · exact (f35_any w1 al2 (by omega)).mono fun e w' ⟨v, Ha, g1, g2, g3⟩ => ⟨_, _, g1, hw1.after0 g3 g2.w, Ha, g2, rfl⟩
  rintro vY H2 ⟨HY, hownY, rfl⟩
  obtain ⟨adY, cpY, rfl⟩ := hownY.slice
  refine GA.one 6 rfl (by kernel_rfl) ?_
  refine GB.callW (xs := [.tmp 7, .tmp 10]) (vs := [.slice adX (alw al1).length cpX, .slice adY (alw al2).length cpY]) (fun v H2 => v = .bool (decide (alw al1 = alw al2)) ∧ H2 = HY ++ (HX ++ [⟨b3, true, .row [I n2, S p2, .slice ad3 l3 c3, .slice ad4 l4 c4, S al2] 33 (0, 0)⟩, ⟨b2, true, .row [I n1, S p1, .slice ad1 l1 c1, .slice ad2 l2 c2, S al1] 33 (0, 0)⟩])) Tryd.call22 rfl rfl (fun v H2 ⟨_, h2⟩ w1 hw1 => hSb _ w1 hw1 (by rw [h2]; simp) (by rw [h2]; simp)) (fun w1 hw1 => ?_) ?_
  · exact (f22_any w1 adX adY cpX cpY (alw al1) (alw al2) (hownX.tx fun e he => hw1.has e (by simp [he])) (hownY.tx fun e he => hw1.has e (by simp [he])) (by have := alw_len al1; omega) (by have := alw_len al2; omega)).mono fun e w' ⟨h1, h2⟩ => ⟨_, _, h1, hw1.after0 h2 (fun e he => by cases he), rfl, rfl⟩
  rintro v H2 ⟨rfl, rfl⟩
  refine GA.p 7 rfl (by kernel_rfl) (fun w1 hw1 => hSb _ w1 hw1 (by simp) (by simp)) (fun _ => V.asg rfl) rfl ?_
  refine GA.done (by kernel_rfl) ?_
  exact GC.ret1 rfl rfl fun w' hw' => ⟨rfl, hw'.sub (List.nil_sublist _)⟩
end Go.Proofs
