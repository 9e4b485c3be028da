/- Lemmas of the walk and plain facts (GtP7 .. GuK5). -/
import Derived.Test.YtdjnbehdiohggaaDoorP10
import Derived.Test.YtdjnbehdiohggaaDoorP09
import Derived.Test.YtdjnbehdiohggaaDoorP01
import Derived.Tactics2
import Derived.Defers
import Derived.Recover
import Derived.Laws.Pointers
import Derived.WalkKit
import Derived.ProofKit
import Derived.Test.YtdjnbehdiohggaaDoorP06
import Derived.Laws.CopyRow
import Derived.Laws.MakeOwn
/- Routes added one behind the other. No program in sight. -/
namespace Gt
open Gs Tr
/-- a route's tokens, from its slash on -/
def Good (r : List Tok) : Prop := Ok false r ∧ ∃ q, r = .b 47 :: q
/-- what routes mean, their numbers from k + 1 on -/
def fAdd (f : F) (k : Nat) : List (List Tok) → F
  | [] => f
  | r :: rs => fAdd (upd f r (k + 1, txt r)) (k + 1) rs
/-- a tree and what it stands for; the empty one -/
def TS (t : T0) (f : F) : Prop := (t = new ∧ f = fun _ => none) ∨ (Rep true t f ∧ t.nt = 1 ∧ ∀ s v, f s = some v → ∃ r, s = .b 47 :: r)
theorem Rep.nt1 {b path idx wild nt pr h full kids f} (x : Rep b (.node () path idx wild nt pr h full kids) f) (hn : nt = 0 ∨ nt = 1) : Rep b (.node () path idx wild 1 pr h full kids) f := by
  have y := x.toSt hn
  exact (St.mk y.hp (.inr rfl) y.hpre y.hh y.hnd y.hpl y.hlen y.hk y.hkn y.hne y.hno y.hw y.hnw y.hA y.hmin : St b path idx wild 1 h full kids f).rep
theorem add_ok {t : T0} {f : F} (hts : TS t f) {r : List Tok} (hr : Good r) (h : Nat) : (Ap f r → ∃ t', addT t (txt r) h = some (some t') ∧ TS t' (upd f r (h, txt r))) ∧ (¬ Ap f r → addT t (txt r) h = some none) := by
  obtain ⟨hok, q, rfl⟩ := hr
  rcases hts with ⟨rfl, rfl⟩ | ⟨hrep, hn1, hhd⟩
  · refine ⟨fun _ => ?_, fun hn => absurd (fun s v hs => by cases hs) hn⟩
    obtain ⟨t', i1, i2, i3, i4⟩ := ins_fresh ((txt (.b 47 :: q)).length + 1) false (.b 47 :: q) 0 1 h [47] (txt (.b 47 :: q)) (by omega) hok ⟨47, q, rfl⟩ (.inl rfl)
    have e : addT new (txt (.b 47 :: q)) h = some (some (.node () t'.path t'.idx t'.wild 1 t'.pr t'.h t'.full t'.kids)) := by
      unfold addT
      have e2 : (new : T0).incr = .node () [] [] false 0 1 none [47] [] := rfl
      simp only [e2, n_path, n_kids, and_self, if_true, i1, Option.map_some]
    refine ⟨_, e, .inr ⟨?_, rfl, fun s v hs => ?_⟩⟩
    · cases t' with
      | node a p i w n q2 h2 f2 k2 =>
        exact Rep.nt1 i2 (by simp only [n_nt] at i3; omega)
    · rcases upd_some hs with rfl | hs
      · exact ⟨q, rfl⟩
      · cases hs
  · have hnot : ¬ (t.incr.path = [] ∧ t.incr.kids = []) := by
      rintro ⟨h1, h2⟩
      rw [incr_path] at h1
      rw [incr_kids] at h2
      cases hrep with
      | pa => cases hn1
      | pk => cases hn1
      | ca => cases hn1
      | st wn wk hp hnt hpre hh hnd hpl hlen hk hkn hne hno hw hwr hnw hA hmin =>
        obtain ⟨k, _, e, _⟩ := (St.mk hp hnt hpre hh hnd hpl hlen hk hkn hne hno (fun e => ⟨wn, wk, (hw e).1, (hw e).2.1, (hw e).2.2.1, (hw e).2.2.2.1, (hw e).2.2.2.2.1, (hw e).2.2.2.2.2, hwr e⟩) hnw hA hmin : St true _ _ _ _ _ _ _ f).head hhd h1
        simp only [n_kids] at h2
        rw [h2] at e; cases e
    obtain ⟨r, h1, h2⟩ := (walk_ok (4 * (txt (.b 47 :: q)).length + 8)).1 t.incr f false 47 q (txt (.b 47 :: q)) 0 h hrep.incr (by rw [incr_nt, hn1]; decide) hok hhd (.inr (by omega)) (by omega)
    have e : addT t (txt (.b 47 :: q)) h = some r := by
      unfold addT
      simp only [hnot, if_false, h1]
    constructor
    · intro ha
      cases r with
      | none => exact absurd ha h2
      | some t' =>
        obtain ⟨_, o2, o3⟩ := h2
        refine ⟨t', e, .inr ⟨o2, by rw [o3, incr_nt, hn1], fun s v hs => ?_⟩⟩
        rcases upd_some hs with rfl | hs
        · exact ⟨q, rfl⟩
        · exact hhd s v hs
    · intro hn
      cases r with
      | none => exact e
      | some t' => exact absurd h2.1 hn
theorem fAdd_some : ∀ {rs : List (List Tok)} {f : F} {k : Nat} {s v}, fAdd f k rs s = some v → s ∈ rs ∨ f s = some v
  | [], f, k, s, v, h => .inr h
  | r :: rs, f, k, s, v, h => by
    rcases fAdd_some (rs := rs) h with h | h
    · exact .inl (.tail _ h)
    · rcases upd_some h with rfl | h
      · exact .inl (.head _)
      · exact .inr h
theorem addAll_ok : ∀ (rs : List (List Tok)) (t : T0) (f : F) (k : Nat), TS t f → (∀ r ∈ rs, Good r) → (∀ r ∈ rs, Ap f r) → rs.Pairwise (fun a b => apart a b = true) → ∃ t', addAll t (rs.map txt) k = .inl t' ∧ TS t' (fAdd f k rs)
  | [], t, f, k, h, _, _, _ => ⟨t, rfl, h⟩
  | r :: rs, t, f, k, h, hg, ha, hp => by
    obtain ⟨t', h1, h2⟩ := (add_ok h (hg r (.head _)) (k + 1)).1 (ha r (.head _))
    obtain ⟨hp1, hp2⟩ := List.pairwise_cons.1 hp
    obtain ⟨t2, h3, h4⟩ := addAll_ok rs t' _ (k + 1) h2 (fun x hx => hg x (.tail _ hx)) (fun x hx s v hs => by
      rcases upd_some hs with rfl | hs
      · rw [apart_comm]; exact hp1 x hx
      · exact ha x (.tail _ hx) s v hs) hp2
    exact ⟨t2, by simp only [List.map_cons, addAll, h1]; exact h3, h4⟩
/-! ### what a node's strings are made of -/
def Cln (l : List UInt8) : Prop := l.length ≤ 20000 ∧ ∀ c ∈ l, c ≠ 92
theorem Cln.nil : Cln [] := ⟨by simp, by simp⟩
theorem Cln.take {l} (h : Cln l) (n : Nat) : Cln (l.take n) := ⟨by have := h.1; simp; omega, fun c hc => h.2 c (List.mem_of_mem_take hc)⟩
theorem Cln.drop {l} (h : Cln l) (n : Nat) : Cln (l.drop n) := ⟨by have := h.1; simp; omega, fun c hc => h.2 c (List.mem_of_mem_drop hc)⟩
inductive NB : T0 → Prop
  | mk {path idx : List UInt8} {wild : Bool} {nt pr : Nat} {h : Option Nat} {full : List UInt8} {kids : List T0} (hp : Cln path) (hi : ∀ c ∈ idx, c ≠ 92) (hf : Cln full) (hk : ∀ k ∈ kids, NB k) : NB (.node () path idx wild nt pr h full kids)
theorem NB.incr {t} (x : NB t) : NB t.incr := by cases x with | mk a b c d => exact .mk a b c d
theorem mem_addKid {w : Bool} {kids : List T0} {k x : T0} (h : x ∈ addKid w kids k) : x = k ∨ x ∈ kids := by
  unfold addKid at h
  split at h
  · rcases List.mem_append.1 h with h | h
    · rcases List.mem_append.1 h with h | h
      · exact .inr ((List.dropLast_sublist _).subset h)
      · exact .inl (List.mem_singleton.1 h)
    · right
      rcases List.eq_nil_or_concat kids with e | ⟨p, y, e⟩
      · subst e; simp at h
      · rw [List.concat_eq_append] at e
        subst e; simp at h; simp [h]
  · rcases List.mem_append.1 h with h | h
    · exact .inr h
    · exact .inl (List.mem_singleton.1 h)
theorem fw_mem : ∀ {p : List UInt8} {i : Nat} {wc : List UInt8} {j : Nat}, fw p i = some (wc, j) → ∀ c ∈ wc, c ∈ p
  | [], _, _, _, h => by cases h
  | a :: p, i, wc, j, h => by
    unfold fw at h
    split at h
    · cases h
      intro c hc
      rcases List.mem_cons.1 hc with rfl | hc
      · exact .head _
      · exact .tail _ ((List.takeWhile_sublist _).subset hc)
    · intro c hc
      exact .tail _ (fw_mem h c hc)
theorem fw_len : ∀ {p : List UInt8} {i : Nat} {wc : List UInt8} {j : Nat}, fw p i = some (wc, j) → wc.length ≤ p.length
  | [], _, _, _, h => by cases h
  | a :: p, i, wc, j, h => by
    unfold fw at h
    split at h
    · cases h
      have := (List.takeWhile_sublist (· ≠ (47 : UInt8)) (l := p)).length_le
      rw [List.length_cons, List.length_cons]; omega
    · have := fw_len h
      simp; omega
theorem NB.ins : ∀ (g : Nat) (t : T0) (p full : List UInt8) (h : Nat) (t' : T0), NB t → Cln p → Cln full → insT g t p full h = some (some t') → NB t'
  | 0, _, _, _, _, _, _, _, _, h => by cases h
  | g + 1, .node () tp idx w nt pr h0 f0 kids, p, full, h, t', hn, hp, hf, hi => by
    cases hn with
    | mk a b c d =>
    unfold insT at hi
    cases hfw : fw p 0 with
    | none =>
      simp only [hfw] at hi
      cases hi
      exact .mk hp b hf d
    | some x =>
      obtain ⟨wc, i⟩ := x
      have hwc : Cln wc := ⟨Nat.le_trans (fw_len hfw) hp.1, fun c hc => hp.2 c (fw_mem hfw c hc)⟩
      simp only [hfw] at hi
      have hcut : Cln (if 0 < i then p.take i else tp) := by
        split
        · exact hp.take _
        · exact a
      split at hi
      · cases hi
      · split at hi
        · split at hi
          · obtain ⟨r, h1, h2⟩ := Option.map_eq_some_iff.1 hi
            cases r with
            | none => cases h2
            | some c2 =>
              cases h2
              have hc2 := NB.ins g _ _ full h c2 (.mk .nil (by simp) hf (by simp)) ((hp.drop _).drop _) hf h1
              refine .mk hcut b c fun k hk => ?_
              rcases mem_addKid hk with rfl | hk
              · exact .mk hwc (by simp) hf (fun k hk => by rw [List.mem_singleton.1 hk]; exact hc2)
              · exact d k hk
          · cases hi
            refine .mk hcut b c fun k hk => ?_
            rcases mem_addKid hk with rfl | hk
            · exact .mk hwc (by simp) hf (by simp)
            · exact d k hk
        · split at hi
          · cases hi
          · split at hi
            · cases hi
            · split at hi
              · cases hi
              · cases hi
                refine .mk (hp.take _) (by decide) c fun k hk => ?_
                rcases mem_addKid hk with rfl | hk
                · refine .mk .nil (by simp) hf fun k hk => ?_
                  rw [List.mem_singleton.1 hk]
                  exact .mk (hp.drop _) (by simp) hf (by simp)
                · exact d k hk
theorem mem_moveTo {β : Type} {l : List β} {pos np : Nat} {x : β} (hnp : np ≤ pos) (h : x ∈ moveTo l pos np) : x ∈ l := (moveTo_perm l hnp).mem_iff.1 h
theorem mem_modify {l : List T0} {j : Nat} {x : T0} (h : x ∈ l.modify j incr) : x ∈ l ∨ ∃ y ∈ l, x = y.incr := by
  obtain ⟨i, hi⟩ := List.getElem?_of_mem h
  rw [List.getElem?_modify] at hi
  obtain ⟨y, h1, h2⟩ := Option.map_eq_some_iff.1 hi
  split at h2
  · exact .inr ⟨y, List.mem_of_getElem? h1, h2.symm⟩
  · exact .inl (by rw [← h2]; exact List.mem_of_getElem? h1)
theorem NB.kidsB {idx : List UInt8} {kids : List T0} {j : Nat} (hk : ∀ k ∈ kids, NB k) : ∀ k ∈ (bump idx kids j).2.1, NB k := fun k h => by
  rcases mem_modify (mem_moveTo (newPos_le _ _ _) h) with h2 | ⟨y, h2, rfl⟩
  · exact hk k h2
  · exact (hk y h2).incr
theorem NB.idxB {idx : List UInt8} {kids : List T0} {j : Nat} (hi : ∀ c ∈ idx, c ≠ 92) : ∀ c ∈ (bump idx kids j).1, c ≠ 92 := fun c h => by
  unfold bump at h
  dsimp only at h
  split at h
  · exact hi c (mem_moveTo (newPos_le _ _ _) h)
  · exact hi c h
theorem mem_set {l : List T0} {i : Nat} {y x : T0} (h : x ∈ l.set i y) : x = y ∨ x ∈ l := by
  rcases List.mem_or_eq_of_mem_set h with h | h
  · exact .inr h
  · exact .inl h
theorem NB.split {path idx : List UInt8} {wild : Bool} {nt pr : Nat} {h : Option Nat} {full : List UInt8} {kids : List T0} (x : NB (.node () path idx wild nt pr h full kids)) (i : Nat) {f2 : List UInt8} (hf : Cln f2) : NB (Gt.split (.node () path idx wild nt pr h full kids) () i f2) := by
  cases x with
  | mk a b c d =>
    refine .mk (a.take _) (fun c hc => a.2 c (List.mem_of_mem_drop (List.mem_of_mem_take hc))) hf fun k hk => ?_
    rw [List.mem_singleton.1 hk]
    exact .mk (a.drop _) b c d
/-- stepT at a node's parts -/
def stepN (rec : T0 → List UInt8 → Nat → Option (Option T0)) (path idx : List UInt8) (wild : Bool) (nt pr : Nat) (h0 : Option Nat) (f0 : List UInt8) (kids : List T0) (full : List UInt8) (pfi h : Nat) : List UInt8 → Option (Option T0)
  | [] => if h0.isSome then some none else some (some (.node () path idx wild nt pr (some h) full kids))
  | c :: rest =>
    if nt = 2 ∧ c = 47 ∧ kids.length = 1 then
      match kids with
      | [k] => (rec k.incr (c :: rest) (pfi + path.length)).map fun r => r.map fun k' => .node () path idx wild nt pr h0 f0 [k']
      | _ => none
    else match idxOf c idx with
    | some j =>
      match (bump idx kids j).2.1[(bump idx kids j).2.2]? with
      | some k => (rec k (c :: rest) (pfi + path.length)).map fun r => r.map fun k' => .node () path (bump idx kids j).1 wild nt pr h0 f0 ((bump idx kids j).2.1.set (bump idx kids j).2.2 k')
      | none => none
    | none =>
      if c ≠ 58 ∧ c ≠ 42 ∧ nt ≠ 3 then
        match (bump (idx ++ [c]) (addKid wild kids (.node () [] [] false 0 0 none full [])) ((idx ++ [c]).length - 1)).2.1[(bump (idx ++ [c]) (addKid wild kids (.node () [] [] false 0 0 none full [])) ((idx ++ [c]).length - 1)).2.2]? with
        | some k => (insT ((c :: rest).length + 1) k (c :: rest) full h).map fun r => r.map fun k' => .node () path (bump (idx ++ [c]) (addKid wild kids (.node () [] [] false 0 0 none full [])) ((idx ++ [c]).length - 1)).1 wild nt pr h0 f0 ((bump (idx ++ [c]) (addKid wild kids (.node () [] [] false 0 0 none full [])) ((idx ++ [c]).length - 1)).2.1.set (bump (idx ++ [c]) (addKid wild kids (.node () [] [] false 0 0 none full [])) ((idx ++ [c]).length - 1)).2.2 k')
        | none => none
      else if wild then
        match kids.getLast? with
        | some k0 =>
          if k0.incr.path.length ≤ (c :: rest).length ∧ (c :: rest).take k0.incr.path.length = k0.incr.path ∧ k0.incr.nt ≠ 3 ∧ ((c :: rest).length ≤ k0.incr.path.length ∨ (c :: rest)[k0.incr.path.length]? = some 47) then
            (rec k0.incr (c :: rest) pfi).map fun r => r.map fun k' => .node () path idx wild nt pr h0 f0 (kids.dropLast ++ [k'])
          else some none
        | none => none
      else insT ((c :: rest).length + 1) (.node () path idx wild nt pr h0 f0 kids) (c :: rest) full h
theorem stepT_node (rec : T0 → List UInt8 → Nat → Option (Option T0)) (path idx : List UInt8) (wild : Bool) (nt pr : Nat) (h0 : Option Nat) (f0 : List UInt8) (kids : List T0) (full : List UInt8) (pfi h : Nat) (p : List UInt8) : stepT rec (.node () path idx wild nt pr h0 f0 kids) full pfi h p = stepN rec path idx wild nt pr h0 f0 kids full pfi h p := by
  cases p <;> rfl
theorem NB.step {rec : T0 → List UInt8 → Nat → Option (Option T0)} {t t' : T0} {full p : List UInt8} {pfi h : Nat} (hrec : ∀ k q k', NB k → rec k p q = some (some k') → NB k') (x : NB t) (hp : Cln p) (hf : Cln full) (hs : stepT rec t full pfi h p = some (some t')) : NB t' := by
  cases x with
  | @mk path idx wild nt pr h0 full0 kids a b c d =>
  rw [stepT_node] at hs
  cases p with
  | nil =>
    simp only [stepN] at hs
    split at hs
    · cases hs
    · cases hs; exact .mk a b hf d
  | cons e q =>
    simp only [stepN] at hs
    split at hs
    · split at hs
      · rename_i k hk
        obtain ⟨r, h1, h2⟩ := Option.map_eq_some_iff.1 hs
        cases r with
        | none => cases h2
        | some k' =>
          cases h2
          refine .mk a b c fun x hx => ?_
          rw [List.mem_singleton.1 hx]
          exact hrec _ _ _ (d k (.head _)).incr h1
      · cases hs
    · split at hs
      · split at hs
        · rename_i k hk
          obtain ⟨r, h1, h2⟩ := Option.map_eq_some_iff.1 hs
          cases r with
          | none => cases h2
          | some k' =>
            cases h2
            refine .mk a (NB.idxB b) c fun x hx => ?_
            rcases mem_set hx with rfl | hx
            · exact hrec _ _ _ (NB.kidsB d k (List.mem_of_getElem? hk)) h1
            · exact NB.kidsB d x hx
        · cases hs
      · have d2 : ∀ k ∈ addKid wild kids (.node () [] [] false 0 0 none full []), NB k := fun k hk => by
          rcases mem_addKid hk with rfl | hk
          · exact .mk .nil (by simp) hf (by simp)
          · exact d k hk
        have b2 : ∀ c ∈ idx ++ [e], c ≠ 92 := fun c hc => by
          rcases List.mem_append.1 hc with hc | hc
          · exact b c hc
          · rw [List.mem_singleton.1 hc]; exact hp.2 e (.head _)
        split at hs
        · split at hs
          · rename_i k hk
            obtain ⟨r, h1, h2⟩ := Option.map_eq_some_iff.1 hs
            cases r with
            | none => cases h2
            | some k' =>
              cases h2
              refine .mk a (NB.idxB b2) c fun x hx => ?_
              rcases mem_set hx with rfl | hx
              · exact NB.ins _ _ _ _ _ _ (NB.kidsB d2 k (List.mem_of_getElem? hk)) hp hf h1
              · exact NB.kidsB d2 x hx
          · cases hs
        · split at hs
          · split at hs
            · rename_i k0 hk0
              split at hs
              · obtain ⟨r, h1, h2⟩ := Option.map_eq_some_iff.1 hs
                cases r with
                | none => cases h2
                | some k' =>
                  cases h2
                  refine .mk a b c fun x hx => ?_
                  rcases List.mem_append.1 hx with hx | hx
                  · exact d x ((List.dropLast_sublist _).subset hx)
                  · rw [List.mem_singleton.1 hx]
                    exact hrec _ _ _ (d k0 (List.mem_of_getLast? hk0)).incr h1
              · cases hs
            · cases hs
          · exact NB.ins _ _ _ _ _ _ (.mk a b c d) hp hf hs
theorem NB.walk : ∀ (g : Nat) (t : T0) (p full : List UInt8) (pfi h : Nat) (t' : T0), NB t → Cln p → Cln full → walkT g t p full pfi h = some (some t') → NB t'
  | 0, _, _, _, _, _, _, _, _, _, h => by cases h
  | g + 1, t, p, full, pfi, h, t', hn, hp, hf, hw => by
    rw [walkT_step] at hw
    refine NB.step (fun k q k' hk hr => NB.walk g k _ full q h k' hk (hp.drop _) hf hr) ?_ (hp.drop _) hf hw
    split
    · cases t with
      | node a => exact NB.split hn _ (hf.take _)
    · exact hn
theorem NB.add {t t' : T0} {p : List UInt8} {h : Nat} (hn : NB t) (hp : Cln p) (ha : addT t p h = some (some t')) : NB t' := by
  unfold addT at ha
  dsimp only at ha
  split at ha
  · obtain ⟨r, h1, h2⟩ := Option.map_eq_some_iff.1 ha
    cases r with
    | none => cases h2
    | some t2 =>
      cases h2
      have := NB.ins _ _ _ _ _ _ hn.incr hp hp h1
      cases this with
      | mk a b c d => exact .mk a b c d
  · exact NB.walk _ _ _ _ _ _ _ hn.incr hp hp ha
theorem NB.new : NB new := .mk .nil (by simp) ⟨by simp, by decide⟩ (by simp)
theorem NB.all : ∀ (rs : List (List UInt8)) (t : T0) (k : Nat) (t' : T0), NB t → (∀ r ∈ rs, Cln r) → addAll t rs k = .inl t' → NB t'
  | [], t, k, t', h, _, e => by cases e; exact h
  | r :: rs, t, k, t', h, hr, e => by
    unfold addAll at e
    split at e
    · rename_i t2 h2
      exact NB.all rs t2 (k + 1) t' (h.add (hr r (.head _)) h2) (fun x hx => hr x (.tail _ hx)) e
    · cases e
end Gt

/- addRoute does what walkT says. -/
set_option maxRecDepth 20000
namespace Go.Proofs
open Go Bw Gt
/-- a way down that goes on as it should -/
def GoW (R : Ending → World → Prop) (w : World) (D : Nat → Prop) (hb num : Nat) (full : List UInt8) (k : T0) (p : List UInt8) (pfi : Nat) (r : Option T0) : Prop :=
 ∀ (cb : Nat) (Hk1 Hr' : SH) (fr' : SF), HT k cb Hk1 → Sub [(0, Pt cb 0), (1, S p), (2, .slice (some ⟨hb, 0, none⟩) 1 1), (6, S full), (7, I (pfi : Int))] fr' →
  (∀ t', r = some t' → ∀ Hn' w', HT t' cb Hn' → HF w D (Hn' ++ Hr') w' → R (.returned (.tuple #[])) w') → (r = none → ∀ e w', onePanic e → HF w D [] w' → R e w') →
  GC Tryd.prog ⟨56, Tryd.f56, R, w, D⟩ 377 K72 fr' (Hk1 ++ (⟨hb, true, .row [I (num : Int)] 3 (0, 0)⟩ :: Hr'))
theorem f72_step {R : Ending → World → Prop} {w : World} {D : Nat → Prop} {nb hb num pfi i : Nat} {p full tp idx : List UInt8} {wl : Bool} {nt pr : Nat} {h0 : Option Nat} {f0 : List UInt8} {kids : List T0} {bs : List Nat} {kv hv : Value} {Hs Hh Hk Hr : SH} {fr : SF} {rec : T0 → List UInt8 → Nat → Option (Option T0)} {res : Option T0}
  (hs : Own 83 1 kv kids.length (bs.map (Pt · 0)) Hs) (hh : HV h0 hv Hh) (hk : HTs kids bs Hk) (hpl : p.length ≤ 100000) (hfl : full.length ≤ 100000) (hpf : pfi + p.length ≤ full.length) (hip : i ≤ p.length) (hti : tp.length = i)
  (hsub : Sub [(0, Pt nb 0), (1, S p), (2, .slice (some ⟨hb, 0, none⟩) 1 1), (6, S full), (7, I (pfi : Int)), (8, I (i : Nat))] fr) (hsuf : p <:+ full)
  (F1 : kids.length ≤ 90000) (F2 : (∃ k, nt = 2 ∧ kids = [k] ∧ ∀ c, p[i]? = some c → c = 47) ∨ kids.length = idx.length + wl.toNat) (F3 : ∀ k ∈ kids, k.path.length ≤ 100000) (F4 : tp.length ≤ 100000)
  {s' : List Tok} {sl : Bool} (hok : Ok sl s') (hp' : p.drop i = txt s') (h92 : ∀ c ∈ txt s', c ≠ 92) (hst : stepN rec tp idx wl nt pr h0 f0 kids full pfi num (p.drop i) = some res)
  (hpar : ∀ k r, kids = [k] → nt = 2 → p[i]? = some 47 → rec k.incr (p.drop i) (pfi + tp.length) = some r → GoW R w D hb num full k.incr (p.drop i) (pfi + tp.length) r)
  (hidx : ∀ j c k r, p[i]? = some c → ¬ (nt = 2 ∧ c = 47 ∧ kids.length = 1) → idxOf c idx = some j → (bump idx kids j).2.1[(bump idx kids j).2.2]? = some k → rec k (p.drop i) (pfi + tp.length) = some r → GoW R w D hb num full k (p.drop i) (pfi + tp.length) r)
  (hwild : ∀ k0 r, wl = true → kids.getLast? = some k0 → k0.nt ≠ 3 → (p.drop i).take k0.path.length = k0.path → ((p.drop i).length ≤ k0.path.length ∨ (p.drop i)[k0.path.length]? = some 47) → rec k0.incr (p.drop i) pfi = some r → GoW R w D hb num full k0.incr (p.drop i) pfi r)
  (fin : ∀ t', res = some t' → ∀ Hn' w', HT t' nb Hn' → HF w D (Hn' ++ Hr) w' → R (.returned (.tuple #[])) w') (pan : res = none → ∀ e w', onePanic e → HF w D [] w' → R e w') :
  GC Tryd.prog ⟨56, Tryd.f56, R, w, D⟩ 377 K72m fr (⟨nb, true, .row (nodeR tp idx wl nt pr kv hv f0) 94 (0, 0)⟩ :: ((Hs ++ (Hh ++ Hk)) ++ (⟨hb, true, .row [I (num : Int)] 3 (0, 0)⟩ :: Hr))) := by
 have hdl : (p.drop i).length ≤ 100000 := by rw [List.length_drop]; omega
 cases hpd : p.drop i with
 | nil =>
  have hie : i = p.length := by have := congrArg List.length hpd; simp at this; omega
  rw [hpd] at hst
  simp only [stepN] at hst
  cases h0 with
  | none =>
   simp at hst
   exact f72_set hs hh hk hpl hfl hpf hip hti hsub hie rfl (fin _ hst.symm)
  | some k =>
   simp at hst
   exact f72_dup hs hh hk hpl hfl hpf hip hti hsub hie rfl (pan hst.symm)
 | cons c rest =>
  have hlt : i < p.length := by
   rcases Nat.lt_or_ge i p.length with h | h
   ·exact h
   ·rw [List.drop_eq_nil_of_le h] at hpd; cases hpd
  have hc : p[i]? = some c := by
   have : (p.drop i)[0]? = some c := by rw [hpd]; rfl
   rwa [List.getElem?_drop] at this
  rw [hpd] at hst
  simp only [stepN] at hst
  have hsf : (c :: rest) <:+ full := by rw [← hpd]; exact (List.drop_suffix _ _).trans hsuf
  split at hst
  ·rename_i hcase
   obtain ⟨e1, rfl, e3⟩ := hcase
   split at hst
   ·rename_i k
    obtain ⟨r, h1, h2⟩ := Option.map_eq_some_iff.1 hst
    refine f72_par hs hh hk hpl hfl hpf hip hti hsub hlt hc rfl e1 rfl fun cb Hk1 Hr' fr' hk1 back hsub' => ?_
    refine hpar k r rfl e1 hc (by rw [hpd]; exact h1) cb Hk1 Hr' fr' hk1 hsub' (fun t' ht Hn' w' hn' hw' => ?_) (fun hr => pan (by rw [← h2, hr]; rfl))
    obtain ⟨Hn2, h3, h4⟩ := back t' Hn' hn'
    exact fin _ (by rw [← h2, ht]; rfl) Hn2 w' h3 (hw'.perm h4)
   ·cases hst
  ·rename_i hnp
   have hF2 : kids.length = idx.length + wl.toNat := by
    rcases F2 with ⟨k, h1, h2, h3⟩ | h
    ·exact absurd ⟨h1, h3 c hc, by rw [h2]; rfl⟩ hnp
    ·exact h
   split at hst
   ·rename_i j hj
    split at hst
    ·rename_i k hkj
     obtain ⟨r, h1, h2⟩ := Option.map_eq_some_iff.1 hst
     refine f72_idx hs hh hk hpl hfl hpf hip hti hsub hlt hc hnp F1 (by omega) hj hkj fun cb Hk1 Hr' fr' hk1 back hsub' => ?_
     refine hidx j c k r hc hnp hj hkj (by rw [hpd]; exact h1) cb Hk1 Hr' fr' hk1 hsub' (fun t' ht Hn' w' hn' hw' => ?_) (fun hr => pan (by rw [← h2, hr]; rfl))
     obtain ⟨Hn2, h3, h4⟩ := back t' Hn' hn'
     exact fin _ (by rw [← h2, ht]; rfl) Hn2 w' h3 (hw'.perm h4)
    ·cases hst
   ·rename_i hj
    refine f72_none hs hh hk hpl hfl hpf hip hti hsub hlt hc hnp F1 (by omega) hj fun fr' hsub' => ?_
    rw [hpd] at hsub' hdl hp'
    split at hst
    ·rename_i hcase
     obtain ⟨c58, c42, n3⟩ := hcase
     have hpos : (idx ++ [c]).length - 1 = idx.length := by simp
     rw [hpos] at hst
     split at hst
     ·rename_i k hkj
      obtain ⟨r, h1, h2⟩ := Option.map_eq_some_iff.1 hst
      refine f72_new hs hh hk hdl hfl hsub' c58 c42 n3 F1 hF2 hkj fun cb Hk1 Hr' fr2 hk1 back hsub2 => ?_
      have hkk : k = .node () [] [] false 0 1 none full [] := by
       obtain ⟨np, hnp2, hb⟩ := bump_eq (idx ++ [c]) (addKid wl kids (.node () [] [] false 0 0 none full [])) (j := idx.length) (by simp)
       obtain ⟨g1, g2, g3, g4⟩ := addKid_get hF2 (.node () [] [] false 0 0 none full [])
       rw [hb] at hkj
       dsimp only at hkj
       rw [moveTo_get _ hnp2 (by rw [List.length_modify, g4]; omega), if_neg (by omega), if_pos rfl, List.getElem?_modify, g2] at hkj
       simp [Tr.incr, Tr.setPr, Tr.pr] at hkj
       exact hkj.symm
      subst hkk
      rw [hp'] at h1 hsub2
      refine f72_ins hfl _ sl s' _ r hok h92 (by rw [← hp']; exact hdl) (by simp [Tr.kids]) (by simp [Tr.path]) (by simp [Tr.kids]) hk1 h1 hsub2 (fun t' ht Hn' w' hn' hw' => ?_) (fun hr => pan (by rw [← h2, hr]; rfl))
      obtain ⟨Hn2, h3, h4⟩ := back t' Hn' hn'
      exact fin _ (by rw [← h2, ht]; rfl) Hn2 w' h3 (hw'.perm h4)
     ·cases hst
    ·rename_i hcase
     have hc3 : c = 58 ∨ c = 42 ∨ nt = 3 := by
      by_cases e1 : c = 58
      ·exact .inl e1
      ·by_cases e2 : c = 42
       ·exact .inr (.inl e2)
       ·exact .inr (.inr (Decidable.byContradiction fun e3 => hcase ⟨e1, e2, e3⟩))
     split at hst
     ·rename_i hwl
      split at hst
      ·rename_i k0 hk0
       have hk0' : kids[kids.length - 1]? = some k0 := by rw [← List.getLast?_eq_getElem?]; exact hk0
       have hk0m := List.mem_of_getLast? hk0
       rw [incr_path, incr_nt] at hst
       split at hst
       ·rename_i hcond
        obtain ⟨r, h1, h2⟩ := Option.map_eq_some_iff.1 hst
        refine f72_wdown hs hh hk hdl hfl hsub' hc3 hwl F1 hk0' (F3 k0 hk0m) hcond fun cb Hk1 Hr' fr2 hk1 back hsub2 => ?_
        have := hwild k0 r hwl hk0 hcond.2.2.1 (by rw [hpd]; exact hcond.2.1) (by rw [hpd]; exact hcond.2.2.2) (by rw [hpd]; exact h1)
        rw [hpd] at this
        refine this cb Hk1 Hr' fr2 hk1 hsub2 (fun t' ht Hn' w' hn' hw' => ?_) (fun hr => pan (by rw [← h2, hr]; rfl))
        obtain ⟨Hn2, h3, h4⟩ := back t' Hn' hn'
        have hkl : kids.length = kids.length - 1 + 1 := by
         have := (List.getElem?_eq_some_iff.1 hk0').1; omega
        refine fin _ (by rw [← h2, ht, Option.map_some, dropLast_set hkl]) Hn2 w' h3 (hw'.perm h4)
       ·rename_i hcond
        exact f72_wbad hs hh hk hdl hfl hsub' hc3 hwl F1 hk0' (F3 k0 hk0m) hcond hsf (pan (by cases hst; rfl))
      ·cases hst
     ·rename_i hwl
      have hwl' : wl = false := by simpa using hwl
      refine f72_same hs hh hk hdl hfl hsub' hc3 hwl' fun fr2 hsub2 => ?_
      rw [hp'] at hst hsub2
      refine f72_ins hfl _ sl s' (.node () tp idx wl nt pr h0 f0 kids) res hok h92 (by rw [← hp']; exact hdl) F1 F4 F3 (HT.mk hs hh hk) hst hsub2 fin pan
/-! ### what a tree's nodes are, by the routes -/
theorem nodup_256 {l : List UInt8} (h : l.Nodup) : l.length ≤ 256 := by
 have := h.length_le_of_subset (l₂ := (List.range 256).map UInt8.ofNat) fun x _ => by
  rw [List.mem_map]
  exact ⟨x.toNat, by rw [List.mem_range]; exact x.toNat_lt, by simp⟩
 simpa using this
/-- the texts of routes are not long -/
def Bd (f : F) : Prop := ∀ s v, f s = some v → (txt s).length ≤ 100000
theorem txt_bs_len (p : List UInt8) (s : List Tok) : (txt (bs p ++ s)).length = p.length + (txt s).length := by rw [txt_app, txt_bs, List.length_append]
theorem Bd.at {f : F} (h : Bd f) (p : List UInt8) (c : UInt8) : Bd (at_ f p c) := fun s v hs => by
 unfold at_ at hs
 split at hs
 ·have := h _ v hs
  rw [txt_bs_len] at this; omega
 ·cases hs
theorem Bd.P {f : F} (h : Bd f) (p wn : List UInt8) : Bd (fun s => f (bs p ++ .P wn :: s)) := fun s v hs => by
 have := h _ v hs
 rw [txt_bs_len] at this
 simp [txt] at this
 omega
theorem _root_.Gt.Rep.ex {t : T0} {f : F} (x : Rep true t f) (hn : t.nt ≠ 2) : ∃ s v, f s = some v := by
 cases x with
 | pa => exact absurd rfl hn
 | pk => exact absurd rfl hn
 | ca => exact ⟨_, _, one_self _ _⟩
 | st wn wk hp hnt hpre hh hnd hpl hlen hk hkn hne hno hw hwr hnw hA hmin =>
  rcases hmin rfl with h1 | h1 | h1 | ⟨k0, h1, h2, h3⟩
  ·obtain ⟨k, rfl⟩ := Option.isSome_iff_exists.1 h1
   exact ⟨_, _, hh⟩
  ·obtain ⟨_, _, _, _, ⟨s, v, h5⟩, _⟩ := hw h1
   exact ⟨_, v, h5⟩
  ·obtain ⟨d, l, rfl⟩ := List.exists_cons_of_length_pos (Nat.lt_of_lt_of_le Nat.zero_lt_two h1)
   obtain ⟨s, v, h5⟩ := hne d (.head _)
   exact ⟨_, v, h5⟩
  ·subst h1
   obtain ⟨s, v, h5⟩ := hne 47 (.head _)
   exact ⟨_, v, h5⟩
theorem _root_.Gt.Rep.path_len {t : T0} {f : F} (x : Rep true t f) (hn : t.nt ≠ 2) (hb : Bd f) : t.path.length ≤ 100000 := by
 obtain ⟨s, v, hs⟩ := x.ex hn
 cases x with
 | pa => exact absurd rfl hn
 | pk => exact absurd rfl hn
 | ca => simp [Tr.path]
 | st wn wk hp hnt hpre =>
  obtain ⟨r, rfl⟩ := hpre s v hs
  have := hb _ v hs
  rw [txt_bs_len] at this
  simp only [n_path]; omega
theorem _root_.Gt.St.kid_len {path idx : List UInt8} {wild : Bool} {nt : Nat} {h0 : Option Nat} {f0 : List UInt8} {kids : List T0} {f : F} (x : St true path idx wild nt h0 f0 kids f) (hb : Bd f) : ∀ k ∈ kids, k.path.length ≤ 100000 := fun k hk => by
 obtain ⟨j, hj⟩ := List.getElem?_of_mem hk
 have hjl := (List.getElem?_eq_some_iff.1 hj).1
 rcases Nat.lt_or_ge j idx.length with h | h
 ·have := x.hkn j k h hj
  exact Rep.path_len (x.hk j _ k (List.getElem?_eq_getElem h) hj) (by omega) (hb.at _ _)
 ·cases wild with
  | false => have := x.hlen; simp at this; omega
  | true =>
   have hl := x.hlen
   simp at hl
   obtain ⟨wn, wk, h1, h2, h3, h4, ⟨s, v, h5⟩, _⟩ := x.hw rfl
   have e : j = idx.length := by omega
   subst e
   rw [h1] at hj
   cases hj
   rw [h4]
   have := hb _ v h5
   rw [txt_bs_len] at this
   simp [txt] at this
   simp; omega
theorem walkT_node (n : Nat) (tp idx : List UInt8) (wl : Bool) (nt pr : Nat) (h0 : Option Nat) (f0 : List UInt8) (kids : List T0) (p full : List UInt8) (pfi h : Nat) : walkT (n + 1) (.node () tp idx wl nt pr h0 f0 kids) p full pfi h = Gt.stepT (fun k p q => walkT n k p full q h) (if Gs.lcp p tp < tp.length then Gt.split (.node () tp idx wl nt pr h0 f0 kids) () (Gs.lcp p tp) (full.take (pfi + Gs.lcp p tp)) else .node () tp idx wl nt pr h0 f0 kids) full pfi h (p.drop (Gs.lcp p tp)) := walkT_step _ _ _ _ _ _
/-- the loop -/
theorem f72_loop {R : Ending → World → Prop} {w : World} {D : Nat → Prop} {hb num : Nat} {full : List UInt8} (hfl : full.length ≤ 100000) (hf92 : ∀ c ∈ full, c ≠ 92) : ∀ (g : Nat),
  (∀ (t : T0) (f : F) (sl : Bool) (c : UInt8) (q : List Tok) (pfi : Nat) (res : Option T0), Rep true t f → t.nt ≠ 2 → Ok sl (.b c :: q) → (∀ s v, f s = some v → ∃ r, s = .b c :: r) → Bd f → txt (.b c :: q) <:+ full → pfi + (txt (.b c :: q)).length ≤ full.length → walkT g t (txt (.b c :: q)) full pfi num = some res → GoW R w D hb num full t (txt (.b c :: q)) pfi res) ∧
  (∀ (t : T0) (f : F) (n : List UInt8) (q : List Tok) (pfi : Nat) (res : Option T0), Rep true t f → t.nt = 2 → t.path = 58 :: n → word n → (q = [] ∨ ∃ r, q = .b 47 :: r) → Ok false q → Bd f → (58 :: (n ++ txt q)) <:+ full → pfi + (58 :: (n ++ txt q)).length ≤ full.length → walkT g t (58 :: (n ++ txt q)) full pfi num = some res → GoW R w D hb num full t (58 :: (n ++ txt q)) pfi res)
 | 0 => ⟨fun _ _ _ _ _ _ _ _ _ _ _ _ _ _ h => (by cases h), fun _ _ _ _ _ _ _ _ _ _ _ _ _ _ _ h => (by cases h)⟩
 | g + 1 => by
  obtain ⟨ihS, ihP⟩ := f72_loop (R := R) (w := w) (D := D) (hb := hb) (num := num) hfl hf92 g
  constructor
  ·intro t f sl c q pfi res hr hn2 hok hhd hb hsuf hpf hwk nb Hn Hr fr ht hsub fin pan
   have hpl : (txt (.b c :: q)).length ≤ 100000 := Nat.le_trans hsuf.length_le hfl
   cases ht with
   | @mk path idx wild nt pr h0 full0 kids _ bks kv hv Hs Hh Hk hs hh hk =>
   refine f72_split hs hh hk hpl hfl hpf hsub fun Hn1 fr1 hn1 hsub1 => ?_
   rw [walkT_node] at hwk
   have h92 : ∀ c' ∈ txt (.b c :: q), c' ≠ 92 := fun c' hc' => hf92 c' (hsuf.subset hc')
   cases hr with
   | pa => exact absurd rfl hn2
   | pk => exact absurd rfl hn2
   | @ca _ _ pr2 num2 _ full2 n hn =>
    obtain ⟨r, e⟩ := hhd _ _ (one_self _ _)
    simp at e
    have hc : c = 47 := e.1.symm
    subst hc
    have hl : Gs.lcp (txt (.b 47 :: q)) [] = 0 := Gs.lcp_nil' _
    rw [hl, List.length_nil, if_neg (Nat.lt_irrefl _)] at hwk hn1
    rw [hl] at hsub1
    rw [stepT_node] at hwk
    have hbl := hb _ _ (one_self _ _)
    simp [txt] at hbl
    cases hn1 with
    | @mk _ _ _ _ _ _ _ _ _ bks1 kv1 hv1 Hs1 Hh1 Hk1 hs1 hh1 hk1 =>
    refine f72_step hs1 hh1 hk1 hpl hfl hpf (Nat.zero_le _) rfl hsub1 hsuf (by simp) (.inr rfl) (fun k hk => by rw [List.mem_singleton.1 hk]; simp [Tr.path]; omega) (by simp) (s' := .b 47 :: q) hok rfl h92 hwk (fun _ _ _ e => by cases e) (fun j c k r _ _ hj => by cases hj) (fun k0 r _ hk0 hk3 => by
     simp at hk0; subst hk0; exact absurd rfl hk3) fin pan
   | @st _ _ _ _ _ _ _ _ _ _ wn wk hp hnt hpre hh2 hnd hpl2 hlen hk2 hkn hne hno hw hwr hnw hA hmin =>
    have X : St true path idx wild nt h0 full0 kids f := (Rep.st (pr := pr) wn wk hp hnt hpre hh2 hnd hpl2 hlen hk2 hkn hne hno hw hwr hnw hA hmin).toSt hnt
    obtain ⟨i, s', hi, hss, hl, hd, hnx⟩ := lcp_tok path (.b c :: q) hp
    obtain ⟨sl', hok'⟩ := Ok_bs (hss ▸ hok)
    have hil : i ≤ (txt (.b c :: q)).length := by have := (Gs.lcp_le (txt (.b c :: q)) path).1; omega
    rw [hl] at hwk hn1 hsub1
    have hd92 : ∀ c' ∈ txt s', c' ≠ 92 := fun c' hc' => h92 c' (List.mem_of_mem_drop (hd ▸ hc'))
    have hfirst : ∀ c', (txt (.b c :: q))[i]? = some c' → ∀ d q', s' = .b d :: q' → c' = d := fun c' hc' d q' e => by
     have : ((txt (.b c :: q)).drop i)[0]? = some c' := by rw [List.getElem?_drop]; exact hc'
     rw [hd, e] at this
     simpa [txt] using this.symm
    have hbyte : ∀ c', (txt (.b c :: q))[i]? = some c' → ∀ j, idxOf c' idx = some j → ∃ q', s' = .b c' :: q' := fun c' hc' j hj => by
     have h1 : (txt s')[0]? = some c' := by rw [← hd, List.getElem?_drop]; exact hc'
     have h2 := hpl2 c' (List.mem_of_getElem? (idxOf_mem hj))
     match s', h1 with
     | .b d :: q', h1 => exact ⟨q', by simp [txt] at h1; rw [h1]⟩
     | .P m :: q', h1 => simp [txt] at h1; exact absurd h1.symm h2.1
     | .A m :: q', h1 => simp [txt] at h1; exact absurd h1.symm h2.2
    by_cases hlt : i < path.length
    ·obtain ⟨x, hx⟩ : ∃ x, path[i]? = some x := ⟨_, List.getElem?_eq_getElem hlt⟩
     have e0 : Gt.split (.node () path idx wild nt pr h0 full0 kids) () i (full.take (pfi + i)) = .node () (path.take i) [x] false nt pr none (full.take (pfi + i)) [.node () (path.drop i) idx wild 0 (pr + 4294967295) h0 full0 kids] := by
      unfold Gt.split
      simp only [n_h, n_path, n_idx, n_wild, n_nt, n_pr, n_kids, n_full, take_one hx]
     rw [if_pos hlt, e0] at hwk hn1
     rw [stepT_node] at hwk
     have hpll := X.rep (pr := pr) |>.path_len (by simp only [n_nt]; omega) hb
     simp only [n_path] at hpll
     cases hn1 with
     | @mk _ _ _ _ _ _ _ _ _ bks1 kv1 hv1 Hs1 Hh1 Hk1 hs1 hh1 hk1 =>
     refine f72_step hs1 hh1 hk1 hpl hfl hpf hil (by simp; omega) hsub1 hsuf (by simp) (.inr rfl) (fun k hk => by rw [List.mem_singleton.1 hk]; simp [Tr.path]; omega) (by simp; omega) (s' := s') hok' hd hd92 hwk (fun _ _ _ e => by omega) (fun j c' k r hc' _ hj => by
       have hxc : c' = x := by
        have := List.mem_of_getElem? (idxOf_mem hj)
        simpa using this
       subst hxc
       have h1 : (txt s')[0]? = some c' := by rw [← hd, List.getElem?_drop]; exact hc'
       have hpc := hp c' (List.mem_of_getElem? hx)
       have hnx2 := hnx c' hx
       exfalso
       match s', h1, hnx2 with
       | .b d :: q', h1, hnx2 => simp [txt] at h1; exact hnx2 (by rw [h1]; rfl)
       | .P m :: q', h1, _ => simp [txt] at h1; exact hpc.1 h1.symm
       | .A m :: q', h1, _ => simp [txt] at h1; exact hpc.2 h1.symm) (fun k0 r e => by cases e) fin pan
    ·have hie : i = path.length := by omega
     subst hie
     rw [if_neg hlt] at hwk hn1
     rw [stepT_node] at hwk
     rw [List.take_length] at hss
     have htl : (txt (.b c :: q)).length = path.length + (txt s').length := by rw [hss, txt_bs_len]
     have hks := nodup_256 hnd
     have hwb : wild.toNat ≤ 1 := by cases wild <;> simp
     have hpll := X.rep (pr := pr) |>.path_len (by simp only [n_nt]; omega) hb
     simp only [n_path] at hpll
     cases hn1 with
     | @mk _ _ _ _ _ _ _ _ _ bks1 kv1 hv1 Hs1 Hh1 Hk1 hs1 hh1 hk1 =>
     refine f72_step hs1 hh1 hk1 hpl hfl hpf hil rfl hsub1 hsuf (by omega) (.inr hlen) (X.kid_len hb) hpll (s' := s') hok' hd hd92 hwk (fun _ _ _ e => by omega) (fun j c' k r hc' _ hj hkj hrec => ?_) (fun k0 r hwl hk0 hk3 htk hlk hrec => ?_) fin pan
     ·obtain ⟨q', rfl⟩ := hbyte c' hc' j hj
      have hjd := idxOf_mem hj
      have hjl := (List.getElem?_eq_some_iff.1 hjd).1
      obtain ⟨np, hnp, hbm⟩ := bump_eq idx kids hjl
      rw [hbm] at hkj
      dsimp only at hkj
      rw [moveTo_get _ hnp (by rw [List.length_modify]; omega), if_neg (by omega), if_pos rfl, List.getElem?_modify] at hkj
      obtain ⟨k1, hk1', e1⟩ := Option.map_eq_some_iff.1 hkj
      simp at e1
      subst e1
      have hkr := hk2 j c' k1 hjd hk1'
      have hkn2 := hkn j k1 hjl hk1'
      rw [hd] at hrec ⊢
      exact ihS k1.incr (at_ f path c') sl' c' q' (pfi + path.length) r hkr.incr (by rw [incr_nt]; omega) hok' at_head (hb.at _ _) (by rw [← hd]; exact (List.drop_suffix _ _).trans hsuf) (by omega) hrec
     ·subst hwl
      obtain ⟨wn2, wk2, h1, h2, h3, h4, h5, h6, h7⟩ := X.hw rfl
      have hl1 : kids.length = idx.length + 1 := by simpa using hlen
      have hlast : kids.getLast? = some wk2 := by rw [List.getLast?_eq_getElem?, hl1]; exact h1
      rw [hlast] at hk0
      cases hk0
      rw [h4] at htk hlk
      rw [hd] at hrec htk hlk ⊢
      match s', hok' with
      | [], _ => simp [txt] at htk
      | .b d :: q', hok' => simp [txt] at htk; exact absurd htk.1 hok'.1.1
      | .A m :: q', _ => simp [txt] at htk
      | .P m :: q', hok' =>
       obtain ⟨_, hmw, hq, hq2⟩ := hok'
       have e := word_eq hmw h2 hq htk hlk
       subst e
       exact ihP k0.incr _ m q' pfi r h7.incr (by rw [incr_nt]; exact h3) (by rw [incr_path]; exact h4) h2 hq hq2 (hb.P _ _) (by
        have : (58 :: (m ++ txt q')) = (txt (.b c :: q)).drop path.length := hd.symm
        rw [this]; exact (List.drop_suffix _ _).trans hsuf) (by
        have : (txt (.P m :: q')).length = (58 :: (m ++ txt q')).length := rfl
        omega) hrec
  ·intro t f n q pfi res hr hn2 hpth hw hq hok hb hsuf hpf hwk nb Hn Hr fr ht hsub fin pan
   have hpl : (58 :: (n ++ txt q)).length ≤ 100000 := Nat.le_trans hsuf.length_le hfl
   have hl : Gs.lcp (58 :: (n ++ txt q)) (58 :: n) = n.length + 1 := by
    have := Gs.lcp_front (58 :: n) (txt q) []
    rw [List.append_nil, Gs.lcp_nil'] at this
    exact this
   have hd : (58 :: (n ++ txt q)).drop (n.length + 1) = txt q := by simp
   have hnl : ¬ (n.length + 1 < (58 :: n : List UInt8).length) := by simp
   have hgl : (58 :: (n ++ txt q)).length = n.length + 1 + (txt q).length := by simp; omega
   have hd92 : ∀ c' ∈ txt q, c' ≠ 92 := fun c' hc' => hf92 c' (hsuf.subset (by simp [hc']))
   have hil : n.length + 1 ≤ (58 :: (n ++ txt q)).length := by omega
   cases ht with
   | @mk path idx wild nt pr h0 full0 kids _ bks kv hv Hs Hh Hk hs hh hk =>
   simp only [n_path] at hpth
   subst hpth
   refine f72_split hs hh hk hpl hfl hpf hsub fun Hn1 fr1 hn1 hsub1 => ?_
   rw [walkT_node] at hwk
   rw [hl] at hwk hn1 hsub1
   rw [if_neg hnl] at hwk hn1
   rw [stepT_node] at hwk
   cases hn1 with
   | @mk _ _ _ _ _ _ _ _ _ bks1 kv1 hv1 Hs1 Hh1 Hk1 hs1 hh1 hk1 =>
   cases hr with
   | st wn wk hp hnt => simp only [n_nt] at hn2; omega
   | pa hh2 hno =>
    refine f72_step hs1 hh1 hk1 hpl hfl hpf hil (by simp) hsub1 hsuf (by simp) (.inr rfl) (by simp) (by simp; omega) (s' := q) hok hd hd92 hwk (fun _ _ e => by cases e) (fun j c' k r _ _ hj => by cases hj) (fun k0 r e => by cases e) fin pan
   | @pk _ _ _ _ _ _ k _ hh2 hidx hkr hkn h47 hne =>
    have hfst : ∀ c', (58 :: (n ++ txt q))[n.length + 1]? = some c' → c' = 47 := fun c' hc' => by
     have : ((58 :: (n ++ txt q)).drop (n.length + 1))[0]? = some c' := by rw [List.getElem?_drop]; exact hc'
     rw [hd] at this
     rcases hq with rfl | ⟨r, rfl⟩
     ·simp [txt] at this
     ·simp [txt] at this; exact this.symm
    have hkl : k.path.length ≤ 100000 := Rep.path_len hkr (by omega) fun s v hs => by
     split at hs
     ·cases hs
     ·exact hb s v hs
    refine f72_step hs1 hh1 hk1 hpl hfl hpf hil (by simp) hsub1 hsuf (by simp) (.inl ⟨k, rfl, rfl, hfst⟩) (fun k2 hk2 => by rw [List.mem_singleton.1 hk2]; exact hkl) (by simp; omega) (s' := q) hok hd hd92 hwk (fun k2 r e _ hc' hrec => ?_) (fun j c' k r hc' hnp => absurd ⟨rfl, hfst c' hc', rfl⟩ hnp) (fun k0 r e => by cases e) fin pan
    cases e
    rw [hd] at hrec ⊢
    rcases hq with rfl | ⟨r2, rfl⟩
    ·rw [List.getElem?_eq_none (by simp [txt])] at hc'; cases hc'
    ·refine ihS k.incr _ false 47 r2 (pfi + (58 :: n).length) r hkr.incr (by rw [incr_nt]; omega) hok (fun s v hs => ?_) (fun s v hs => ?_) (by rw [← hd]; exact (List.drop_suffix _ _).trans hsuf) (by rw [hgl] at hpf; simp; omega) hrec
     ·split at hs
      ·cases hs
      ·rename_i e
       rcases h47 s v hs with rfl | h
       ·exact absurd rfl e
       ·exact h
     ·split at hs
      ·cases hs
      ·exact hb s v hs
end Go.Proofs

/- addRoute. Printed by wip/mk_gu15.py. -/
set_option maxRecDepth 20000
namespace Go.Proofs
open Go Bw
open Gt
theorem f72_first (w : World) (D : Nat → Prop) {nb hb num cap : Nat} {ad : Option Addr} {Hs Hr : SH} (hs : Own 83 1 (.slice ad 0 cap) 0 [] Hs) {r : List Tok} {res : Option T0} (hr : Gt.Good r) (hl : (txt r).length ≤ 100000) (h92 : ∀ c ∈ txt r, c ≠ 92) (hres : addT new (txt r) num = some res) (hH : HF w D ((⟨nb, true, .row (nodeR [] [] false 0 0 (.slice ad 0 cap) (.slice none 0 0) [47]) 94 (0, 0)⟩ :: (Hs ++ ([] ++ []))) ++ (⟨hb, true, .row [I (num : Int)] 3 (0, 0)⟩ :: Hr)) w) :
  Calls Tryd.prog 56 #[Pt nb 0, S (txt r), (.slice (some ⟨hb, 0, none⟩) 1 1)] w fun e w' => (∃ t' Hn', res = some t' ∧ e = .returned (.tuple #[]) ∧ HT t' nb Hn' ∧ HF w D (Hn' ++ Hr) w') ∨ (res = none ∧ onePanic e ∧ HF w D [] w') := by
 refine enter D ((⟨nb, true, .row (nodeR [] [] false 0 0 (.slice ad 0 cap) (.slice none 0 0) [47]) 94 (0, 0)⟩ :: (Hs ++ ([] ++ []))) ++ (⟨hb, true, .row [I (num : Int)] 3 (0, 0)⟩ :: Hr)) Tryd.func56 rfl Tryd.ntmps56 rfl rfl hH fun c hc => ?_
 subst hc
 obtain ⟨hok, q, rfl⟩ := hr
 unfold addT at hres
 have e2 : (new : T0).incr = .node () [] [] false 0 1 none [47] [] := rfl
 simp only [e2, n_path, n_kids, and_self, if_true] at hres
 obtain ⟨r1, hi, hres2⟩ := Option.map_eq_some_iff.1 hres
 refine GC.scope ?_
 refine GC.seq ?_
 refine GC.reg ?_
 refine G.m1 ?_
 refine G.m2 ?_
 refine G.nil ?_
 refine GC.seq ?_
 refine GC.reg ?_
 refine G.m1 ?_
 refine G.v (V.nc rfl) rfl ?_
 refine G.v (V.fa F94_4 rfl) rfl ?_
 refine G.v (V.ld (b := nb) (off := 0 + 4) (wf := true) (l := nodeR [] [] false 0 0 (.slice ad 0 cap) (.slice none 0 0) [47]) (T := 94) (fz := (0, 0)) (v := .int .u32 ((0 % 4294967296 : Nat) : Int)) Tryd.isAgg89 rfl (.head _) rfl) rfl ?_
 refine G.v (V.add rfl rfl) rfl ?_
 rw [wrapU32]
 refine G.v (V.nc rfl) rfl ?_
 refine G.v (V.fa F94_4 rfl) rfl ?_
 refine G.st (b := nb) (off := 0 + 4) (l := nodeR [] [] false 0 0 (.slice ad 0 cap) (.slice none 0 0) [47]) (T := 94) (fz := (0, 0)) (v := .int .u32 (((0 + 1) % 4294967296 : Nat) : Int)) Tryd.sizeOf89 rfl rfl rfl (.z) rfl rfl ?_
 refine G.nil ?_
 refine GC.seq ?_
 refine GC.seq ?_
 refine GC.turn (H' := (⟨nb, true, .row (nodeR [] [] false 0 1 (.slice ad 0 cap) (.slice none 0 0) [47]) 94 (0, 0)⟩ :: (Hs ++ ([] ++ []))) ++ (⟨hb, true, .row [I (num : Int)] 3 (0, 0)⟩ :: Hr)) (fun w1 h1 => h1) ?_
 refine GC.reg ?_
 refine G.m1 ?_
 refine G.v (V.nc rfl) rfl ?_
 refine G.v (V.fa F94_0 rfl) rfl ?_
 refine G.v (V.ld (b := nb) (off := 0 + 0) (wf := true) (l := nodeR [] [] false 0 1 (.slice ad 0 cap) (.slice none 0 0) [47]) (T := 94) (fz := (0, 0)) (v := S []) Tryd.isAgg9 rfl (.head _) rfl) rfl ?_
 refine G.v (V.lenS Tryd.underlying9 rfl) rfl ?_
 refine G.v (V.eqI rfl rfl) rfl ?_
 refine G.m1 ?_
 refine G.bc 30 rfl (fun h30 => ?_) (fun h30 => ?_)
 ·refine G.m5 ?_
  refine G.vg rfl rfl (V.nc rfl) rfl ?_
  refine G.vg rfl rfl (V.fa F94_5 rfl) rfl ?_
  refine G.vg rfl rfl (V.ld (b := nb) (off := 0 + 5) (wf := true) (l := nodeR [] [] false 0 1 (.slice ad 0 cap) (.slice none 0 0) [47]) (T := 94) (fz := (0, 0)) (v := .slice ad 0 cap) Tryd.isAgg90 rfl (.head _) rfl) rfl ?_
  refine G.vg rfl rfl (V.lenL Tryd.underlying90 rfl) rfl ?_
  refine G.vg rfl rfl (V.eqI rfl rfl) rfl ?_
  refine G.m3 ?_
  refine G.nil ?_
  refine GC.cond rfl (fun h37 => ?_) (fun h37 => absurd h37 (by decide))
  refine GC.seq ?_
  refine GC.reg ?_
  refine G.m1 ?_
  refine G.m1 ?_
  refine G.m1 ?_
  refine G.m1 ?_
  refine G.callE (H1 := (⟨nb, true, .row (nodeR [] [] false 0 1 (.slice ad 0 cap) (.slice none 0 0) [47]) 94 (0, 0)⟩ :: (Hs ++ ([] ++ []))) ++ [⟨hb, true, .row [I (num : Int)] 3 (0, 0)⟩]) (Hk := Hr) (fun v H1' => v = .tuple #[] ∧ ∃ t', r1 = some t' ∧ HT t' nb H1') (fun H1' => r1 = none) (by simp) (fun e0 he0 => ?_) Tryd.call62 rfl rfl (fun w1 hw1 => ?_) ?_ (fun H1' e w' h1 h2 h3 => .inr ⟨by rw [← hres2, h1]; rfl, h2, h3.sub (List.nil_sublist _)⟩)
  ·simp only [List.append_nil, List.cons_append, List.mem_cons, List.mem_append, List.not_mem_nil, or_false] at he0
   rcases he0 with rfl | he0 | rfl
   ·rfl
   ·exact hs.w e0 he0
   ·rfl
  ·refine (f79_any w1 _ hl _ false (.b 47 :: q) (.node () [] [] false 0 1 none [47] []) nb _ [] r1 hok h92 hl (by simp [Tr.kids]) (by simp [Tr.path]) (by simp [Tr.kids]) (HT.mk (bs := []) hs HV.nil HTs.nil) hi hw1).mono fun e w' h => ?_
   rcases h with ⟨t', Hn', h1, h2, h3, h4⟩ | ⟨h1, h2, h3⟩
   ·rw [List.append_nil Hn'] at h4
    exact ⟨Hn', h3.w, h4, .inl ⟨_, h2, rfl, t', h1, h3⟩⟩
   ·exact ⟨[], by simp, h3, .inr ⟨h2, h1⟩⟩
  rintro v H1' ⟨rfl, t', ht1, ht2⟩
  refine G.nil ?_
  refine GC.seq ?_
  cases ht2 with
  | @mk tp idx wl nt pr h0 f0 kids _ bks kv hv Hs2 Hh Hk hs2 hh hk =>
  refine GC.reg ?_
  refine G.m1 ?_
  refine G.v (V.nc rfl) rfl ?_
  refine G.v (V.fa F94_3 rfl) rfl ?_
  refine G.st (b := nb) (off := 0 + 3) (l := nodeR tp idx wl nt pr kv hv f0) (T := 94) (fz := (0, 0)) (v := .int .u8 ((1 : Nat) : Int)) Tryd.sizeOf88 rfl rfl rfl (.z) rfl rfl ?_
  refine G.nil ?_
  exact GC.ret0 rfl fun w' hw' => .inl ⟨_, _, by rw [← hres2, ht1]; rfl, rfl, HT.mk (nt := 1) hs2 hh hk, hw'⟩
 ·exact absurd h30 (by decide)
theorem f72_more (w : World) (D : Nat → Prop) {nb hb num : Nat} {Hn Hr : SH} {r : List Tok} {t : T0} {f : F} {res : Option T0} (hr : Gt.Good r) (hl : (txt r).length ≤ 100000) (h92 : ∀ c ∈ txt r, c ≠ 92) (hrep : Rep true t f) (hn1 : t.nt = 1) (hhd : ∀ s v, f s = some v → ∃ r, s = .b 47 :: r) (hbd : Bd f) (hres : addT t (txt r) num = some res) (ht : HT t nb Hn) (hH : HF w D (Hn ++ (⟨hb, true, .row [I (num : Int)] 3 (0, 0)⟩ :: Hr)) w) :
  Calls Tryd.prog 56 #[Pt nb 0, S (txt r), (.slice (some ⟨hb, 0, none⟩) 1 1)] w fun e w' => (∃ t' Hn', res = some t' ∧ e = .returned (.tuple #[]) ∧ HT t' nb Hn' ∧ HF w D (Hn' ++ Hr) w') ∨ (res = none ∧ onePanic e ∧ HF w D [] w') := by
 refine enter D (Hn ++ (⟨hb, true, .row [I (num : Int)] 3 (0, 0)⟩ :: Hr)) Tryd.func56 rfl Tryd.ntmps56 rfl rfl hH fun c hc => ?_
 subst hc
 have hnot : ¬ (t.incr.path = [] ∧ t.incr.kids = []) := by
  rintro ⟨h1, h2⟩
  rw [incr_path] at h1
  rw [incr_kids] at h2
  cases t with
  | node a =>
  obtain ⟨k, _, e, _⟩ := (hrep.toSt (.inr hn1)).head hhd h1
  simp only [n_kids] at h2
  rw [h2] at e; cases e
 obtain ⟨hok, q, rfl⟩ := hr
 unfold addT at hres
 simp only [hnot, if_false] at hres
 have hrep2 := hrep.incr
 have hn2 : t.incr.nt = 1 := by rw [incr_nt]; exact hn1
 cases ht with
 | @mk tp idx wl nt pr h0 f0 kids _ bks kv hv Hs Hh Hk hs hh hk =>
 rw [incr_path, incr_kids] at hnot
 simp only [n_path, n_kids] at hnot
 obtain ⟨ad, cap, rfl⟩ := hs.slice
 refine GC.scope ?_
 refine GC.seq ?_
 refine GC.reg ?_
 refine G.m1 ?_
 refine G.m2 ?_
 refine G.nil ?_
 refine GC.seq ?_
 refine GC.reg ?_
 refine G.m1 ?_
 refine G.v (V.nc rfl) rfl ?_
 refine G.v (V.fa F94_4 rfl) rfl ?_
 refine G.v (V.ld (b := nb) (off := 0 + 4) (wf := true) (l := nodeR tp idx wl nt pr (.slice ad kids.length cap) hv f0) (T := 94) (fz := (0, 0)) (v := .int .u32 ((pr % 4294967296 : Nat) : Int)) Tryd.isAgg89 rfl (.head _) rfl) rfl ?_
 refine G.v (V.add rfl rfl) rfl ?_
 rw [wrapU32]
 refine G.v (V.nc rfl) rfl ?_
 refine G.v (V.fa F94_4 rfl) rfl ?_
 refine G.st (b := nb) (off := 0 + 4) (l := nodeR tp idx wl nt pr (.slice ad kids.length cap) hv f0) (T := 94) (fz := (0, 0)) (v := .int .u32 (((pr + 1) % 4294967296 : Nat) : Int)) Tryd.sizeOf89 rfl rfl rfl (.z) rfl rfl ?_
 refine G.nil ?_
 refine GC.seq ?_
 refine GC.seq ?_
 refine GC.turn (H' := (⟨nb, true, .row (nodeR tp idx wl nt (pr + 1) (.slice ad kids.length cap) hv f0) 94 (0, 0)⟩ :: (Hs ++ (Hh ++ Hk))) ++ (⟨hb, true, .row [I (num : Int)] 3 (0, 0)⟩ :: Hr)) (fun w1 h1 => ?_) ?_
 ·exact h1
 refine GC.join (fun fr' H' => Sub [(0, Pt nb 0), (1, S (txt (.b 47 :: q))), (2, (.slice (some ⟨hb, 0, none⟩) 1 1)), (6, S (txt (.b 47 :: q))), (37, .bool false)] fr' ∧ H' = (⟨nb, true, .row (nodeR tp idx wl nt (pr + 1) (.slice ad kids.length cap) hv f0) 94 (0, 0)⟩ :: (Hs ++ (Hh ++ Hk))) ++ (⟨hb, true, .row [I (num : Int)] 3 (0, 0)⟩ :: Hr)) (fun J2 => ?_) ?_
 ·refine GC.reg ?_
  refine G.m1 ?_
  refine G.v (V.nc rfl) rfl ?_
  refine G.v (V.fa F94_0 rfl) rfl ?_
  refine G.v (V.ld (b := nb) (off := 0 + 0) (wf := true) (l := nodeR tp idx wl nt (pr + 1) (.slice ad kids.length cap) hv f0) (T := 94) (fz := (0, 0)) (v := S tp) Tryd.isAgg9 rfl (.head _) rfl) rfl ?_
  refine G.v (V.lenS Tryd.underlying9 rfl) rfl ?_
  refine G.v (V.eqI rfl rfl) rfl ?_
  refine G.m1 ?_
  refine G.bc 30 rfl (fun h30 => ?_) (fun h30 => ?_)
  ·refine G.m5 ?_
   refine G.vg rfl rfl (V.nc rfl) rfl ?_
   refine G.vg rfl rfl (V.fa F94_5 rfl) rfl ?_
   refine G.vg rfl rfl (V.ld (b := nb) (off := 0 + 5) (wf := true) (l := nodeR tp idx wl nt (pr + 1) (.slice ad kids.length cap) hv f0) (T := 94) (fz := (0, 0)) (v := .slice ad kids.length cap) Tryd.isAgg90 rfl (.head _) rfl) rfl ?_
   refine G.vg rfl rfl (V.lenL Tryd.underlying90 rfl) rfl ?_
   refine G.vg rfl rfl (V.eqI rfl rfl) rfl ?_
   refine G.m3 ?_
   refine G.nil ?_
   have hp0 : tp = [] := List.length_eq_zero_iff.1 (by have := of_decide_eq_true h30; omega)
   have e : decide (((kids.length : Nat) : Int) = 0) = false := decide_eq_false fun e => hnot ⟨hp0, List.length_eq_zero_iff.1 (by omega)⟩
   refine J2 _ _ ⟨?_, rfl⟩
   rw [e]
   exact .of rfl
  ·refine G.s1 ?_
   refine G.s1 ?_
   refine G.s1 ?_
   refine G.s1 ?_
   refine G.s1 ?_
   refine G.s1 ?_
   refine G.m4 ?_
   refine G.nil ?_
   exact J2 _ _ ⟨.of rfl, rfl⟩
 rintro fr' H' ⟨hs2, rfl⟩
 refine GC.weak hs2 ?_
 clear hs2
 refine GC.condF rfl ?_
 refine GC.skip ?_
 refine GC.seq ?_
 refine GC.reg ?_
 refine G.m2 ?_
 refine G.nil ?_
 refine GC.seq ?_
 refine GC.label ?_
 refine GC.block ?_
 refine GC.loop ?_
 refine (f72_loop hl h92 _).1 _ f false 47 q 0 res hrep2 (by rw [hn2]; decide) hok hhd hbd (List.suffix_refl _) (by omega) hres nb _ Hr _ (HT.mk hs hh hk) (.of rfl) (fun t' h1 Hn' w' h2 h3 => .inl ⟨t', Hn', h1, rfl, h2, h3⟩) (fun h1 e w' h2 h3 => .inr ⟨h1, h2, h3⟩)
/-- addRoute -/
theorem f72_any (w : World) (D : Nat → Prop) {nb hb num : Nat} {Hn Hr : SH} {r : List Tok} {t : T0} {f : F} {res : Option T0} (hr : Gt.Good r) (hl : (txt r).length ≤ 100000) (h92 : ∀ c ∈ txt r, c ≠ 92) (hts : TS t f) (hbd : Bd f) (hres : addT t (txt r) num = some res) (ht : HT t nb Hn) (hH : HF w D (Hn ++ (⟨hb, true, .row [I (num : Int)] 3 (0, 0)⟩ :: Hr)) w) :
  Calls Tryd.prog 56 #[Pt nb 0, S (txt r), (.slice (some ⟨hb, 0, none⟩) 1 1)] w fun e w' => (∃ t' Hn', res = some t' ∧ e = .returned (.tuple #[]) ∧ HT t' nb Hn' ∧ HF w D (Hn' ++ Hr) w') ∨ (res = none ∧ onePanic e ∧ HF w D [] w') := by
 rcases hts with ⟨rfl, rfl⟩ | ⟨h1, h2, h3⟩
 ·cases ht with
  | mk hs hh hk =>
  cases hk
  cases hh
  obtain ⟨ad, cap, rfl⟩ := hs.slice
  exact f72_first w D hs hr hl h92 hres hH
 ·exact f72_more w D hr hl h92 h1 h2 h3 hbd hres ht hH
end Go.Proofs

/- impl.thrown: whether a function panics. -/
set_option maxRecDepth 100000
namespace Go.Proofs
open Go
theorem Tryd.catch_idle (p : Addr) (x : Bool) (w : World) (hc : w.cell? p = some (.bool x)) (hz : w.frozen? p = false) :
  CallsD Tryd.prog 52 #[.pointer (some p)] .returning w fun e u' w' => e = .returned (.tuple #[]) ∧ u' = .returning ∧ w' = w.setCell p (.bool false) := by
 refine callsD_of_wpS Tryd.func52 rfl fun c₀ cs hu => ?_
 apply wpS_region
 simp [wpOpsS, go_sem, recoverD, hu, Tryd.ntmps52, hc, hz]
 cases c₀
 simp_all [bodyPostS, results, Tryd.results52]
theorem Tryd.catch_panicking (p : Addr) (x : Bool) (u : TypeId) (pv : Value) (older : List PanicEntry) (w : World) (hc : w.cell? p = some (.bool x)) (hz : w.frozen? p = false) :
  CallsD Tryd.prog 52 #[.pointer (some p)] (.panicking ({ v := .iface u pv, recovered := false } :: older)) w fun e u' w' => e = .returned (.tuple #[]) ∧ u' = .panicking ({ v := .iface u pv, recovered := true } :: older) ∧ w' = w.setCell p (.bool true) := by
 refine callsD_of_wpS Tryd.func52 rfl fun c₀ cs hu => ?_
 apply wpS_region
 simp [wpOpsS, go_sem, recoverD, hu, Tryd.ntmps52, hc, hz, bodyPostS, results, Tryd.results52]
theorem Tryd.thrown_any (g : Nat) (caps : Array Value) (eg : ∀ args w, (callFunc g args).run Tryd.prog w = .ok (.enter g args) w) (w : World) (K : Bool → World → Prop)
  (hf : Calls Tryd.prog g caps (w.alloc (.cells #[.bool false] 4)) fun e w1 => w1.cell? ⟨w.heap.size, 0, none⟩ = some (.bool false) ∧ w1.frozen? ⟨w.heap.size, 0, none⟩ = false ∧
   ((∃ v, e = .returned v ∧ K false ((w1.setCell ⟨w.heap.size, 0, none⟩ (.bool false)).setCell ⟨w.heap.size, 0, none⟩ (.bool false))) ∨ (∃ u pv, e = .panicked [{ v := .iface u pv, recovered := false }] ∧ K true (w1.setCell ⟨w.heap.size, 0, none⟩ (.bool true))))) :
  Calls Tryd.prog 38 #[.func (.func g) #[] caps] w fun e w' => ∃ b, e = .returned (.bool b) ∧ K b w' := by
 have hmf : ∀ (fn : Fn) (first cap : Array Value) (w : World), (Instr.makeFunc fn first cap).run Tryd.prog w = .ok (.func fn first cap) w := fun _ _ _ _ => rfl
 go_enter_defers Tryd.func38, Tryd.ntmps38
 go_wp2
 refine hf.mono ?_
 rintro e w1 ⟨hc, hz, ⟨v, rfl, hK⟩ | ⟨u, pv, rfl, hK⟩⟩
 ·go_wp2
  refine leaves_cons (f := 52) (args := #[.pointer (some ⟨w.heap.size, 0, none⟩)]) (by simp) (by simp [go_sem]) ?_
  refine (Tryd.catch_idle ⟨w.heap.size, 0, none⟩ false _ ?_ ?_).mono ?_
  ·simp [go_sem, hc]
  ·simp [go_sem, hz]
  rintro e u' w'' ⟨rfl, rfl, rfl⟩
  simp [Leaves, settle, results, Tryd.results38, go_sem, hc]
  exact hK
 ·go_wp2
  refine leaves_cons (f := 52) (args := #[.pointer (some ⟨w.heap.size, 0, none⟩)]) (by simp) (by simp [go_sem]) ?_
  refine (Tryd.catch_panicking ⟨w.heap.size, 0, none⟩ false u pv [] _ hc hz).mono ?_
  rintro e u' w'' ⟨rfl, rfl, rfl⟩
  simp [Leaves, settle, results, Tryd.results38, go_sem, hc]
  exact hK
theorem f42_any (g : Nat) (caps : Array Value) (eg : ∀ args w, (callFunc g args).run Tryd.prog w = .ok (.enter g args) w) (w w0 : World) (D : Nat → Prop) (H : Bw.SH) (hw : Bw.HF w0 D H w) (J : Bool → Bw.SH → Prop)
  (hf : ∀ b w1, w0.heap.size ≤ b → Bw.HF w0 D (⟨b, true, .row [.bool false] 4 (0, 0)⟩ :: H) w1 → Calls Tryd.prog g caps w1 fun e w2 => ∃ H2, Bw.HF w0 D (⟨b, true, .row [.bool false] 4 (0, 0)⟩ :: H2) w2 ∧
   ((∃ v, e = .returned v ∧ J false H2) ∨ (∃ u pv, e = .panicked [{ v := .iface u pv, recovered := false }] ∧ J true H2))) :
  Calls Tryd.prog 38 #[.func (.func g) #[] caps] w fun e w' => ∃ t H2, e = .returned (.bool t) ∧ J t H2 ∧ Bw.HF w0 D H2 w' := by
 refine (Tryd.thrown_any g caps eg w (fun t w' => ∃ H2, J t H2 ∧ Bw.HF w0 D H2 w') ?_).mono fun e w' ⟨t, h1, H2, h2, h3⟩ => ⟨t, H2, h1, h2, h3⟩
 refine (hf w.heap.size _ hw.size (hw.push (.row [.bool false] 4 (0, 0)))).mono fun e w2 ⟨H2, h1, h2⟩ => ?_
 have hc := Bw.cell_row h1 (b := w.heap.size) (off := 0) (.head _) rfl
 have hz := Bw.frozen_row h1 (b := w.heap.size) (off := 0) (.head _)
 refine ⟨hc, by simpa using hz, ?_⟩
 rcases h2 with ⟨v, rfl, h2⟩ | ⟨u, pv, rfl, h2⟩
 ·exact .inl ⟨v, rfl, H2, h2, ((h1.setCell .z (.bool false)).setCell .z (.bool false)).sub (List.sublist_cons_self _ _)⟩
 ·exact .inr ⟨u, pv, rfl, H2, h2, (h1.setCell .z (.bool true)).sub (List.sublist_cons_self _ _)⟩
end Go.Proofs

/- A tree made, a route added. Printed by wip/mk_gu17.py. -/
set_option maxRecDepth 20000
namespace Go.Proofs
open Go Bw
open Gt
def treeR (nb : Nat) (m s : Nat) : List Value := [Pt nb 0, .int .u16 (m : Int), .int .u16 (s : Int)]
theorem full92 (nb : Nat) (w : World) : (Instr.build 86 #[(0, Pt nb 0)]).run Tryd.prog w = .ok (.agg (treeR nb 0 0).toArray) w := by
 simp [Instr.build, Tryd.zeroValue86, Tryd.runUnderlying86, Tryd.sizeOf83, Tryd.sizeOf84, cells_agg, Instr.fill, cells_ptr, treeR]
theorem _root_.Bw.V.maxU {P : Program} {c : Cx} {n : Nat} {fr : SF} {H : SH} {ty t u : TypeId} {x y : Operand} {i j : Nat} (hx : ev fr x = some (.int .u16 (i : Int))) (hy : ev fr y = some (.int .u16 (j : Int))) : Val P c n (.call ⟨.builtin .max, #[x, y], #[t, u]⟩) ty fr H (.int .u16 ((max i j : Nat) : Int)) := V.maxI hx hy
theorem f63_any (w : World)  : Calls Tryd.prog 49 #[] w fun e w' => ∃ nb tb, e = .returned (Pt tb 0) ∧ HF w (fun _ => False) [⟨tb, true, .row (treeR nb 0 0) 86 (0, 0)⟩, ⟨nb, true, .row (nodeR [] [] false 0 0 (.slice none 0 0) (.slice none 0 0) [47]) 94 (0, 0)⟩] w' := by
 refine enter (fun _ => False) [] Tryd.func49 rfl Tryd.ntmps49 rfl rfl (HF.start w _) fun c hc => ?_
 subst hc
 refine GC.seq ?_
 refine GC.reg ?_
 refine G.m2 ?_
 refine G.nil ?_
 refine GC.seq ?_
 refine GC.reg ?_
 refine G.v (V.bd (vs := [(7, S [47])]) rfl (fun w1 => bd_new _ w1)) rfl ?_
 refine G.bx (l := nodeR [] [] false 0 0 (.slice none 0 0) (.slice none 0 0) [47]) rfl (by simp [cells_agg, nodeR]) rfl (fun nb hnb => ?_)
 refine G.v (V.bd (vs := [(0, Pt nb 0)]) rfl (fun w1 => full92 nb w1)) rfl ?_
 refine G.bx (l := treeR nb 0 0) rfl (by simp [cells_agg, treeR]) rfl (fun tb htb => ?_)
 refine G.m2 ?_
 refine G.nil ?_
 exact GC.ret1 rfl rfl fun w' hw' => ⟨nb, tb, rfl, hw'⟩
theorem f65_any (w : World) (D : Nat → Prop) {tb nb m s num : Nat} {Hn : SH} {r : List Tok} {t : T0} {f : F} {res : Option T0} (hr : Gt.Good r) (hl : (txt r).length ≤ 20000) (h92 : ∀ c ∈ txt r, c ≠ 92) (hts : TS t f) (hbd : Bd f) (hres : addT t (txt r) num = some res) (ht : HT t nb Hn) (hH : HF w D (⟨tb, true, .row (treeR nb m s) 86 (0, 0)⟩ :: Hn) w) : Calls Tryd.prog 51 #[Pt tb 0, S (txt r), I (num : Int)] w fun e w' => (∃ t' Hn', res = some t' ∧ e = .returned (.tuple #[]) ∧ HT t' nb Hn' ∧ HF w D (⟨tb, true, .row (treeR nb (max m ((txt r).count 58 + (txt r).count 42)) (max s ((txt r).count 47))) 86 (0, 0)⟩ :: Hn') w') ∨ (res = none ∧ onePanic e ∧ HF w D [] w') := by
 refine enter D (⟨tb, true, .row (treeR nb m s) 86 (0, 0)⟩ :: Hn) Tryd.func51 rfl Tryd.ntmps51 rfl rfl hH fun c hc => ?_
 subst hc
 have h47 : (txt r)[0]? = some 47 := by
  obtain ⟨_, q, rfl⟩ := hr
  rfl
 generalize hp : txt r = p at *
 refine GC.seq ?_
 refine GC.seq ?_
 refine GC.reg ?_
 refine G.m1 ?_
 refine G.v (V.idx (i := 0) (b := 47) Tryd.underlying9 rfl rfl h47) rfl ?_
 refine G.v (V.neI rfl rfl) rfl ?_
 refine G.nil ?_
 refine GC.cond rfl (fun h8 => absurd h8 (by decide)) (fun h8 => ?_)
 refine GC.skip ?_
 refine GC.seq ?_
 refine GC.reg ?_
 refine G.m1 ?_
 refine G.v (V.nc rfl) rfl ?_
 refine G.v (V.fa F86_0 rfl) rfl ?_
 refine G.v (V.ld (b := tb) (off := 0 + 0) (wf := true) (l := treeR nb m s) (T := 86) (fz := (0, 0)) (v := Pt nb 0) Tryd.isAgg83 rfl (.head _) rfl) rfl ?_
 refine G.m1 ?_
 refine G.m1 ?_
 refine G.bs (BS.one Tryd.underlying92 Tryd.sizeOf3 Tryd.zeroValue3 (v := I (num : Int)) rfl) rfl rfl (fun hb hhb => ?_)
 refine G.callE (H1 := Hn ++ [⟨hb, true, .row [I (num : Int)] 3 (0, 0)⟩]) (Hk := [⟨tb, true, .row (treeR nb m s) 86 (0, 0)⟩]) (fun v H1' => v = .tuple #[] ∧ ∃ t', res = some t' ∧ HT t' nb H1') (fun H1' => res = none) ?_ (fun e0 he0 => ?_) Tryd.call56 rfl rfl (fun w1 hw1 => ?_) ?_ (fun H1' e w' h1 h2 h3 => .inr ⟨h1, h2, h3.sub (List.nil_sublist _)⟩)
 ·have p1 := perm_idx [[⟨hb, true, .row [I (num : Int)] 3 (0, 0)⟩], [⟨tb, true, .row (treeR nb m s) 86 (0, 0)⟩], Hn] [0, 1, 2] [2, 0, 1] (by decide)
  simpa using p1
 ·rcases List.mem_append.1 he0 with he0 | he0
  ·exact ht.w e0 he0
  ·rw [List.mem_singleton.1 he0]
 ·subst hp
  refine (f72_any w1 _ hr (by omega) h92 hts hbd hres ht hw1).mono fun e w' h => ?_
  rcases h with ⟨t', Hn', h1, h2, h3, h4⟩ | ⟨h1, h2, h3⟩
  ·rw [List.append_nil Hn'] at h4
   exact ⟨Hn', h3.w, h4, .inl ⟨_, h2, rfl, t', h1, h3⟩⟩
  ·exact ⟨[], by simp, h3, .inr ⟨h2, h1⟩⟩
 rintro v Hn2 ⟨rfl, t', ht1, ht2⟩
 refine G.turn (H' := ⟨tb, true, .row (treeR nb m s) 86 (0, 0)⟩ :: Hn2) (fun w1 h1 => h1.perm List.perm_append_comm) ?_
 refine G.nil ?_
 refine GC.seq ?_
 refine GC.join (fun fr' H' => Sub [(0, Pt tb 0), (1, S p)] fr' ∧ ⟨tb, true, .row (treeR nb (max m (p.count 58 + p.count 42)) s) 86 (0, 0)⟩ :: Hn2 = H') (fun J3 => ?_) ?_
 ·refine GC.regA (fun _ => True) mixed ?_
  refine GA.p 0 rfl (by kernel_rfl) (fun _ _ => trivial) (fun _ => V.mv rfl) rfl ?_
  refine GA.p 1 rfl (by kernel_rfl) (fun _ _ => trivial) (fun _ => V.mv rfl) rfl ?_
  refine GA.p 2 rfl (by kernel_rfl) (fun _ _ => trivial) (fun _ => V.nc rfl) rfl ?_
  refine GA.p 3 rfl (by kernel_rfl) (fun _ _ => trivial) (fun _ => V.fa F86_1 rfl) rfl ?_
  refine GA.p 5 rfl (by kernel_rfl) (fun _ _ => trivial) (fun _ => V.mv rfl) rfl ?_
  refine GA.two 4 6 rfl rfl (by kernel_rfl) ?_ ?_
  ·refine GB.v (V.ld (b := tb) (off := 0 + 1) (wf := true) (l := treeR nb m s) (T := 86) (fz := (0, 0)) (v := .int .u16 ((m : Nat) : Int)) Tryd.isAgg84 rfl (.head _) rfl) (fun _ _ => trivial) rfl ?_
   refine GA.one 6 rfl (by kernel_rfl) ?_
   refine GB.callW (xs := [.tmp 23]) (vs := [S p]) (fun v H2 => v = .int .u16 ((p.count 58 + p.count 42 : Nat) : Int) ∧ H2 = ⟨tb, true, .row (treeR nb m s) 86 (0, 0)⟩ :: Hn2) Tryd.call57 rfl rfl (fun _ _ _ _ _ => trivial) (fun w1 hw1 => (f73_any w1 p hl).mono fun e w' ⟨h1, h2⟩ => ⟨_, _, h1, hw1.after0 h2 (fun e he => by cases he), rfl, rfl⟩) ?_
   rintro v H2 ⟨rfl, rfl⟩
   refine GA.p 7 rfl (by kernel_rfl) (fun _ _ => trivial) (fun _ => V.maxU rfl rfl) rfl ?_
   refine GA.p 8 rfl (by kernel_rfl) (fun _ _ => trivial) (fun _ => V.nc rfl) rfl ?_
   refine GA.p 9 rfl (by kernel_rfl) (fun _ _ => trivial) (fun _ => V.fa F86_1 rfl) rfl ?_
   refine GA.one 10 rfl (by kernel_rfl) ?_
   refine GB.st (b := tb) (off := 0 + 1) (l := treeR nb m s) (T := 86) (fz := (0, 0)) Tryd.sizeOf84 rfl rfl rfl (.z) rfl rfl (fun _ _ => trivial) ?_
   refine GA.done (by kernel_rfl) ?_
   exact J3 _ _ ⟨.of rfl, rfl⟩
  ·refine GB.callW (xs := [.tmp 23]) (vs := [S p]) (fun v H2 => v = .int .u16 ((p.count 58 + p.count 42 : Nat) : Int) ∧ H2 = ⟨tb, true, .row (treeR nb m s) 86 (0, 0)⟩ :: Hn2) Tryd.call57 rfl rfl (fun _ _ _ _ _ => trivial) (fun w1 hw1 => (f73_any w1 p hl).mono fun e w' ⟨h1, h2⟩ => ⟨_, _, h1, hw1.after0 h2 (fun e he => by cases he), rfl, rfl⟩) ?_
   rintro v H2 ⟨rfl, rfl⟩
   refine GA.one 4 rfl (by kernel_rfl) ?_
   refine GB.v (V.ld (b := tb) (off := 0 + 1) (wf := true) (l := treeR nb m s) (T := 86) (fz := (0, 0)) (v := .int .u16 ((m : Nat) : Int)) Tryd.isAgg84 rfl (.head _) rfl) (fun _ _ => trivial) rfl ?_
   refine GA.p 7 rfl (by kernel_rfl) (fun _ _ => trivial) (fun _ => V.maxU rfl rfl) rfl ?_
   refine GA.p 8 rfl (by kernel_rfl) (fun _ _ => trivial) (fun _ => V.nc rfl) rfl ?_
   refine GA.p 9 rfl (by kernel_rfl) (fun _ _ => trivial) (fun _ => V.fa F86_1 rfl) rfl ?_
   refine GA.one 10 rfl (by kernel_rfl) ?_
   refine GB.st (b := tb) (off := 0 + 1) (l := treeR nb m s) (T := 86) (fz := (0, 0)) Tryd.sizeOf84 rfl rfl rfl (.z) rfl rfl (fun _ _ => trivial) ?_
   refine GA.done (by kernel_rfl) ?_
   exact J3 _ _ ⟨.of rfl, rfl⟩
 rintro fr' H' ⟨hsj, rfl⟩
 refine GC.weak hsj ?_
 clear hsj
 refine GC.join (fun fr' H' => Sub [(0, Pt tb 0), (1, S p)] fr' ∧ ⟨tb, true, .row (treeR nb (max m (p.count 58 + p.count 42)) (max s (p.count 47))) 86 (0, 0)⟩ :: Hn2 = H') (fun J4 => ?_) ?_
 ·refine GC.regA (fun _ => True) mixed ?_
  refine GA.p 0 rfl (by kernel_rfl) (fun _ _ => trivial) (fun _ => V.mv rfl) rfl ?_
  refine GA.p 1 rfl (by kernel_rfl) (fun _ _ => trivial) (fun _ => V.mv rfl) rfl ?_
  refine GA.p 2 rfl (by kernel_rfl) (fun _ _ => trivial) (fun _ => V.nc rfl) rfl ?_
  refine GA.p 3 rfl (by kernel_rfl) (fun _ _ => trivial) (fun _ => V.fa F86_2 rfl) rfl ?_
  refine GA.p 5 rfl (by kernel_rfl) (fun _ _ => trivial) (fun _ => V.mv rfl) rfl ?_
  refine GA.two 4 6 rfl rfl (by kernel_rfl) ?_ ?_
  ·refine GB.v (V.ld (b := tb) (off := 0 + 2) (wf := true) (l := treeR nb (max m (p.count 58 + p.count 42)) s) (T := 86) (fz := (0, 0)) (v := .int .u16 ((s : Nat) : Int)) Tryd.isAgg84 rfl (.head _) rfl) (fun _ _ => trivial) rfl ?_
   refine GA.one 6 rfl (by kernel_rfl) ?_
   refine GB.callW (xs := [.tmp 33]) (vs := [S p]) (fun v H2 => v = .int .u16 ((p.count 47 : Nat) : Int) ∧ H2 = ⟨tb, true, .row (treeR nb (max m (p.count 58 + p.count 42)) s) 86 (0, 0)⟩ :: Hn2) Tryd.call58 rfl rfl (fun _ _ _ _ _ => trivial) (fun w1 hw1 => (f74_any w1 p hl).mono fun e w' ⟨h1, h2⟩ => ⟨_, _, h1, hw1.after0 h2 (fun e he => by cases he), rfl, rfl⟩) ?_
   rintro v H2 ⟨rfl, rfl⟩
   refine GA.p 7 rfl (by kernel_rfl) (fun _ _ => trivial) (fun _ => V.maxU rfl rfl) rfl ?_
   refine GA.p 8 rfl (by kernel_rfl) (fun _ _ => trivial) (fun _ => V.nc rfl) rfl ?_
   refine GA.p 9 rfl (by kernel_rfl) (fun _ _ => trivial) (fun _ => V.fa F86_2 rfl) rfl ?_
   refine GA.one 10 rfl (by kernel_rfl) ?_
   refine GB.st (b := tb) (off := 0 + 2) (l := treeR nb (max m (p.count 58 + p.count 42)) s) (T := 86) (fz := (0, 0)) Tryd.sizeOf84 rfl rfl rfl (.z) rfl rfl (fun _ _ => trivial) ?_
   refine GA.done (by kernel_rfl) ?_
   exact J4 _ _ ⟨.of rfl, rfl⟩
  ·refine GB.callW (xs := [.tmp 33]) (vs := [S p]) (fun v H2 => v = .int .u16 ((p.count 47 : Nat) : Int) ∧ H2 = ⟨tb, true, .row (treeR nb (max m (p.count 58 + p.count 42)) s) 86 (0, 0)⟩ :: Hn2) Tryd.call58 rfl rfl (fun _ _ _ _ _ => trivial) (fun w1 hw1 => (f74_any w1 p hl).mono fun e w' ⟨h1, h2⟩ => ⟨_, _, h1, hw1.after0 h2 (fun e he => by cases he), rfl, rfl⟩) ?_
   rintro v H2 ⟨rfl, rfl⟩
   refine GA.one 4 rfl (by kernel_rfl) ?_
   refine GB.v (V.ld (b := tb) (off := 0 + 2) (wf := true) (l := treeR nb (max m (p.count 58 + p.count 42)) s) (T := 86) (fz := (0, 0)) (v := .int .u16 ((s : Nat) : Int)) Tryd.isAgg84 rfl (.head _) rfl) (fun _ _ => trivial) rfl ?_
   refine GA.p 7 rfl (by kernel_rfl) (fun _ _ => trivial) (fun _ => V.maxU rfl rfl) rfl ?_
   refine GA.p 8 rfl (by kernel_rfl) (fun _ _ => trivial) (fun _ => V.nc rfl) rfl ?_
   refine GA.p 9 rfl (by kernel_rfl) (fun _ _ => trivial) (fun _ => V.fa F86_2 rfl) rfl ?_
   refine GA.one 10 rfl (by kernel_rfl) ?_
   refine GB.st (b := tb) (off := 0 + 2) (l := treeR nb (max m (p.count 58 + p.count 42)) s) (T := 86) (fz := (0, 0)) Tryd.sizeOf84 rfl rfl rfl (.z) rfl rfl (fun _ _ => trivial) ?_
   refine GA.done (by kernel_rfl) ?_
   exact J4 _ _ ⟨.of rfl, rfl⟩
 rintro fr' H' ⟨hsj, rfl⟩
 refine GC.weak hsj ?_
 clear hsj
 exact GC.end0 rfl fun w' hw' => .inl ⟨t', Hn2, ht1, rfl, ht2, hw'⟩
end Go.Proofs

/- ginTree, GinAdd. Printed by wip/mk_gu18.py. -/
set_option maxRecDepth 20000
namespace Go.Proofs
open Go Bw
open Gt
theorem f64_any (w : World) (D : Nat → Prop) {ca cb cc : Nat} {tb nb m s i : Nat} {Hn : SH} {r : List Tok} {t : T0} {f : F} {res : Option T0} (hr : Gt.Good r) (hl : (txt r).length ≤ 20000) (h92 : ∀ c ∈ txt r, c ≠ 92) (hts : TS t f) (hbd : Bd f) (hres : addT t (txt r) (i + 1) = some res) (ht : HT t nb Hn) (hi : i ≤ 1000000000) (hH : HF w D (⟨tb, true, .row (treeR nb m s) 86 (0, 0)⟩ :: (Hn ++ [⟨ca, true, .row [Pt tb 0] 63 (0, 0)⟩, ⟨cb, true, .row [S (txt r)] 9 (0, 0)⟩, ⟨cc, true, .row [I (i : Nat)] 3 (0, 0)⟩])) w) : Calls Tryd.prog 50 #[Pt ca 0, Pt cb 0, Pt cc 0] w fun e w' => (∃ t' Hn', res = some t' ∧ e = .returned (.tuple #[]) ∧ HT t' nb Hn' ∧ HF w D (⟨tb, true, .row (treeR nb (max m ((txt r).count 58 + (txt r).count 42)) (max s ((txt r).count 47))) 86 (0, 0)⟩ :: (Hn' ++ [⟨ca, true, .row [Pt tb 0] 63 (0, 0)⟩, ⟨cb, true, .row [S (txt r)] 9 (0, 0)⟩, ⟨cc, true, .row [I (i : Nat)] 3 (0, 0)⟩])) w') ∨ (res = none ∧ onePanic e ∧ HF w D [⟨ca, true, .row [Pt tb 0] 63 (0, 0)⟩, ⟨cb, true, .row [S (txt r)] 9 (0, 0)⟩, ⟨cc, true, .row [I (i : Nat)] 3 (0, 0)⟩] w') := by
 refine enter D (⟨tb, true, .row (treeR nb m s) 86 (0, 0)⟩ :: (Hn ++ [⟨ca, true, .row [Pt tb 0] 63 (0, 0)⟩, ⟨cb, true, .row [S (txt r)] 9 (0, 0)⟩, ⟨cc, true, .row [I (i : Nat)] 3 (0, 0)⟩])) Tryd.func50 rfl Tryd.ntmps50 rfl rfl hH fun c hc => ?_
 subst hc
 refine GC.reg ?_
 refine G.v (V.ld (b := ca) (off := 0) (wf := true) (l := [Pt tb 0]) (T := 63) (fz := (0, 0)) (v := Pt tb 0) Tryd.isAgg63 rfl (by simp) rfl) rfl ?_
 refine G.v (V.ld (b := cb) (off := 0) (wf := true) (l := [S (txt r)]) (T := 9) (fz := (0, 0)) (v := S (txt r)) Tryd.isAgg9 rfl (by simp) rfl) rfl ?_
 refine G.v (V.ld (b := cc) (off := 0) (wf := true) (l := [I (i : Nat)]) (T := 3) (fz := (0, 0)) (v := I (i : Nat)) Tryd.isAgg3 rfl (by simp) rfl) rfl ?_
 refine G.v (V.addI (r := ((i + 1 : Nat) : Int)) rfl rfl rfl (by omega) (by omega)) rfl ?_
 refine G.callE (H1 := ⟨tb, true, .row (treeR nb m s) 86 (0, 0)⟩ :: Hn) (Hk := [⟨ca, true, .row [Pt tb 0] 63 (0, 0)⟩, ⟨cb, true, .row [S (txt r)] 9 (0, 0)⟩, ⟨cc, true, .row [I (i : Nat)] 3 (0, 0)⟩]) (fun v H1' => v = .tuple #[] ∧ ∃ t' Hn', res = some t' ∧ HT t' nb Hn' ∧ H1' = ⟨tb, true, .row (treeR nb (max m ((txt r).count 58 + (txt r).count 42)) (max s ((txt r).count 47))) 86 (0, 0)⟩ :: Hn') (fun H1' => res = none) (.of_eq rfl) (fun e0 he0 => ?_) Tryd.call51 rfl rfl (fun w1 hw1 => ?_) ?_ (fun H1' e w' h1 h2 h3 => .inr ⟨h1, h2, h3.sub (List.sublist_append_right _ _)⟩)
 ·rcases List.mem_cons.1 he0 with rfl | he0
  ·rfl
  ·exact ht.w e0 he0
 ·refine (f65_any w1 _ hr hl h92 hts hbd hres ht hw1).mono fun e w' h => ?_
  rcases h with ⟨t', Hn', h1, h2, h3, h4⟩ | ⟨h1, h2, h3⟩
  ·refine ⟨_, fun e0 he0 => ?_, h4, .inl ⟨_, h2, rfl, t', Hn', h1, h3, rfl⟩⟩
   rcases List.mem_cons.1 he0 with rfl | he0
   ·rfl
   ·exact h3.w e0 he0
  ·exact ⟨[], by simp, h3, .inr ⟨h2, h1⟩⟩
 rintro v H1' ⟨rfl, t', Hn', ht1, ht2, rfl⟩
 refine G.nil ?_
 exact GC.end0 rfl fun w' hw' => .inl ⟨t', Hn', ht1, rfl, ht2, hw'⟩
theorem HT_new (nb : Nat) : HT new nb [⟨nb, true, .row (nodeR [] [] false 0 0 (.slice none 0 0) (.slice none 0 0) [47]) 94 (0, 0)⟩] := HT.mk (path := []) (idx := []) (wild := false) (nt := 0) (pr := 0) (h := none) (full := [47]) (kids := []) (bs := []) Own.nil HV.nil HTs.nil
/-- the greatest count -/
def mxP (l : List (List Tok)) : Nat := l.foldl (fun m r => max m ((txt r).count 58 + (txt r).count 42)) 0
def mxS (l : List (List Tok)) : Nat := l.foldl (fun m r => max m ((txt r).count 47)) 0
theorem take_snoc {α : Type} {l : List α} {k : Nat} {x : α} (h : l[k]? = some x) : l.take (k + 1) = l.take k ++ [x] := by
 rw [List.take_add_one, h]; rfl
theorem mxP_snoc {l : List (List Tok)} {k : Nat} {r : List Tok} (h : l[k]? = some r) : mxP (l.take (k + 1)) = max (mxP (l.take k)) ((txt r).count 58 + (txt r).count 42) := by
 rw [take_snoc h]; simp [mxP]
theorem mxS_snoc {l : List (List Tok)} {k : Nat} {r : List Tok} (h : l[k]? = some r) : mxS (l.take (k + 1)) = max (mxS (l.take k)) ((txt r).count 47) := by
 rw [take_snoc h]; simp [mxS]
theorem Bd.upd {f : F} (h : Bd f) {r : List Tok} (hl : (txt r).length ≤ 100000) (v) : Bd (Gt.upd f r v) := fun s u hs => by
 rcases upd_some hs with rfl | hs
 ·exact hl
 ·exact h s u hs
/-- a slice of texts that lies in memory -/
def Txts (w : World) (sv : Value) (l : List (List UInt8)) : Prop := ∃ ad cp, sv = .slice ad l.length cp ∧ ∀ (j : Nat) p, l[j]? = some p → ∃ b o, ad = some ⟨b, o, none⟩ ∧ w.cell? ⟨b, o + j, none⟩ = some (S p)
theorem f40_any (w : World) (rs : List (List Tok)) (sv : Value) (hg : ∀ r ∈ rs, Gt.Good r) (hl : ∀ r ∈ rs, (txt r).length ≤ 20000) (h92 : ∀ r ∈ rs, ∀ c ∈ txt r, c ≠ 92) (hn : rs.length ≤ 1000000) (hsv : Txts w sv (rs.map txt)) : Calls Tryd.prog 37 #[sv] w fun e w' => (∃ t tb nb Hn, addAll new (rs.map txt) 0 = .inl t ∧ e = .returned (.tuple #[Pt tb 0, I (-1)]) ∧ HT t nb Hn ∧ HF w (fun _ => False) (⟨tb, true, .row (treeR nb (mxP rs) (mxS rs)) 86 (0, 0)⟩ :: Hn) w') ∨ (∃ j tb, addAll new (rs.map txt) 0 = .inr j ∧ e = .returned (.tuple #[Pt tb 0, I (j : Nat)]) ∧ HF w (fun _ => False) [] w') := by
 refine enter (fun _ => False) [] Tryd.func37 rfl Tryd.ntmps37 rfl rfl (HF.start w _) fun c hc => ?_
 subst hc
 obtain ⟨ad, cp, rfl, hcell⟩ := hsv
 rw [List.length_map]
 refine GC.seq ?_
 refine GC.reg ?_
 refine G.m2 ?_
 refine G.m2 ?_
 refine G.nil ?_
 refine GC.seq ?_
 refine GC.reg ?_
 refine G.callW (fun v H2 => ∃ nb tb, v = Pt tb 0 ∧ H2 = [⟨tb, true, .row (treeR nb 0 0) 86 (0, 0)⟩, ⟨nb, true, .row (nodeR [] [] false 0 0 (.slice none 0 0) (.slice none 0 0) [47]) 94 (0, 0)⟩]) Tryd.call49 rfl rfl (fun w1 hw1 => (f63_any w1).mono fun e w' ⟨nb, tb, h1, h2⟩ => ⟨_, _, h1, hw1.after0 h2 (fun e0 he0 => by simp only [List.mem_cons, List.not_mem_nil, or_false] at he0; rcases he0 with rfl | rfl <;> rfl), nb, tb, rfl, rfl⟩) ?_
 rintro v H2 ⟨nb, tb, rfl, rfl⟩
 refine G.al Tryd.zeroValue63 rfl rfl (fun ca hca => ?_)
 refine G.st Tryd.sizeOf63 rfl rfl rfl .z rfl rfl ?_
 refine G.nil ?_
 refine GC.seq ?_
 refine GC.seq ?_
 refine GC.turn (H' := [⟨ca, true, .row [Pt tb 0] 63 (0, 0)⟩, ⟨tb, true, .row (treeR nb 0 0) 86 (0, 0)⟩, ⟨nb, true, .row (nodeR [] [] false 0 0 (.slice none 0 0) (.slice none 0 0) [47]) 94 (0, 0)⟩]) (fun w1 hw1 => hw1) ?_
 refine GC.reg ?_
 refine G.m1 ?_
 refine G.v (V.lenL Tryd.underlying27 rfl) rfl ?_
 refine G.m1 ?_
 refine G.nil ?_
 refine GC.block ?_
 refine GC.loopJ (fun N fr' H' => ∃ k t f Hn, k + N = rs.length ∧ addAll new (rs.map txt) 0 = addAll t ((rs.drop k).map txt) k ∧ TS t f ∧ Bd f ∧ HT t nb Hn ∧ Sub [(8, .slice ad rs.length cp), (4, Pt ca 0), (9, I (rs.length : Nat)), (10, I (k : Nat))] fr' ∧ H' = ⟨ca, true, .row [Pt tb 0] 63 (0, 0)⟩ :: ⟨tb, true, .row (treeR nb (mxP (rs.take k)) (mxS (rs.take k))) 86 (0, 0)⟩ :: Hn) rs.length
  ⟨0, new, fun _ => none, [⟨nb, true, .row (nodeR [] [] false 0 0 (.slice none 0 0) (.slice none 0 0) [47]) 94 (0, 0)⟩], by omega, rfl, .inl ⟨rfl, rfl⟩, fun s v h => (by cases h), HT_new nb, .of rfl, rfl⟩ ?_
 rintro N fr' H' ⟨k, t, f, Hn, hk, hadd, hts, hbd, ht, hs, rfl⟩ ih
 refine GC.weak hs ?_
 clear hs
 refine GC.seq ?_
 refine GC.reg ?_
 refine G.v (V.lt rfl rfl) rfl ?_
 refine G.nil ?_
 refine GC.seq ?_
 refine GC.condD rfl (fun h11 => ?_) (fun h11 => ?_)
 ·refine GC.skip ?_
  refine GC.seq ?_
  refine GC.block ?_
  refine GC.seq ?_
  have hkl : k < rs.length := by omega
  obtain ⟨r, hrk⟩ : ∃ r, rs[k]? = some r := ⟨_, List.getElem?_eq_getElem hkl⟩
  have hrm := List.mem_of_getElem? hrk
  obtain ⟨lb, lo, rfl, hcr⟩ := hcell k (txt r) (by rw [List.getElem?_map, hrk]; rfl)
  obtain ⟨res, hres⟩ : ∃ res, addT t (txt r) (k + 1) = some res := by
   by_cases ha : Ap f r
   ·obtain ⟨t', h1, _⟩ := (add_ok hts (hg r hrm) (k + 1)).1 ha; exact ⟨_, h1⟩
   ·exact ⟨_, (add_ok hts (hg r hrm) (k + 1)).2 ha⟩
  have hdrop : (rs.drop k).map txt = txt r :: (rs.drop (k + 1)).map txt := by rw [List.drop_eq_getElem_cons hkl, (List.getElem?_eq_some_iff.1 hrk).2]; rfl
  refine GC.reg ?_
  refine G.m1 ?_
  refine G.v (V.ia (i := k) Tryd.underlying27 Tryd.sizeOf9 rfl rfl hkl) rfl ?_
  rw [Nat.mul_one]
  refine G.v (V.ldC (v := S (txt r)) Tryd.isAgg9 rfl hcr id) rfl ?_
  refine G.al Tryd.zeroValue3 rfl rfl (fun cc hcc => ?_)
  refine G.al Tryd.zeroValue9 rfl rfl (fun cb hcb => ?_)
  refine G.st Tryd.sizeOf3 rfl rfl rfl (.s .z) rfl rfl ?_
  refine G.st Tryd.sizeOf9 rfl rfl rfl .z rfl rfl ?_
  refine G.nil ?_
  refine GC.seq ?_
  refine GC.turn (H' := ⟨tb, true, .row (treeR nb (mxP (rs.take k)) (mxS (rs.take k))) 86 (0, 0)⟩ :: (Hn ++ [⟨ca, true, .row [Pt tb 0] 63 (0, 0)⟩, ⟨cb, true, .row [S (txt r)] 9 (0, 0)⟩, ⟨cc, true, .row [I (k : Nat)] 3 (0, 0)⟩])) (fun w1 hw1 => ?_) ?_
  ·have h1 : HF w (fun _ => False) (⟨cb, true, .row [S (txt r)] 9 (0, 0)⟩ :: ⟨cc, true, .row [I (k : Nat)] 3 (0, 0)⟩ :: ⟨ca, true, .row [Pt tb 0] 63 (0, 0)⟩ :: ⟨tb, true, .row (treeR nb (mxP (rs.take k)) (mxS (rs.take k))) 86 (0, 0)⟩ :: Hn) w1 := hw1
   have p1 := perm_idx [[⟨cb, true, .row [S (txt r)] 9 (0, 0)⟩], [⟨cc, true, .row [I (k : Nat)] 3 (0, 0)⟩], [⟨ca, true, .row [Pt tb 0] 63 (0, 0)⟩], [⟨tb, true, .row (treeR nb (mxP (rs.take k)) (mxS (rs.take k))) 86 (0, 0)⟩], Hn] [0, 1, 2, 3, 4] [3, 4, 2, 0, 1] (by decide)
   exact h1.perm (by simpa using p1)
  refine GC.reg ?_
  refine G.v (V.mkF (vs := [Pt ca 0, Pt cb 0, Pt cc 0]) rfl) rfl ?_
  refine G.callW (fun v H2 => ∃ t1, v = .bool t1 ∧ ((t1 = false ∧ ∃ t' Hn', res = some t' ∧ HT t' nb Hn' ∧ H2 = ⟨tb, true, .row (treeR nb (max (mxP (rs.take k)) ((txt r).count 58 + (txt r).count 42)) (max (mxS (rs.take k)) ((txt r).count 47))) 86 (0, 0)⟩ :: (Hn' ++ [⟨ca, true, .row [Pt tb 0] 63 (0, 0)⟩, ⟨cb, true, .row [S (txt r)] 9 (0, 0)⟩, ⟨cc, true, .row [I (k : Nat)] 3 (0, 0)⟩])) ∨ (t1 = true ∧ res = none ∧ H2 = [⟨ca, true, .row [Pt tb 0] 63 (0, 0)⟩, ⟨cb, true, .row [S (txt r)] 9 (0, 0)⟩, ⟨cc, true, .row [I (k : Nat)] 3 (0, 0)⟩]))) Tryd.call38 rfl rfl (fun w1 hw1 => ?_) ?_
  ·refine (f42_any 50 #[Pt ca 0, Pt cb 0, Pt cc 0] Tryd.call50 w1 w (fun _ => False) _ hw1 (fun t1 H2 => ((t1 = false ∧ ∃ t' Hn', res = some t' ∧ HT t' nb Hn' ∧ H2 = ⟨tb, true, .row (treeR nb (max (mxP (rs.take k)) ((txt r).count 58 + (txt r).count 42)) (max (mxS (rs.take k)) ((txt r).count 47))) 86 (0, 0)⟩ :: (Hn' ++ [⟨ca, true, .row [Pt tb 0] 63 (0, 0)⟩, ⟨cb, true, .row [S (txt r)] 9 (0, 0)⟩, ⟨cc, true, .row [I (k : Nat)] 3 (0, 0)⟩])) ∨ (t1 = true ∧ res = none ∧ H2 = [⟨ca, true, .row [Pt tb 0] 63 (0, 0)⟩, ⟨cb, true, .row [S (txt r)] 9 (0, 0)⟩, ⟨cc, true, .row [I (k : Nat)] 3 (0, 0)⟩]))) (fun b w2 hb0 hw2 => ?_)).mono fun e w' ⟨t1, H2, h1, h2, h3⟩ => ⟨_, _, h1, h3, t1, rfl, h2⟩
   have hp2 : List.Perm ((⟨b, true, .row [.bool false] 4 (0, 0)⟩ :: (⟨tb, true, .row (treeR nb (mxP (rs.take k)) (mxS (rs.take k))) 86 (0, 0)⟩ :: (Hn ++ [⟨ca, true, .row [Pt tb 0] 63 (0, 0)⟩, ⟨cb, true, .row [S (txt r)] 9 (0, 0)⟩, ⟨cc, true, .row [I (k : Nat)] 3 (0, 0)⟩])) : SH)) ((⟨tb, true, .row (treeR nb (mxP (rs.take k)) (mxS (rs.take k))) 86 (0, 0)⟩ :: (Hn ++ [⟨ca, true, .row [Pt tb 0] 63 (0, 0)⟩, ⟨cb, true, .row [S (txt r)] 9 (0, 0)⟩, ⟨cc, true, .row [I (k : Nat)] 3 (0, 0)⟩])) ++ [⟨b, true, .row [.bool false] 4 (0, 0)⟩]) := List.perm_append_comm (l₁ := ([⟨b, true, .row [.bool false] 4 (0, 0)⟩] : SH))
   have hh := hw2.perm hp2
   have hnd := List.pairwise_append.1 hh.nd
   have hww : ∀ e0 ∈ (⟨tb, true, .row (treeR nb (mxP (rs.take k)) (mxS (rs.take k))) 86 (0, 0)⟩ :: (Hn ++ [⟨ca, true, .row [Pt tb 0] 63 (0, 0)⟩, ⟨cb, true, .row [S (txt r)] 9 (0, 0)⟩, ⟨cc, true, .row [I (k : Nat)] 3 (0, 0)⟩]) : SH), e0.w = true := fun e0 he0 => by
    rcases List.mem_cons.1 he0 with rfl | he0
    ·rfl
    ·rcases List.mem_append.1 he0 with he0 | he0
     ·exact ht.w e0 he0
     ·simp only [List.mem_cons, List.not_mem_nil, or_false] at he0; rcases he0 with rfl | rfl | rfl <;> rfl
   refine (f64_any w2 (fun b => ∃ e ∈ (⟨tb, true, .row (treeR nb (mxP (rs.take k)) (mxS (rs.take k))) 86 (0, 0)⟩ :: (Hn ++ [⟨ca, true, .row [Pt tb 0] 63 (0, 0)⟩, ⟨cb, true, .row [S (txt r)] 9 (0, 0)⟩, ⟨cc, true, .row [I (k : Nat)] 3 (0, 0)⟩]) : SH), e.b = b) (hg r hrm) (hl r hrm) (h92 r hrm) hts hbd hres ht (by omega) (hh.loc (fun e he => List.mem_append_left _ he) hnd.1)).mono fun e w' h => ?_
   rcases h with ⟨t', Hn', h1, h2, h3, h4⟩ | ⟨h1, ⟨tt, vv, h2⟩, h3⟩
   ·refine ⟨_, ?_, .inl ⟨_, h2, .inl ⟨rfl, t', Hn', h1, h3, rfl⟩⟩⟩
    have h5 := hw2.back hp2 hww (fun e0 he0 => by
     rcases List.mem_cons.1 he0 with rfl | he0
     ·rfl
     ·rcases List.mem_append.1 he0 with he0 | he0
      ·exact h3.w e0 he0
      ·simp only [List.mem_cons, List.not_mem_nil, or_false] at he0; rcases he0 with rfl | rfl | rfl <;> rfl) h4
    exact h5.perm (List.perm_append_comm (l₂ := ([⟨b, true, .row [.bool false] 4 (0, 0)⟩] : SH)))
   ·refine ⟨_, ?_, .inr ⟨tt, vv, h2, .inr ⟨rfl, h1, rfl⟩⟩⟩
    have h5 := hw2.back hp2 hww (fun e0 he0 => by simp only [List.mem_cons, List.not_mem_nil, or_false] at he0; rcases he0 with rfl | rfl | rfl <;> rfl) h3
    exact h5.perm (List.perm_append_comm (l₂ := ([⟨b, true, .row [.bool false] 4 (0, 0)⟩] : SH)))
  rintro v H2 ⟨t1, rfl, hJ⟩
  refine G.nil ?_
  refine GC.cond rfl (fun h16 => ?_) (fun h16 => ?_)
  ·refine GC.seq ?_
   obtain ⟨_, hres0, rfl⟩ : t1 = true ∧ res = none ∧ H2 = [⟨ca, true, .row [Pt tb 0] 63 (0, 0)⟩, ⟨cb, true, .row [S (txt r)] 9 (0, 0)⟩, ⟨cc, true, .row [I (k : Nat)] 3 (0, 0)⟩] := by
    rcases hJ with ⟨h, _⟩ | h
    ·rw [h16] at h; cases h
    ·exact h
   refine GC.regQ mixed (by kernel_rfl) ?_
   refine GQ.v (V.ld (b := ca) (off := 0) (wf := true) (l := [Pt tb 0]) (T := 63) (fz := (0, 0)) (v := Pt tb 0) Tryd.isAgg63 rfl (by simp) rfl) rfl ?_
   refine GQ.v (V.ld (b := cc) (off := 0) (wf := true) (l := [I (k : Nat)]) (T := 3) (fz := (0, 0)) (v := I (k : Nat)) Tryd.isAgg3 rfl (by simp) rfl) rfl ?_
   refine GQ.v (V.asg rfl) rfl ?_
   refine GQ.v (V.asg rfl) rfl ?_
   refine GQ.nil ?_
   refine GC.ret2 rfl rfl rfl fun w' hw' => .inr ⟨k, tb, ?_, rfl, hw'.sub (List.nil_sublist _)⟩
   rw [hadd, hdrop]
   simp only [addAll, hres, hres0]
  refine GC.skip ?_
  refine GC.inBlock ?_
  obtain ⟨_, t', Hn', hres1, ht', rfl⟩ : t1 = false ∧ ∃ t' Hn', res = some t' ∧ HT t' nb Hn' ∧ H2 = ⟨tb, true, .row (treeR nb (max (mxP (rs.take k)) ((txt r).count 58 + (txt r).count 42)) (max (mxS (rs.take k)) ((txt r).count 47))) 86 (0, 0)⟩ :: (Hn' ++ [⟨ca, true, .row [Pt tb 0] 63 (0, 0)⟩, ⟨cb, true, .row [S (txt r)] 9 (0, 0)⟩, ⟨cc, true, .row [I (k : Nat)] 3 (0, 0)⟩]) := by
   rcases hJ with h | ⟨h, _⟩
   ·exact h
   ·rw [h16] at h; cases h
  refine GC.reg ?_
  refine G.v (V.addI (r := ((k + 1 : Nat) : Int)) rfl rfl rfl (by omega) (by omega)) rfl ?_
  refine G.m1 ?_
  refine G.nil ?_
  have hap : Ap f r := Classical.byContradiction fun h => by
   have := (add_ok hts (hg r hrm) (k + 1)).2 h
   rw [hres, hres1] at this; cases this
  obtain ⟨t2, h5, h6⟩ := (add_ok hts (hg r hrm) (k + 1)).1 hap
  rw [hres, hres1] at h5
  cases h5
  refine GC.turn (H' := ⟨ca, true, .row [Pt tb 0] 63 (0, 0)⟩ :: ⟨tb, true, .row (treeR nb (mxP (rs.take (k + 1))) (mxS (rs.take (k + 1)))) 86 (0, 0)⟩ :: Hn') (fun w1 hw1 => ?_) (ih (N - 1) _ _ (by omega) ⟨k + 1, t', _, Hn', by omega, ?_, h6, hbd.upd (by have := hl r hrm; omega) _, ht', .of rfl, rfl⟩)
  ·rw [mxP_snoc hrk, mxS_snoc hrk]
   have p1 := perm_idx [[⟨tb, true, .row (treeR nb (max (mxP (rs.take k)) ((txt r).count 58 + (txt r).count 42)) (max (mxS (rs.take k)) ((txt r).count 47))) 86 (0, 0)⟩], Hn', [⟨ca, true, .row [Pt tb 0] 63 (0, 0)⟩], [⟨cb, true, .row [S (txt r)] 9 (0, 0)⟩], [⟨cc, true, .row [I (k : Nat)] 3 (0, 0)⟩]] [0, 1, 2, 3, 4] [3, 4, 2, 0, 1] (by decide)
   have h7 := hw1.perm (H' := [⟨cb, true, .row [S (txt r)] 9 (0, 0)⟩, ⟨cc, true, .row [I (k : Nat)] 3 (0, 0)⟩] ++ (⟨ca, true, .row [Pt tb 0] 63 (0, 0)⟩ :: ⟨tb, true, .row (treeR nb (max (mxP (rs.take k)) ((txt r).count 58 + (txt r).count 42)) (max (mxS (rs.take k)) ((txt r).count 47))) 86 (0, 0)⟩ :: Hn')) (by simpa using p1)
   exact h7.sub (List.sublist_append_right _ _)
  ·rw [hadd, hdrop]
   simp only [addAll, hres, hres1]
 refine GC.exit rfl ?_
 refine GC.seq ?_
 have hke : k = rs.length := by omega
 subst hke
 rw [List.drop_length] at hadd
 rw [List.take_length]
 refine GC.reg ?_
 refine G.v (V.ld (b := ca) (off := 0) (wf := true) (l := [Pt tb 0]) (T := 63) (fz := (0, 0)) (v := Pt tb 0) Tryd.isAgg63 rfl (by simp) rfl) rfl ?_
 refine G.m2 ?_
 refine G.m2 ?_
 refine G.nil ?_
 exact GC.ret2 rfl rfl rfl fun w' hw' => .inl ⟨t, tb, nb, Hn, hadd, rfl, ht, hw'.sub (List.sublist_cons_self _ _)⟩
theorem Txts.old {w w1 : World} {sv : Value} {l : List (List UInt8)} {H : SH} (h : Txts w sv l) (hw : HF w (fun _ => False) H w1) : Txts w1 sv l := by
 obtain ⟨ad, cp, rfl, hc⟩ := h
 refine ⟨ad, cp, rfl, fun j p hj => ?_⟩
 obtain ⟨b, o, e, h1⟩ := hc j p hj
 exact ⟨b, o, e, hw.cellOld h1 id⟩
end Go.Proofs

/- More rules: a text put behind no bytes; bytes read as a text. No program in sight. -/
set_option maxRecDepth 20000
namespace Bw
open Go Go.Proofs
variable {P : Program} {c : Cx} {n : Nat} {k : List Item} {fr : SF} {H : SH} {ops : Array Oper} {rest : List Oper} {ty t : TypeId} {pos : String} {aft : Array Edge}
end Bw

/- More rules: structs within rows, rows made, results in memory. No program in sight. -/
set_option maxRecDepth 20000
namespace Bw
open Go Go.Proofs
variable {P : Program} {c : Cx} {n : Nat} {k : List Item} {fr : SF} {H : SH} {ops : Array Oper} {rest : List Oper} {ty t : TypeId} {pos : String} {aft : Array Edge}
theorem GC.retC {b s t : Nat} {T T2 : TypeId} {fz : Nat × Nat} {wf : Bool} {cs : List Value} (hr : c.fn.results = #[.cell t T]) (hA : ∀ w, (isAgg T).run P w = .ok true w) (hs : ∀ w, (Go.sizeOf T).run P w = .ok s w)
  (hv : Bw.look t fr = some (Pt b 0)) (hm : ⟨b, wf, .row cs T2 fz⟩ ∈ H) (hl : cs.length = s) (hR : ∀ w, HF c.w0 c.D H w → c.R (.returned (.agg cs.toArray)) w) : GC P c n (.code .ret :: k) fr H := by
 refine GC.retR (fun a w ha hw => ?_) hR
 have hc : ∀ j v, cs[j]? = some v → w.cell? ((⟨b, 0, none⟩ : Addr).add j) = some v := by
  intro j v hj
  have h2 := cell_row hw hm (off := j) (v := v) (by rw [nth_eq]; exact hj)
  by_cases h0 : j = 0
  ·subst h0; simpa [Addr.add] using h2
  ·simpa [Addr.add, h0] using h2
 have hrun := run_loadCells_list (P := P) (w := w) ⟨b, 0, none⟩ cs hc
 have h1 := ha.at_ t _ hv
 simp [results, hr, h1, loadVar, hA, hs, ← hl, hrun, asAddr]
/-- make([]T, l, z) -/
theorem G.ms {T e s by_ : Nat} {i : TypeInfo} {zv : Value} {x y : Operand} {d : Nat} {kl kc : IntKind} {l z : Nat} (hT : P.underlying T = some (.slice e)) (hi : P.info? e = some i) (hz : i.zero = some zv) (hsz : i.size = s) (hby : i.bytes = by_)
  (hx : ev fr x = some (.int kl (l : Int))) (hy : ev fr y = some (.int kc (z : Int))) (hl : l ≤ z) (hbd : by_ * z ≤ 281474976710656) (h63 : z ≤ 9223372036854775807) (hd : Nat.blt d n = true)
  (hk : ∀ b row, c.w0.heap.size ≤ b → row.length = z * s → G P c n k ops rest ((d, .slice (some ⟨b, 0, none⟩) l z) :: fr) (⟨b, true, .row row e (0, 0)⟩ :: H)) :
  G P c n k ops (⟨some d, .makeSlice T x y, ty, pos, aft, none⟩ :: rest) fr H := by
 intro hf a w ha hw
 subst hsz hby
 refine wpList_step fun K hK => ?_
 simp only [Region.wanted, if_true, Oper.wp]
 have hr := run_make (P := P) w T e i zv hT hi hz kl kc (l : Int) (z : Int) (by omega) (by omega) (by rw [← Int.natCast_mul]; omega) (by omega)
 rw [Int.toNat_natCast, Int.toNat_natCast] at hr
 have hex : (execOp a.eval ⟨some d, .makeSlice T x y, ty, pos, aft, none⟩).run P w = .ok (.value (.slice (some ⟨w.heap.size, 0, none⟩) l z)) (w.alloc (.cells (madeCells zv.cells (z * i.size)) e)) := by
  simp only [execOp, ha.eval hx, ha.eval hy, Sem.run_bind]
  rw [hr]
  rfl
 rw [hex]
 simp only [Oper.upon]
 have hp := hw.push (.row (madeCells zv.cells (z * i.size)).toList e (0, 0))
 exact hK _ _ (hk w.heap.size (madeCells zv.cells (z * i.size)).toList hw.size (by simp [madeCells]) hf _ _ (ha.put hd _) hp)
end Bw
