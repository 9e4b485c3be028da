/- The law FnGinOrder holds for every input: the order in which routes are added plays no part: a path finds the same route with the same parameters. -/
import Derived.Test.YtnopecnbpflodaaSa
import Derived.Test.YtnopecnbpflodaaKa
import Derived.Test.YtnopecnbpflodaaPq
import Derived.Test.YtnopecnbpflodaaRowb
/- FnGinFind. Printed by wip/mk_gs2x.py. -/
set_option maxRecDepth 20000
namespace Go.Proofs
open Go Bw
open Gt
theorem Prms.none (w : World) : Prms w (.slice none 0 0) [] := ⟨_, _, rfl, fun j x h => by simp at h⟩
theorem cells_of {w0 w : World} {D : Nat → Prop} {H : SH} (hw : HF w0 D H w) {b : Nat} {wf : Bool} {l : List Value} {T : TypeId} {fz : Nat × Nat} (off : Nat) (cs : List Value) (hm : (⟨b, wf, .row l T fz⟩ : Ent) ∈ H) (hc : ∀ (j : Nat) v, cs[j]? = some v → l[off + j]? = some v) : ∀ (j : Nat) v, cs[j]? = some v → w.cell? ⟨b, off + j, none⟩ = some v := fun j v hj =>
 cell_row hw hm (by rw [nth_eq]; exact hc j v hj)
theorem fnd_at (r : Res) (pa : Value) (sp : List Value) (j : Nat) (v : Value) (h : (fndV r pa)[j]? = some v) : (fndV r pa ++ sp)[0 + 0 * 4 + j]? = some v := by
 have hl := (List.getElem?_eq_some_iff.1 h).1
 have e : 0 + 0 * 4 + j = j := by omega
 rw [e, List.getElem?_append_left hl]; exact h
end Go.Proofs

/- FnGinMany. Printed by wip/mk_gs3x.py. -/
set_option maxRecDepth 20000
namespace Go.Proofs
open Go Bw
open Gt
theorem Fnds.at {rr : List Res} {cells : List Value} {Hq : SH} (h : Fnds rr cells Hq) : cells.length = rr.length * 4 ∧ ∀ (j : Nat) r, rr[j]? = some r → ∃ pa Ha, Own 32 2 pa r.ps.length (flatP r.ps) Ha ∧ (∀ x ∈ Ha, x ∈ Hq) ∧ ∀ (k : Nat) v, (fndV r pa)[k]? = some v → cells[j * 4 + k]? = some v := by
 induction h with
 | nil => exact ⟨rfl, fun j r hj => by simp at hj⟩
 | @snoc rs cells H Hq r pv h ho ih =>
  obtain ⟨h1, h2⟩ := ih
  have hf : (fndV r pv).length = 4 := rfl
  refine ⟨by rw [List.length_append, List.length_append, h1, hf, List.length_singleton]; omega, fun j x hj => ?_⟩
  by_cases hl : j < rs.length
  ·rw [List.getElem?_append_left hl] at hj
   obtain ⟨pa, Ha, h3, h4, h5⟩ := h2 j x hj
   refine ⟨pa, Ha, h3, fun y hy => List.mem_append_left _ (h4 y hy), fun k v hk => ?_⟩
   have h6 := h5 k v hk
   rw [List.getElem?_append_left (List.getElem?_eq_some_iff.1 h6).1]; exact h6
  ·rw [List.getElem?_append_right (by omega)] at hj
   have hj0 : j - rs.length = 0 := by
    have := (List.getElem?_eq_some_iff.1 hj).1
    rw [List.length_singleton] at this; omega
   rw [hj0] at hj
   cases hj
   refine ⟨pv, Hq, ho, fun y hy => List.mem_append_right _ hy, fun k v hk => ?_⟩
   have e : j * 4 + k = cells.length + k := by rw [h1]; omega
   rw [e, List.getElem?_append_right (by omega), Nat.add_sub_cancel_left]; exact hk
end Go.Proofs

/- A path that is made of a route and values. No program in sight. -/
namespace Gt
open Gs Tr
/-- a value that a parameter may have -/
def okV (v : List UInt8) : Prop := v ≠ [] ∧ v.length ≤ 20 ∧ (47 : UInt8) ∉ v
instance (v : List UInt8) : Decidable (okV v) := inferInstanceAs (Decidable (_ ∧ _ ∧ _))
end Gt

/- A table without one of its routes. No program in sight. -/
namespace Gt
open Gs Tr
theorem TableN_iff {l : List (List Prt)} : TableN l ↔ (∀ a ∈ l, Clean a) ∧ l.Pairwise (fun b a => ApartN (tks a) (tks b)) := by
  constructor
  · intro h
    refine ⟨h.clean, List.pairwise_iff_getElem.2 fun i j hi hj hij => ?_⟩
    exact (h j _ (List.getElem?_eq_getElem hj)).2 _ (List.mem_take_iff_getElem.2 ⟨i, by omega, rfl⟩)
  · rintro ⟨h1, h2⟩ i a hi
    refine ⟨h1 a (List.mem_of_getElem? hi), fun b hb => ?_⟩
    obtain ⟨j, hj, rfl⟩ := List.mem_take_iff_getElem.1 hb
    obtain ⟨hi1, hi2⟩ := List.getElem?_eq_some_iff.1 hi
    have := List.pairwise_iff_getElem.1 h2 j i (by omega) hi1 (by omega)
    rwa [hi2] at this
theorem TableN.sub {l l' : List (List Prt)} (h : TableN l) (hs : l'.Sublist l) : TableN l' := by
  obtain ⟨h1, h2⟩ := TableN_iff.1 h
  exact TableN_iff.2 ⟨fun a ha => h1 a (hs.subset ha), h2.sublist hs⟩
end Gt

/- slices.Clone and slices.Delete at rows. Printed by wip/mk_gs5x.py. -/
set_option maxRecDepth 20000
namespace Go.Proofs
open Go Bw
open Gt
section
variable {P : Program} {c : Cx} {n : Nat} {k : List Item} {fr : SF} {H : SH} {ops : Array Oper} {rest : List Oper} {ty t e : TypeId} {pos : String} {aft : Array Edge}
end
/-- a slice's cells -/
def Cel (w : World) (sv : Value) (xs : List Value) : Prop := ∃ ad cp, sv = .slice ad xs.length cp ∧ xs.length ≤ cp ∧ ∀ (j : Nat) u, xs[j]? = some u → ∃ b o, ad = some ⟨b, o, none⟩ ∧ w.cell? ⟨b, o + j, none⟩ = some u
theorem Cel.old {w w1 : World} {sv : Value} {xs : List Value} {H : SH} (h : Cel w sv xs) (hw : HF w (fun _ => False) H w1) : Cel w1 sv xs := by
 obtain ⟨ad, cp, rfl, hl, hc⟩ := h
 refine ⟨ad, cp, rfl, hl, fun j u hj => ?_⟩
 obtain ⟨b, o, e, h1⟩ := hc j u hj
 exact ⟨b, o, e, hw.cellOld h1 id⟩
end Go.Proofs

/- FnGinLess. Printed by wip/mk_gs6x.py. -/
set_option maxRecDepth 20000
namespace Go.Proofs
open Go Bw
open Gt
theorem eqS_true {P : Program} {c : Cx} {n : Nat} {op : Op} {ty : TypeId} {fr : SF} {H : SH} {i j : List UInt8} (h : i = j) (hv : Val P c n op ty fr H (.bool (decide (i = j)))) : Val P c n op ty fr H (.bool true) := by rw [decide_eq_true h] at hv; exact hv
end Go.Proofs

/- Two trees of one table find the same: the order of the routes plays no part. No program in sight. -/
namespace Gt
open Gs Tr
/-- the same routes, with the same texts -/
def EqF (f f' : F) : Prop := ∀ s, (f s).map (·.2) = (f' s).map (·.2)
theorem EqF.none {f f' : F} (h : EqF f f') {s : List Tok} : f s = none ↔ f' s = none := by
  have := h s
  cases h1 : f s <;> cases h2 : f' s <;> simp_all
theorem EqF.some {f f' : F} (h : EqF f f') {s : List Tok} {v} (hs : f s = some v) : ∃ k, f' s = some (k, v.2) := by
  have := h s
  rw [hs] at this
  cases h2 : f' s with
  | none => rw [h2] at this; cases this
  | some w => rw [h2] at this; cases w; simp at this; rw [this]; exact ⟨_, rfl⟩
theorem EqF.symm {f f' : F} (h : EqF f f') : EqF f' f := fun s => (h s).symm
/-- what is told is the same, but for the number and the recommendation -/
def Like (r r' : Res) : Prop := r.h.isSome = r'.h.isSome ∧ r.ps = r'.ps ∧ r.full = r'.full
section
variable (u : List UInt8 → List UInt8) (cP cS : Nat) (rec : T0 → List UInt8 → Vs → List Sk → Option Res)
def popK (o : Option (Option (Sk × List Sk))) (ps : Vs) (fin : Option Res) : Option Res := match o with
  | some (some (s, sk')) => rec s.node s.path (ps.take s.cnt) sk'
  | some none => fin
  | none => none
def wildK (kids : List T0) (p : List UInt8) (ps : Vs) (sk : List Sk) : Option Res := match kids[kids.length - 1]? with
  | none => none
  | some k =>
    if ¬ ps.length < cP ∨ k.path.length < 2 then none
    else if k.nt = 2 then
      if (p.takeWhile (· ≠ 47)).length < p.length then
        match k.kids with
        | c :: _ => rec c (p.drop (p.takeWhile (· ≠ 47)).length) (ps ++ [(k.path.drop 1, u (p.takeWhile (· ≠ 47)))]) sk
        | [] => some ⟨none, ps ++ [(k.path.drop 1, u (p.takeWhile (· ≠ 47)))], decide (p.length = (p.takeWhile (· ≠ 47)).length + 1), []⟩
      else if k.h.isSome then some ⟨k.h, ps ++ [(k.path.drop 1, u (p.takeWhile (· ≠ 47)))], false, k.full⟩
      else match k.kids with
      | [c] => some ⟨none, ps ++ [(k.path.drop 1, u (p.takeWhile (· ≠ 47)))], (decide (c.path = [47]) && c.h.isSome) || (decide (c.path = []) && decide (c.idx = [47])), []⟩
      | _ => some ⟨none, ps ++ [(k.path.drop 1, u (p.takeWhile (· ≠ 47)))], false, []⟩
    else if k.nt = 3 then some ⟨k.h, ps ++ [(k.path.drop 2, u p)], false, k.full⟩
    else none
def endK (idx : List UInt8) (wild : Bool) (nt : Nat) (h : Option Nat) (full : List UInt8) (kids : List T0) (p : List UInt8) (ps : Vs) : Option Res :=
  if h.isSome then some ⟨h, ps, false, full⟩
  else if p = [47] ∧ wild = true ∧ nt ≠ 1 then some ⟨none, ps, true, []⟩
  else if p = [47] ∧ nt = 0 then some ⟨none, ps, true, []⟩
  else match idxOf 47 idx with
  | some i =>
    match kids[i]? with
    | some k => (if k.nt = 3 ∧ k.kids = [] then none else some ⟨none, ps, (decide (k.path.length = 1) && k.h.isSome) || (decide (k.nt = 3) && ((k.kids.head?).map (·.h.isSome)).getD false), []⟩)
    | none => none
  | none => some ⟨none, ps, false, []⟩
def nodeK (P idx : List UInt8) (wild : Bool) (nt : Nat) (h : Option Nat) (full : List UInt8) (kids : List T0) (nd : T0) (p : List UInt8) (ps : Vs) (sk : List Sk) : Option Res :=
  if P.length < p.length ∧ p.take P.length = P then
    match idxOf ((p.drop P.length).headD 0) idx with
    | some i =>
      match kids[i]? with
      | some k => if wild then (if sk.length < cS then rec k (p.drop P.length) ps (⟨p, nd, ps.length⟩ :: sk) else none) else rec k (p.drop P.length) ps sk
      | none => none
    | none =>
      if wild = false then popK rec (if p.drop P.length ≠ [47] then popC (p.drop P.length) ps.length sk else some none) ps (some ⟨none, ps, decide (p.drop P.length = [47]) && h.isSome, []⟩)
      else wildK u cP rec kids (p.drop P.length) ps sk
  else if p = P then popK rec (if h.isNone ∧ p ≠ [47] then popC p ps.length sk else some none) ps (endK idx wild nt h full kids p ps)
  else popK rec (if (decide (p = [47]) || (decide (P = p ++ [47]) && h.isSome)) = false then popC p ps.length sk else some none) ps (some ⟨none, ps, decide (p = [47]) || (decide (P = p ++ [47]) && h.isSome), []⟩)
end
theorem getC_node (u : List UInt8 → List UInt8) (cP cS f : Nat) (P idx : List UInt8) (wild : Bool) (nt pr : Nat) (h : Option Nat) (full : List UInt8) (kids : List T0) (p : List UInt8) (ps : Vs) (sk : List Sk) :
    getC u cP cS (f + 1) (.node () P idx wild nt pr h full kids) p ps sk = nodeK u cP cS (getC u cP cS f) P idx wild nt h full kids (.node () P [] wild nt pr h full kids) p ps sk := by
  rw [getC]
  unfold nodeK
  by_cases c1 : P.length < p.length ∧ p.take P.length = P
  · rw [if_pos c1]
    refine (if_pos c1).trans ?_
    show (match idxOf ((p.drop P.length).headD 0) idx with | some i => _ | none => _) = _
    cases idxOf ((p.drop P.length).headD 0) idx with
    | some i => rfl
    | none =>
      cases wild with
      | false => rfl
      | true => 
        show (match kids[kids.length - 1]? with | none => _ | some k => _) = wildK u cP (getC u cP cS f) kids _ ps sk
        unfold wildK
        cases kids[kids.length - 1]? with
        | none => rfl
        | some k => rfl
  · rw [if_neg c1]
    refine (if_neg c1).trans ?_
    by_cases c2 : p = P
    · rw [if_pos c2]
      refine (if_pos c2).trans ?_
      unfold popK
      generalize hX : (if h.isNone = true ∧ p ≠ [47] then popC p ps.length sk else some none) = X
      show (match (if h.isNone = true ∧ p ≠ [47] then popC p ps.length sk else some none) with | some (some (s, sk')) => _ | none => _ | some none => _) = _
      rw [hX]
      rcases X with _ | _ | ⟨s, sk'⟩
      · rfl
      · show (if h.isSome = true then _ else _) = endK idx wild nt h full kids p ps
        unfold endK
        by_cases g1 : h.isSome = true
        · rw [if_pos g1, if_pos g1]; rfl
        · rw [if_neg g1, if_neg g1]
          rfl
      · rfl
    · rw [if_neg c2]
      refine (if_neg c2).trans ?_
      rfl
end Gt

/- Two trees of one table find the same. No program in sight. -/
namespace Gt
open Gs Tr
section
variable {P idx full P' idx' full' : List UInt8} {wild wild' : Bool} {nt nt' : Nat} {h h' : Option Nat} {kids kids' : List T0} {f f' : F}
theorem no_longer {d : UInt8} {e : List UInt8} (x : St true P idx wild nt h full kids f) (eq : EqF f f') (hpre : ∀ s v, f' s = some v → ∃ r, s = bs (P ++ d :: e) ++ r) (hA : ∀ m s, f' (bs (P ++ d :: e) ++ .A m :: s) = none) : False := by
  have key : ∀ s v, f s = some v → ∃ r, s = bs P ++ .b d :: (bs e ++ r) := fun s v hs => by
    obtain ⟨k, hk⟩ := eq.some hs
    obtain ⟨r, rfl⟩ := hpre _ _ hk
    exact ⟨r, by rw [bs_app]; simp [bs]⟩
  rcases x.hmin rfl with h1 | h1 | h1 | ⟨k, h1, h2, h3⟩
  · obtain ⟨k, hk⟩ := Option.isSome_iff_exists.1 h1
    have := x.hh
    rw [hk] at this
    obtain ⟨r, e1⟩ := key _ _ this
    exact nil_ne _ e1
  · obtain ⟨wn, wk, _, _, _, _, ⟨s, v, h5⟩, _⟩ := x.hw h1
    obtain ⟨r, e1⟩ := key _ _ h5
    have := bs_cancel e1
    cases this
  · obtain ⟨a, b, l, rfl⟩ : ∃ a b l, idx = a :: b :: l := by
      match idx, h1 with
      | a :: b :: l, _ => exact ⟨a, b, l, rfl⟩
    obtain ⟨s, v, h5⟩ := x.hne a (.head _)
    obtain ⟨s2, v2, h6⟩ := x.hne b (.tail _ (.head _))
    obtain ⟨r, e1⟩ := key _ _ h5
    obtain ⟨r2, e2⟩ := key _ _ h6
    have g1 := bs_cancel e1
    have g2 := bs_cancel e2
    simp at g1 g2
    have := x.hnd
    rw [g1.1, g2.1] at this
    simp at this
  · subst h1 h2
    have hr := x.hk 0 47 k rfl rfl
    have hv : ∃ n v, f (bs P ++ [.b 47, .A n]) = some v := by
      generalize hf : at_ f P 47 = f2 at hr
      cases hr with
      | st wn wk hp hnt => simp only [n_nt] at h3; omega
      | pa => cases h3
      | pk => cases h3
      | @ca _ _ _ num _ full2 n hn =>
        have e1 : at_ f P 47 [.b 47, .A n] = some (num, full2) := by rw [hf]; exact one_self _ _
        exact ⟨n, _, e1⟩
    obtain ⟨n, v, hv⟩ := hv
    obtain ⟨k2, hk2⟩ := eq.some hv
    obtain ⟨r, e1⟩ := key _ _ hv
    have g1 := bs_cancel e1
    simp at g1
    obtain ⟨rfl, g2⟩ := g1
    cases e with
    | cons a e => simp [bs] at g2
    | nil =>
      have := hA n []
      rw [show bs (P ++ [47]) ++ [.A n] = bs P ++ [.b 47, .A n] from by rw [bs_app]; simp [bs], hk2] at this
      cases this
theorem shape_path (x : St true P idx wild nt h full kids f) (x' : St true P' idx' wild' nt' h' full' kids' f') (eq : EqF f f') (ne : ∃ s v, f s = some v) : P = P' := by
  obtain ⟨s, v, hs⟩ := ne
  obtain ⟨k, hs'⟩ := eq.some hs
  obtain ⟨r, e1⟩ := x.hpre _ _ hs
  obtain ⟨r', e2⟩ := x'.hpre _ _ hs'
  have e3 : bs P ++ r = bs P' ++ r' := e1.symm.trans e2
  have hsub : ∀ (A B : List UInt8) (ra rb : List Tok), bs A ++ ra = bs B ++ rb → A.length ≤ B.length → ∃ t, B = A ++ t := by
    intro A
    induction A with
    | nil => exact fun B _ _ _ _ => ⟨B, rfl⟩
    | cons a A ih =>
      intro B ra rb he hl
      cases B with
      | nil => simp at hl
      | cons b B =>
        simp [bs] at he
        obtain ⟨t, ht⟩ := ih B ra rb (by simpa [bs] using he.2) (by simpa using hl)
        exact ⟨t, by rw [he.1, ht]; rfl⟩
  rcases Nat.le_total P.length P'.length with hl | hl
  · obtain ⟨t, ht⟩ := hsub _ _ _ _ e3 hl
    cases t with
    | nil => rw [ht, List.append_nil]
    | cons d t =>
      subst ht
      exact (no_longer x eq x'.hpre x'.hA).elim
  · obtain ⟨t, ht⟩ := hsub _ _ _ _ e3.symm hl
    cases t with
    | nil => rw [ht, List.append_nil]
    | cons d t =>
      subst ht
      exact (no_longer x' eq.symm x.hpre x.hA).elim
theorem shape_idx (x : St true P idx wild nt h full kids f) (x' : St true P idx' wild' nt' h' full' kids' f') (eq : EqF f f') (c : UInt8) : c ∈ idx → c ∈ idx' := fun hc => by
  obtain ⟨s, v, hs⟩ := x.hne c hc
  obtain ⟨k, hs'⟩ := eq.some hs
  exact Classical.byContradiction fun hn => by rw [x'.hno c hn] at hs'; cases hs'
theorem shape_wild (x : St true P idx wild nt h full kids f) (x' : St true P idx' wild' nt' h' full' kids' f') (eq : EqF f f') : wild = true → wild' = true := fun hw => by
  obtain ⟨wn, wk, _, _, _, _, ⟨s, v, hs⟩, _⟩ := x.hw hw
  obtain ⟨k, hs'⟩ := eq.some hs
  cases hw' : wild' with
  | true => rfl
  | false => rw [x'.hnw hw'] at hs'; cases hs'
theorem shape_h (x : St true P idx wild nt h full kids f) (x' : St true P idx' wild' nt' h' full' kids' f') (eq : EqF f f') : h.isSome = h'.isSome ∧ (h.isSome = true → full = full') := by
  have := eq (bs P)
  rw [x.hh, x'.hh] at this
  cases h <;> cases h' <;> simp_all
end
/-- wildcards' nodes of one kind -/
def WS (wk wk' : T0) : Prop := ∃ fw fw' wn, EqF fw fw' ∧ Rep true wk fw ∧ Rep true wk' fw' ∧ wk.nt = 2 ∧ wk'.nt = 2 ∧ wk.path = 58 :: wn ∧ wk'.path = 58 :: wn
theorem shape_wk {P idx full idx' full' : List UInt8} {nt nt' : Nat} {h h' : Option Nat} {kids kids' : List T0} {f f' : F} (x : St true P idx true nt h full kids f) (x' : St true P idx' true nt' h' full' kids' f') (eq : EqF f f') : ∃ wk wk', kids[kids.length - 1]? = some wk ∧ kids'[kids'.length - 1]? = some wk' ∧ WS wk wk' := by
  obtain ⟨wn, wk, h1, h2, h3, h4, ⟨s, v, h5⟩, h6, h7⟩ := x.hw rfl
  obtain ⟨wn', wk', g1, g2, g3, g4, g5, g6, g7⟩ := x'.hw rfl
  have hn : wn = wn' := Classical.byContradiction fun hne => by
    obtain ⟨k, hk⟩ := eq.some h5
    rw [g6 wn hne] at hk; cases hk
  subst hn
  have l1 := x.hlen
  have l2 := x'.hlen
  simp at l1 l2
  exact ⟨wk, wk', by rw [l1, Nat.add_sub_cancel]; exact h1, by rw [l2, Nat.add_sub_cancel]; exact g1, _, _, wn, fun s => eq _, h7, g7, h3, g3, h4, g4⟩
/-- what is kept, of one kind -/
def ES (e e' : Sk) : Prop := e.path = e'.path ∧ e.cnt = e'.cnt ∧ ∃ P c q nt pr h full kids nt' pr' h' full' kids' wk wk', e.node = .node () P [] true nt pr h full kids ∧ e'.node = .node () P [] true nt' pr' h' full' kids' ∧ e.path = P ++ c :: q ∧ kids[kids.length - 1]? = some wk ∧ kids'[kids'.length - 1]? = some wk' ∧ WS wk wk'
inductive SS : List Sk → List Sk → Prop
  | nil : SS [] []
  | cons {e e' : Sk} {l l' : List Sk} (h : ES e e') (t : SS l l') : SS (e :: l) (e' :: l')
theorem SS.len {l l' : List Sk} (h : SS l l') : l.length = l'.length := by
  induction h with
  | nil => rfl
  | cons _ _ ih => simp [ih]
/-- nodes of one kind -/
def NS (n n' : T0) (p : List UInt8) : Prop := ∃ f f', EqF f f' ∧ (∃ s v, f s = some v) ∧ Rep true n f ∧ Rep true n' f' ∧ n.nt ≠ 2 ∧ n'.nt ≠ 2 ∧ ∃ c q, p = c :: q ∧ ∀ s v, f s = some v → ∃ r, s = .b c :: r
section
variable {u : List UInt8 → List UInt8} {cP cS : Nat}
/-- a catch-all's node, or one ahead of it -/
theorem caRun : ∀ {g : Nat} {n : T0} {f : F} {p : List UInt8} {ps : Vs} {sk : List Sk} {r : Res} {m : List UInt8} {v : Nat × List UInt8} {q : List UInt8}, Rep true n f → n.nt ≠ 2 → (∀ s w, f s = some w → s = [.b 47, .A m]) → f [.b 47, .A m] = some v → p = 47 :: q → getC u cP cS g n p ps sk = some r → r.h.isSome = true ∧ r.ps = ps ++ [(m, u p)] ∧ r.full = v.2
  | 0, _, _, _, _, _, _, _, _, _, _, _, _, _, _, h => by cases h
  | g + 1, n, f, p, ps, sk, r, m, v, q, rep, hnt, hs, hv, hp, h => by
    have rep0 := rep
    cases rep with
    | pa => exact absurd rfl hnt
    | pk => exact absurd rfl hnt
    | @ca _ pr pr2 num full full2 n hn =>
      have e1 := hs _ _ (one_self _ _)
      simp at e1
      subst e1
      rw [one_self] at hv
      cases hv
      subst hp
      by_cases hr : ps.length < cP
      · rw [get_ca hr] at h
        cases h
        exact ⟨rfl, rfl, rfl⟩
      · exfalso
        rw [getC_node, nodeK, if_pos ⟨by simp, by simp⟩] at h
        have : wildK u cP (getC u cP cS g) [.node () (47 :: 42 :: n) [] false 3 pr2 (some num) full2 []] (47 :: q) ps sk = some r := h
        rw [wildK] at this
        have h2 : (if ¬ ps.length < cP ∨ (47 :: 42 :: n).length < 2 then none else _) = some r := this
        rw [if_pos (.inl hr)] at h2
        cases h2
    | st wn wk hpl hnt2 hpre hh hnd hpli hlen hk hkn hne hno hw hwr hnw hA hmin =>
      rename_i path idx wild nt pr h0 full kids
      have x := rep0.toSt hnt2
      have hp0 : path = [] := by
        obtain ⟨r0, e0⟩ := x.hpre _ _ hv
        cases hpath : path with
        | nil => rfl
        | cons d e =>
          subst hpath
          simp [bs] at e0
          obtain ⟨e1, e2⟩ := e0
          cases e with
          | cons a e => simp at e2
          | nil =>
            simp at e2
            have := x.hA m []
            subst e1
            rw [show bs [47] ++ [.A m] = [.b 47, .A m] from rfl, hv] at this
            cases this
      subst hp0
      obtain ⟨k, h1, h2, h3⟩ := x.head (c := 47) (fun s w hsw => ⟨[.A m], hs s w hsw⟩) rfl
      subst h1 h2
      have hwf : wild = false := by
        have := x.hlen
        cases wild <;> simp at this ⊢
      subst hp
      rw [get_idx (P := []) (p := 47 :: q) (c := 47) (q := q) (i := 0) (k := k) (kids := [k]) (idx := [47]) rfl rfl rfl hwf] at h
      refine caRun (f := at_ f [] 47) (x.hk 0 47 k rfl rfl) (by rw [h3]; decide) (fun s w hsw => ?_) ?_ rfl h
      · unfold at_ at hsw
        split at hsw
        · exact hs _ _ hsw
        · cases hsw
      · exact (if_pos rfl).trans hv
theorem simPop {p : List UInt8} {n : Nat} {sk sk' : List Sk} (h : SS sk sk') : (popC p n sk = none ∧ popC p n sk' = none) ∨ (popC p n sk = some none ∧ popC p n sk' = some none) ∨ ∃ e l e' l', popC p n sk = some (some (e, l)) ∧ popC p n sk' = some (some (e', l')) ∧ ES e e' ∧ SS l l' := by
  cases h with
  | nil => exact .inr (.inl ⟨rfl, rfl⟩)
  | @cons e e' l l' h t =>
    have h1 := h.1
    have h2 := h.2.1
    by_cases hc : p <:+ e.path ∧ e.cnt ≤ n
    · refine .inr (.inr ⟨e, l, e', l', if_pos hc, if_pos (by rw [← h1, ← h2]; exact hc), h, t⟩)
    · exact .inl ⟨if_neg hc, if_neg (by rw [← h1, ← h2]; exact hc)⟩
/-- what the run does below: at nodes; at what was kept -/
def SA (u : List UInt8 → List UInt8) (cP cS g : Nat) : Prop := ∀ n n' p ps sk sk' r, NS n n' p → SS sk sk' → getC u cP cS g n p ps sk = some r → ∀ g' r', getC u cP cS g' n' p ps sk' = some r' → Like r r'
def SB (u : List UInt8 → List UInt8) (cP cS g : Nat) : Prop := ∀ e e' ps sk sk' r, ES e e' → SS sk sk' → getC u cP cS g e.node e.path ps sk = some r → ∀ g' r', getC u cP cS g' e'.node e'.path ps sk' = some r' → Like r r'
theorem simWild {g g' : Nat} (ih : SA u cP cS g) {kids kids' : List T0} {wk wk' : T0} {p : List UInt8} {ps : Vs} {sk sk' : List Sk} {r r' : Res} (hl : kids[kids.length - 1]? = some wk) (hl' : kids'[kids'.length - 1]? = some wk') (hw : WS wk wk') (hsk : SS sk sk')
    (h : wildK u cP (getC u cP cS g) kids p ps sk = some r) (h' : wildK u cP (getC u cP cS g') kids' p ps sk' = some r') : Like r r' := by
  obtain ⟨fw, fw', wn, eq, rep, rep', hn, hn', hp, hp'⟩ := hw
  rw [wildK, hl] at h
  rw [wildK, hl'] at h'
  replace h : (if ¬ ps.length < cP ∨ wk.path.length < 2 then none
    else if wk.nt = 2 then
      if (p.takeWhile (· ≠ 47)).length < p.length then
        match wk.kids with
        | c :: _ => getC u cP cS g c (p.drop (p.takeWhile (· ≠ 47)).length) (ps ++ [(wk.path.drop 1, u (p.takeWhile (· ≠ 47)))]) sk
        | [] => some ⟨none, ps ++ [(wk.path.drop 1, u (p.takeWhile (· ≠ 47)))], decide (p.length = (p.takeWhile (· ≠ 47)).length + 1), []⟩
      else if wk.h.isSome then some ⟨wk.h, ps ++ [(wk.path.drop 1, u (p.takeWhile (· ≠ 47)))], false, wk.full⟩
      else match wk.kids with
      | [c] => some ⟨none, ps ++ [(wk.path.drop 1, u (p.takeWhile (· ≠ 47)))], (decide (c.path = [47]) && c.h.isSome) || (decide (c.path = []) && decide (c.idx = [47])), []⟩
      | _ => some ⟨none, ps ++ [(wk.path.drop 1, u (p.takeWhile (· ≠ 47)))], false, []⟩
    else if wk.nt = 3 then some ⟨wk.h, ps ++ [(wk.path.drop 2, u p)], false, wk.full⟩
    else none) = some r := h
  replace h' : (if ¬ ps.length < cP ∨ wk'.path.length < 2 then none
    else if wk'.nt = 2 then
      if (p.takeWhile (· ≠ 47)).length < p.length then
        match wk'.kids with
        | c :: _ => getC u cP cS g' c (p.drop (p.takeWhile (· ≠ 47)).length) (ps ++ [(wk'.path.drop 1, u (p.takeWhile (· ≠ 47)))]) sk'
        | [] => some ⟨none, ps ++ [(wk'.path.drop 1, u (p.takeWhile (· ≠ 47)))], decide (p.length = (p.takeWhile (· ≠ 47)).length + 1), []⟩
      else if wk'.h.isSome then some ⟨wk'.h, ps ++ [(wk'.path.drop 1, u (p.takeWhile (· ≠ 47)))], false, wk'.full⟩
      else match wk'.kids with
      | [c] => some ⟨none, ps ++ [(wk'.path.drop 1, u (p.takeWhile (· ≠ 47)))], (decide (c.path = [47]) && c.h.isSome) || (decide (c.path = []) && decide (c.idx = [47])), []⟩
      | _ => some ⟨none, ps ++ [(wk'.path.drop 1, u (p.takeWhile (· ≠ 47)))], false, []⟩
    else if wk'.nt = 3 then some ⟨wk'.h, ps ++ [(wk'.path.drop 2, u p)], false, wk'.full⟩
    else none) = some r' := h'
  rw [hp, hn] at h
  rw [hp', hn'] at h'
  by_cases hroom : ¬ ps.length < cP ∨ (58 :: wn).length < 2
  · rw [if_pos hroom] at h; cases h
  rw [if_neg hroom, if_pos rfl] at h
  rw [if_neg hroom, if_pos rfl] at h'
  -- what a node's end is
  have hend : wk.h.isSome = wk'.h.isSome ∧ (wk.h.isSome = true → wk.full = wk'.full) := by
    have e0 := eq []
    have key : ∀ {w : T0} {fx : F}, Rep true w fx → w.nt = 2 → fx [] = w.h.map fun k => (k, w.full) := fun hr hn => by
      cases hr with
      | st wn wk hp hnt => simp only [n_nt] at hn; omega
      | ca => cases hn
      | pa hh => exact hh
      | pk hh => exact hh
    rw [key rep hn, key rep' hn'] at e0
    cases h1 : wk.h <;> cases h2 : wk'.h <;> simp_all
  -- the node behind
  have hkid : (wk.kids = [] ∧ wk'.kids = []) ∨ ∃ k k', wk.kids = [k] ∧ wk'.kids = [k'] ∧ ∀ q, NS k k' (47 :: q) := by
    cases rep with
    | st wn wk hp hnt => simp only [n_nt] at hn; omega
    | ca => cases hn
    | pa hh hno =>
      cases rep' with
      | st wn wk hp hnt => simp only [n_nt] at hn'; omega
      | ca => cases hn'
      | pa hh' hno' => exact .inl ⟨rfl, rfl⟩
      | pk hh' hidx' hk' hkn' h47' hne' =>
        exfalso
        obtain ⟨s, v, hs, hv⟩ := hne'
        obtain ⟨k, hk⟩ := eq.symm.some hv
        rw [hno s hs] at hk; cases hk
    | pk hh hidx hk hkn h47 hne =>
      cases rep' with
      | st wn wk hp hnt => simp only [n_nt] at hn'; omega
      | ca => cases hn'
      | pa hh' hno' =>
        exfalso
        obtain ⟨s, v, hs, hv⟩ := hne
        obtain ⟨k, hk⟩ := eq.some hv
        rw [hno' s hs] at hk; cases hk
      | pk hh' hidx' hk' hkn' h47' hne' =>
        refine .inr ⟨_, _, rfl, rfl, fun q => ⟨_, _, fun s => ?_, ?_, hk, hk', by rw [hkn]; decide, by rw [hkn']; decide, 47, q, rfl, fun s v hv => ?_⟩⟩
        · show (if s = [] then none else fw s).map (·.2) = (if s = [] then none else fw' s).map (·.2)
          by_cases hs : s = []
          · rw [if_pos hs, if_pos hs]
          · rw [if_neg hs, if_neg hs]; exact eq s
        · obtain ⟨s, v, hs, hv⟩ := hne
          exact ⟨s, v, (if_neg hs).trans hv⟩
        · have hv2 : (if s = [] then none else fw s) = some v := hv
          split at hv2
          · cases hv2
          · rename_i hs1
            exact (h47 s v hv2).resolve_left hs1
  by_cases hlt : (p.takeWhile (· ≠ 47)).length < p.length
  · rw [if_pos hlt] at h h'
    rcases hkid with ⟨k1, k2⟩ | ⟨k, k', k1, k2, hns⟩
    · rw [k1] at h
      rw [k2] at h'
      cases h
      cases h'
      exact ⟨rfl, rfl, rfl⟩
    · rw [k1] at h
      rw [k2] at h'
      obtain ⟨t, ht⟩ := sl_drop (a := p) hlt
      have ht2 : p.drop (p.takeWhile (· ≠ 47)).length = 47 :: t := ht
      exact ih k k' _ _ sk sk' r (by rw [ht2]; exact hns t) hsk h g' r' h'
  · rw [if_neg hlt] at h h'
    by_cases hs : wk.h.isSome = true
    · rw [if_pos hs] at h
      rw [if_pos (by rw [← hend.1]; exact hs)] at h'
      cases h
      cases h'
      exact ⟨hend.1, rfl, hend.2 hs⟩
    · rw [if_neg hs] at h
      rw [if_neg (by rw [← hend.1]; exact hs)] at h'
      rcases hkid with ⟨k1, k2⟩ | ⟨k, k', k1, k2, _⟩
      · rw [k1] at h
        rw [k2] at h'
        cases h
        cases h'
        exact ⟨rfl, rfl, rfl⟩
      · rw [k1] at h
        rw [k2] at h'
        cases h
        cases h'
        exact ⟨rfl, rfl, rfl⟩
end
end Gt

/- Two trees of one table find the same: the whole run. No program in sight. -/
namespace Gt
open Gs Tr
section
variable {u : List UInt8 → List UInt8} {cP cS : Nat}
theorem endK_no {idx : List UInt8} {wild : Bool} {nt : Nat} {full : List UInt8} {kids : List T0} {p : List UInt8} {ps : Vs} {r : Res} (h : endK idx wild nt none full kids p ps = some r) : r.h = none ∧ r.ps = ps ∧ r.full = [] := by
  unfold endK at h
  rw [if_neg (by simp)] at h
  split at h
  · cases h; exact ⟨rfl, rfl, rfl⟩
  · split at h
    · cases h; exact ⟨rfl, rfl, rfl⟩
    · split at h
      · split at h
        · split at h
          · cases h
          · cases h; exact ⟨rfl, rfl, rfl⟩
        · cases h
      · cases h; exact ⟨rfl, rfl, rfl⟩
theorem simPopK {g g' : Nat} (ihB : SB u cP cS g) {p : List UInt8} {n : Nat} {ps : Vs} {sk sk' : List Sk} {fin fin' : Option Res} {r r' : Res} (hsk : SS sk sk') (hf : ∀ r r', fin = some r → fin' = some r' → Like r r')
    (h : popK (getC u cP cS g) (popC p n sk) ps fin = some r) (h' : popK (getC u cP cS g') (popC p n sk') ps fin' = some r') : Like r r' := by
  rcases simPop (p := p) (n := n) hsk with ⟨h1, h2⟩ | ⟨h1, h2⟩ | ⟨e, l, e', l', h1, h2, h3, h4⟩
  · rw [h1] at h; cases h
  · rw [h1] at h
    rw [h2] at h'
    exact hf r r' h h'
  · rw [h1] at h
    rw [h2] at h'
    have h5 : getC u cP cS g e.node e.path (ps.take e.cnt) l = some r := h
    have h6 : getC u cP cS g' e'.node e'.path (ps.take e'.cnt) l' = some r' := h'
    rw [← h3.2.1] at h6
    exact ihB e e' _ l l' r h3 h4 h5 g' r' h6
theorem simNode {g g' : Nat} (ihA : SA u cP cS g) (ihB : SB u cP cS g) {P idx full idx' full' : List UInt8} {wild wild' : Bool} {nt nt' pr pr' : Nat} {h0 h0' : Option Nat} {kids kids' : List T0} {f f' : F} (x : St true P idx wild nt h0 full kids f) (x' : St true P idx' wild' nt' h0' full' kids' f') (eq : EqF f f')
    {p : List UInt8} {ps : Vs} {sk sk' : List Sk} {r r' : Res} (hsk : SS sk sk')
    (h : getC u cP cS (g + 1) (.node () P idx wild nt pr h0 full kids) p ps sk = some r) (h' : getC u cP cS (g' + 1) (.node () P idx' wild' nt' pr' h0' full' kids') p ps sk' = some r') : Like r r' := by
  rw [getC_node, nodeK] at h h'
  have hidx : ∀ c, c ∈ idx ↔ c ∈ idx' := fun c => ⟨shape_idx x x' eq c, shape_idx x' x eq.symm c⟩
  obtain ⟨hh1, hh2⟩ := shape_h x x' eq
  by_cases c1 : P.length < p.length ∧ p.take P.length = P
  · rw [if_pos c1] at h h'
    obtain ⟨c, q, hp⟩ : ∃ c q, p = P ++ c :: q := by
      have e : p = P ++ p.drop P.length := by conv => lhs; rw [← List.take_append_drop P.length p, c1.2]
      cases hd : p.drop P.length with
      | nil =>
        have := congrArg List.length hd
        rw [List.length_drop] at this
        simp at this
        omega
      | cons c q => exact ⟨c, q, by rw [← hd]; exact e⟩
    subst hp
    have hd : (P ++ c :: q).drop P.length = c :: q := by simp
    rw [hd] at h h'
    have hhd : (c :: q).headD 0 = c := rfl
    rw [hhd] at h h'
    cases hi : idxOf c idx with
    | some i =>
      have hj := idxOf_mem hi
      have hmem : c ∈ idx := List.mem_of_getElem? hj
      have hmem' := (hidx c).1 hmem
      obtain ⟨i', hi'⟩ : ∃ i', idxOf c idx' = some i' := by
        cases e : idxOf c idx' with
        | some i' => exact ⟨i', rfl⟩
        | none => exact absurd hmem' (idxOf_not.1 e)
      have hj' := idxOf_mem hi'
      have hl := (List.getElem?_eq_some_iff.1 hj).1
      have hl' := (List.getElem?_eq_some_iff.1 hj').1
      obtain ⟨k, hk⟩ : ∃ k, kids[i]? = some k := ⟨_, List.getElem?_eq_getElem (by have := x.hlen; omega)⟩
      obtain ⟨k', hk'⟩ : ∃ k, kids'[i']? = some k := ⟨_, List.getElem?_eq_getElem (by have := x'.hlen; omega)⟩
      rw [hi] at h
      rw [hi'] at h'
      replace h : (match kids[i]? with
        | some k => if wild then (if sk.length < cS then getC u cP cS g k (c :: q) ps (⟨P ++ c :: q, .node () P [] wild nt pr h0 full kids, ps.length⟩ :: sk) else none) else getC u cP cS g k (c :: q) ps sk
        | none => none) = some r := h
      replace h' : (match kids'[i']? with
        | some k => if wild' then (if sk'.length < cS then getC u cP cS g' k (c :: q) ps (⟨P ++ c :: q, .node () P [] wild' nt' pr' h0' full' kids', ps.length⟩ :: sk') else none) else getC u cP cS g' k (c :: q) ps sk'
        | none => none) = some r' := h'
      rw [hk] at h
      rw [hk'] at h'
      replace h : (if wild then (if sk.length < cS then getC u cP cS g k (c :: q) ps (⟨P ++ c :: q, .node () P [] wild nt pr h0 full kids, ps.length⟩ :: sk) else none) else getC u cP cS g k (c :: q) ps sk) = some r := h
      replace h' : (if wild' then (if sk'.length < cS then getC u cP cS g' k' (c :: q) ps (⟨P ++ c :: q, .node () P [] wild' nt' pr' h0' full' kids', ps.length⟩ :: sk') else none) else getC u cP cS g' k' (c :: q) ps sk') = some r' := h'
      have hns : NS k k' (c :: q) := by
        have hkn := x.hkn i k hl hk
        have hkn' := x'.hkn i' k' hl' hk'
        refine ⟨_, _, fun s => ?_, ?_, x.hk i c k hj hk, x'.hk i' c k' hj' hk', by rcases hkn with e | e <;> rw [e] <;> decide, by rcases hkn' with e | e <;> rw [e] <;> decide, c, q, rfl, at_head⟩
        · unfold at_
          by_cases hs : s.head? = some (.b c)
          · rw [if_pos hs, if_pos hs]; exact eq _
          · rw [if_neg hs, if_neg hs]
        · obtain ⟨s, v, hs⟩ := x.hne c hmem
          exact ⟨.b c :: s, v, (if_pos rfl).trans hs⟩
      cases hw : wild with
      | false =>
        have hw' : wild' = false := by
          cases e : wild' with
          | false => rfl
          | true => rw [shape_wild x' x eq.symm e] at hw; cases hw
        rw [hw, if_neg (by simp)] at h
        rw [hw', if_neg (by simp)] at h'
        exact ihA k k' _ ps sk sk' r hns hsk h g' r' h'
      | true =>
        have hw' := shape_wild x x' eq hw
        subst hw
        subst hw'
        rw [if_pos rfl] at h h'
        obtain ⟨wk, wk', g1, g2, g3⟩ := shape_wk x x' eq
        rw [← hsk.len] at h'
        by_cases hr : sk.length < cS
        · rw [if_pos hr] at h h'
          have hes : ES ⟨P ++ c :: q, .node () P [] true nt pr h0 full kids, ps.length⟩ ⟨P ++ c :: q, .node () P [] true nt' pr' h0' full' kids', ps.length⟩ := ⟨rfl, rfl, P, c, q, nt, pr, h0, full, kids, nt', pr', h0', full', kids', wk, wk', rfl, rfl, rfl, g1, g2, g3⟩
          exact ihA k k' _ ps _ _ r hns (.cons hes hsk) h g' r' h'
        · rw [if_neg hr] at h; cases h
    | none =>
      have hi' : idxOf c idx' = none := idxOf_not.2 fun hm => idxOf_not.1 hi ((hidx c).2 hm)
      rw [hi] at h
      rw [hi'] at h'
      replace h : (if wild = false then popK (getC u cP cS g) (if c :: q ≠ [47] then popC (c :: q) ps.length sk else some none) ps (some ⟨none, ps, decide (c :: q = [47]) && h0.isSome, []⟩) else wildK u cP (getC u cP cS g) kids (c :: q) ps sk) = some r := h
      replace h' : (if wild' = false then popK (getC u cP cS g') (if c :: q ≠ [47] then popC (c :: q) ps.length sk' else some none) ps (some ⟨none, ps, decide (c :: q = [47]) && h0'.isSome, []⟩) else wildK u cP (getC u cP cS g') kids' (c :: q) ps sk') = some r' := h'
      cases hw : wild with
      | false =>
        have hw' : wild' = false := by
          cases e : wild' with
          | false => rfl
          | true => rw [shape_wild x' x eq.symm e] at hw; cases hw
        rw [if_pos hw] at h
        rw [if_pos hw'] at h'
        by_cases h47 : c :: q ≠ [47]
        · rw [if_pos h47] at h h'
          exact simPopK ihB hsk (fun r r' e e' => by cases e; cases e'; exact ⟨rfl, rfl, rfl⟩) h h'
        · rw [if_neg h47] at h h'
          cases h
          cases h'
          exact ⟨rfl, rfl, rfl⟩
      | true =>
        have hw' := shape_wild x x' eq hw
        subst hw
        subst hw'
        rw [if_neg (by simp)] at h h'
        obtain ⟨wk, wk', g1, g2, g3⟩ := shape_wk x x' eq
        exact simWild ihA g1 g2 g3 hsk h h'
  · rw [if_neg c1] at h h'
    by_cases c2 : p = P
    · rw [if_pos c2] at h h'
      have hfin : ∀ r r', endK idx wild nt h0 full kids p ps = some r → endK idx' wild' nt' h0' full' kids' p ps = some r' → Like r r' := fun r r' e e' => by
        cases h0 with
        | some k =>
          obtain ⟨k', rfl⟩ := Option.isSome_iff_exists.1 hh1.symm
          unfold endK at e e'
          rw [if_pos (show (some k).isSome = true from rfl)] at e
          rw [if_pos (show (some k').isSome = true from rfl)] at e'
          cases e
          cases e'
          exact ⟨rfl, rfl, hh2 rfl⟩
        | none =>
          have : h0' = none := by cases h0' <;> simp_all
          subst this
          obtain ⟨a1, a2, a3⟩ := endK_no e
          obtain ⟨b1, b2, b3⟩ := endK_no e'
          exact ⟨by rw [a1, b1], by rw [a2, b2], by rw [a3, b3]⟩
      have hn : h0.isNone = h0'.isNone := by cases h0 <;> cases h0' <;> simp_all
      rw [← hn] at h'
      by_cases hc : h0.isNone = true ∧ p ≠ [47]
      · rw [if_pos hc] at h h'
        exact simPopK ihB hsk hfin h h'
      · rw [if_neg hc] at h h'
        exact hfin r r' h h'
    · rw [if_neg c2] at h h'
      rw [← hh1] at h'
      by_cases hc : (decide (p = [47]) || (decide (P = p ++ [47]) && h0.isSome)) = false
      · rw [if_pos hc] at h h'
        exact simPopK ihB hsk (fun r r' e e' => by cases e; cases e'; exact ⟨rfl, rfl, rfl⟩) h h'
      · rw [if_neg hc] at h h'
        cases h
        cases h'
        exact ⟨rfl, rfl, rfl⟩
theorem ca_supp {f : F} {m : List UInt8} {v : Nat × List UInt8} {f' : F} (hf : f = one [.b 47, .A m] v) (eq : EqF f f') : (∀ s w, f' s = some w → s = [.b 47, .A m]) ∧ ∃ k, f' [.b 47, .A m] = some (k, v.2) := by
  subst hf
  constructor
  · intro s w hs
    obtain ⟨k, hk⟩ := eq.symm.some hs
    unfold one at hk
    split at hk
    · rename_i e; exact e
    · cases hk
  · exact eq.some (one_self _ _)
theorem ca_is {n : T0} {f : F} (rep : Rep true n f) (hn : n.nt = 3) : ∃ m v, f = one [.b 47, .A m] v := by
  cases rep with
  | st wn wk hp hnt => simp only [n_nt] at hn; omega
  | pa => cases hn
  | pk => cases hn
  | ca => exact ⟨_, _, rfl⟩
theorem st_is {n : T0} {f : F} (rep : Rep true n f) (h2 : n.nt ≠ 2) (h3 : n.nt ≠ 3) : ∃ P idx wild nt pr h full kids, n = .node () P idx wild nt pr h full kids ∧ St true P idx wild nt h full kids f := by
  have rep0 := rep
  cases rep with
  | st wn wk hp hnt => exact ⟨_, _, _, _, _, _, _, _, rfl, rep0.toSt hnt⟩
  | pa => exact absurd rfl h2
  | pk => exact absurd rfl h2
  | ca => exact absurd rfl h3
theorem sim_all : ∀ g, SA u cP cS g ∧ SB u cP cS g
  | 0 => ⟨fun _ _ _ _ _ _ _ _ _ h => (by cases h), fun _ _ _ _ _ _ _ _ h => (by cases h)⟩
  | g + 1 => by
    obtain ⟨ihA, ihB⟩ := sim_all g
    constructor
    · intro n n' p ps sk sk' r hns hsk h g' r' h'
      obtain ⟨f, f', eq, ne, rep, rep', hn, hn', c, q, hp, hd⟩ := hns
      have hca : ∀ m v, f = one [.b 47, .A m] v → Like r r' := fun m v hf => by
        obtain ⟨s1, s2⟩ := ca_supp hf eq
        obtain ⟨k, hk⟩ := s2
        have s3 : ∀ s w, f s = some w → s = [.b 47, .A m] := fun s w hs => by
          rw [hf] at hs
          unfold one at hs
          split at hs
          · rename_i e; exact e
          · cases hs
        have hv : f [.b 47, .A m] = some v := by rw [hf]; exact one_self _ _
        have hc : c = 47 := by
          obtain ⟨r0, e0⟩ := hd _ _ hv
          simp at e0
          exact e0.1.symm
        subst hc
        obtain ⟨a1, a2, a3⟩ := caRun rep hn s3 hv hp h
        obtain ⟨b1, b2, b3⟩ := caRun rep' hn' s1 hk hp h'
        exact ⟨by rw [a1, b1], by rw [a2, b2], by rw [a3, b3]⟩
      by_cases h3 : n.nt = 3
      · obtain ⟨m, v, hf⟩ := ca_is rep h3
        exact hca m v hf
      by_cases h3' : n'.nt = 3
      · obtain ⟨m, v, hf⟩ := ca_is rep' h3'
        obtain ⟨s1, k, hk⟩ := ca_supp hf eq.symm
        refine hca m (k, v.2) ?_
        funext s
        by_cases hs : s = [.b 47, .A m]
        · rw [hs, hk, one_self]
        · rw [one_ne hs]
          cases hfs : f s with
          | none => rfl
          | some w => exact absurd (s1 s w hfs) hs
      obtain ⟨P, idx, wild, nt, pr, h0, full, kids, rfl, x⟩ := st_is rep hn h3
      obtain ⟨P', idx', wild', nt', pr', h0', full', kids', rfl, x'⟩ := st_is rep' hn' h3'
      have hP := shape_path x x' eq ne
      subst hP
      cases g' with
      | zero => cases h'
      | succ g' => exact simNode ihA ihB x x' eq hsk h h'
    · intro e e' ps sk sk' r hes hsk h g' r' h'
      obtain ⟨he, _, P, c, q, nt, pr, h0, full, kids, nt', pr', h0', full', kids', wk, wk', e1, e2, e3, e4, e5, e6⟩ := hes
      rw [e1, e3] at h
      rw [e2, ← he, e3] at h'
      cases g' with
      | zero => cases h'
      | succ g' =>
        rw [getC_node, nodeK, if_pos ⟨by simp, by simp⟩] at h h'
        have hd : (P ++ c :: q).drop P.length = c :: q := by simp
        rw [hd] at h h'
        exact simWild ihA e4 e5 e6 hsk h h'
/-- the order in which routes are added plays no part -/
theorem order_like {rs ts : List (List Tok)} (hg : ∀ r ∈ rs, Good r) (hp : rs.Pairwise (fun a b => apart a b = true)) (hts : ts.Perm rs) {p : List UInt8} (h47 : ∃ q, p = 47 :: q) {t t' : T0} (ht : addAll new (rs.map txt) 0 = .inl t) (ht' : addAll new (ts.map txt) 0 = .inl t') {g g' : Nat} {r r' : Res}
    (h : getC u cP cS g t p [] [] = some r) (h' : getC u cP cS g' t' p [] [] = some r') : Like r r' := by
  have hgt : ∀ r ∈ ts, Good r := fun r hr => hg r (hts.mem_iff.1 hr)
  have hpt : ts.Pairwise (fun a b => apart a b = true) := (List.Perm.pairwise_iff (fun {a b} hab => by rw [apart_comm]; exact hab) hts).2 hp
  obtain ⟨t1, h1, h2⟩ := addAll_ok rs new (fun _ => none) 0 (.inl ⟨rfl, rfl⟩) hg (fun _ _ _ _ h => by cases h) hp
  obtain ⟨t2, h3, h4⟩ := addAll_ok ts new (fun _ => none) 0 (.inl ⟨rfl, rfl⟩) hgt (fun _ _ _ _ h => by cases h) hpt
  rw [ht] at h1
  cases h1
  rw [ht'] at h3
  cases h3
  obtain ⟨q, rfl⟩ := h47
  have eq : EqF (fAdd (fun _ => none) 0 rs) (fAdd (fun _ => none) 0 ts) := fun s => by
    by_cases hs : s ∈ rs
    · obtain ⟨i, hi⟩ := List.mem_iff_getElem?.1 hs
      obtain ⟨j, hj⟩ := List.mem_iff_getElem?.1 (hts.mem_iff.2 hs)
      rw [fAdd_at (pw_nodup hp) hi, fAdd_at (pw_nodup hpt) hj]; rfl
    · rw [fAdd_not hs, fAdd_not (fun hm => hs (hts.mem_iff.1 hm))]
  by_cases hne : rs = []
  · subst hne
    have : ts = [] := List.Perm.eq_nil hts
    subst this
    rw [ht] at ht'
    cases ht'
    have := getC_det h h'
    subst this
    exact ⟨rfl, rfl, rfl⟩
  · obtain ⟨r0, rs', rfl⟩ := List.exists_cons_of_ne_nil hne
    have hne2 : ∃ s v, fAdd (fun _ => none) 0 (r0 :: rs') s = some v := ⟨r0, _, fAdd_at (pw_nodup hp) (i := 0) rfl⟩
    obtain ⟨s0, v0, hs0⟩ := hne2
    rcases h2 with ⟨_, hf⟩ | ⟨rep, hnt, hd⟩
    · rw [hf] at hs0; cases hs0
    · rcases h4 with ⟨_, hf'⟩ | ⟨rep', hnt', _⟩
      · have := eq.none.2 (show fAdd (fun _ => none) 0 ts s0 = none by rw [hf'])
        rw [hs0] at this; cases this
      · exact (sim_all (u := u) (cP := cP) (cS := cS) g).1 t t' (47 :: q) [] [] [] r ⟨_, _, eq, ⟨s0, v0, hs0⟩, rep, rep', by rw [hnt]; decide, by rw [hnt']; decide, 47, q, rfl, hd⟩ .nil h g' r' h'
end
end Gt

/- FnGinOrder. Printed by wip/mk_gs9x.py. -/
set_option maxRecDepth 20000
namespace Go.Proofs
open Go Bw
open Gt
theorem _root_.Bw.V.eqB {P : Program} {c : Cx} {n : Nat} {fr : SF} {H : SH} {ty t u : TypeId} {x y : Operand} {a b : Bool} (hU : P.underlying t = some .bool) (hx : ev fr x = some (.bool a)) (hy : ev fr y = some (.bool b)) : Val P c n (.binOp .eql t x y u) ty fr H (.bool (a == b)) := by
 intro a1 w ha hw dst pos aft g
 have key : ∀ d : Nat, (Op.equalIn (d + 1) t (.bool a) (.bool b)).run P w = .ok (a == b) w := fun d => by
  simp [Op.equalIn, underlying, hU]
 have e : (Op.equalIn 10000 t (.bool a) (.bool b)).run P w = .ok (a == b) w := key 9999
 simp [execOp, ha.eval hx, ha.eval hy, eqGuard, binOp, Op.equal, Op.maxDepth, e]
theorem eqB_true {P : Program} {c : Cx} {n : Nat} {op : Op} {ty : TypeId} {fr : SF} {H : SH} {a b : Bool} (h : a = b) (hv : Val P c n op ty fr H (.bool (a == b))) : Val P c n op ty fr H (.bool true) := by subst h; rw [beq_self_eq_true] at hv; exact hv
theorem mx_perm {ts rs : List (List Tok)} (h : ts.Perm rs) : mxP ts = mxP rs ∧ mxS ts = mxS rs :=
 ⟨h.foldl_eq' (fun x _ y _ z => by omega) 0, h.foldl_eq' (fun x _ y _ z => by omega) 0⟩
theorem table_perm {l l2 : List (List Prt)} (h : TableN l) (hp : l2.Perm l) : TableN l2 := by
 obtain ⟨h1, h2⟩ := TableN_iff.1 h
 have h1' : ∀ a ∈ l2, Gt.Clean a := fun a ha => h1 a (hp.mem_iff.1 ha)
 refine TableN_iff.2 ⟨h1', ?_⟩
 have h3 : l.Pairwise (fun b a => apart (tokT a) (tokT b) = true) := by
  refine List.Pairwise.imp_of_mem (fun {a b} ha hb hab => ?_) h2
  exact ((h1 b hb).apart (h1 a ha)).1 hab
 have h4 : l2.Pairwise (fun b a => apart (tokT a) (tokT b) = true) := (List.Perm.pairwise_iff (fun {a b} hab => by rw [apart_comm]; exact hab) hp).2 h3
 exact List.Pairwise.imp_of_mem (fun {a b} ha hb hab => ((h1' b hb).apart (h1' a ha)).2 hab) h4
theorem fits_perm {l l2 : List (List Prt)} {path : List UInt8} (h : FitsN l path) (hp : l2.Perm l) : FitsN l2 path := ⟨by rw [hp.length_eq]; exact h.1, table_perm h.2.1 hp, h.2.2⟩
theorem told_like {l l2 : List (List Prt)} {path : List UInt8} {r r2 : Res} (hf : FitsN l path) (hp : l2.Perm l) (h : Told l false path r) (h2 : Told l2 false path r2) : r.h.isSome = r2.h.isSome ∧ r.ps = r2.ps ∧ r.full = r2.full := by
 obtain ⟨⟨t, g, ht, hg⟩, _⟩ := h
 obtain ⟨⟨t2, g2, ht2, hg2⟩, _⟩ := h2
 obtain ⟨e1, e2⟩ := mx_perm (hp.map tokT)
 rw [e1, e2] at hg2
 obtain ⟨q, hq⟩ := hf.2.2.1
 exact order_like (table_good hf.2.1).1 hf.2.1.pw (hp.map tokT) ⟨q, hq.symm⟩ ht ht2 hg hg2
theorem told_num {l : List (List Prt)} {un : Bool} {path : List UInt8} {r : Res} (h : Told l un path r) : r.h.getD 0 = 0 ↔ r.h.isSome = false := by
 rcases h.2.2.1 with ⟨i, a, v, _, h1, _⟩ | ⟨h1, _⟩
 ·rw [h1]; simp
 ·rw [h1]; simp
theorem f6_any (w : World) (l : List (List Prt)) (sv : Value) (hsv : Tbl w sv l) (q : UInt8) (path : List UInt8) : Calls Try.prog 6 #[sv, .int .u8 (q.toNat : Int), S path] w fun e w' => e = .returned (.bool true) ∧ HF w (fun _ => False) [] w' := by
 refine enter (fun _ => False) [] Try.func6 rfl Try.ntmps6 rfl rfl (HF.start w _) fun c hc => ?_
 subst hc
 obtain ⟨sad, scp, hse⟩ : ∃ ad cp, sv = .slice ad l.length cp := by
  obtain ⟨ad, cp, h, _⟩ := hsv
  exact ⟨ad, cp, h⟩
 subst hse
 refine GC.seq ?_
 refine GC.reg ?_
 refine G.m2 ?_
 refine G.nil ?_
 refine GC.seq ?_
 refine GC.seq ?_
 refine GC.join (fun fr' H' => Sub [(0, .slice sad l.length scp), (1, .int .u8 (q.toNat : Int)), (2, S path), (21, .bool (dec (¬ Fits4 l ∨ (2147483647 : Int) < (path.length : Int))))] fr' ∧ H' = []) (fun J1 => ?_) ?_
 ·refine GC.reg ?_
  refine G.m1 ?_
  refine G.callP (v := .bool (dec (Fits4 l))) Try.call17 rfl rfl (fun w1 hw1 => f17_any w1 l _ (hsv.old hw1)) ?_
  refine G.v (V.not rfl) rfl ?_
  refine G.m1 ?_
  refine G.bc 17 rfl (fun h17 => ?_) (fun h17 => ?_)
  ·refine G.s1 ?_
   refine G.s1 ?_
   refine G.s1 ?_
   refine G.m3 ?_
   refine G.nil ?_
   refine J1 _ _ ⟨.cons rfl (.cons rfl (.cons rfl (.cons (rfl.trans (congrArg (fun b => some (Value.bool b)) ?_)) .nil))), rfl⟩
   exact dec_t (.inl (dec_false.1 (by simpa using h17)))
  ·refine G.m5 ?_
   refine G.vg rfl rfl (V.lenS Try.underlying9 rfl) rfl ?_
   refine G.vg rfl rfl (V.gt rfl rfl) rfl ?_
   refine G.m4 ?_
   refine G.nil ?_
   refine J1 _ _ ⟨.cons rfl (.cons rfl (.cons rfl (.cons (rfl.trans (congrArg (fun b => some (Value.bool b)) ?_)) .nil))), rfl⟩
   exact dec_d ⟨.inr, fun h => h.resolve_left (fun h => h (dec_true.1 (by simpa using h17)))⟩
 rintro fr' H' ⟨hs1, rfl⟩
 refine GC.weak hs1 ?_
 clear hs1
 refine GC.cond rfl (fun h21 => ?_) (fun h21 => ?_)
 ·refine GC.seq ?_
  refine GC.reg ?_
  refine G.m2 ?_
  refine G.nil ?_
  exact GC.ret1 rfl rfl fun w' hw' => ⟨rfl, hw'.sub (List.nil_sublist _)⟩
 refine GC.skip ?_
 refine GC.seq ?_
 refine GC.seq ?_
 obtain ⟨h4, hpl⟩ : Fits4 l ∧ path.length ≤ 2147483647 := by
  have := dec_false.1 h21
  exact ⟨Classical.byContradiction fun h => this (.inl h), by omega⟩
 refine GC.join (fun fr' H' => Sub [(0, .slice sad l.length scp), (1, .int .u8 (q.toNat : Int)), (2, S path), (30, .bool (dec (¬ FitsN l path ∨ ((l.length : Nat) : Int) = 0)))] fr' ∧ H' = []) (fun J3 => ?_) ?_
 ·refine GC.reg ?_
  refine G.m1 ?_
  refine G.m1 ?_
  refine G.callP (v := .bool (dec (FitsN l path))) Try.call19 rfl rfl (fun w1 hw1 => f19_any w1 l _ (hsv.old hw1) h4 path (by omega)) ?_
  refine G.v (V.not rfl) rfl ?_
  refine G.m1 ?_
  refine G.bc 26 rfl (fun h26 => ?_) (fun h26 => ?_)
  ·refine G.s1 ?_
   refine G.s1 ?_
   refine G.s1 ?_
   refine G.m3 ?_
   refine G.nil ?_
   refine J3 _ _ ⟨.cons rfl (.cons rfl (.cons rfl (.cons (rfl.trans (congrArg (fun b => some (Value.bool b)) ?_)) .nil))), rfl⟩
   exact dec_t (.inl (dec_false.1 (by simpa using h26)))
  ·refine G.m5 ?_
   refine G.vg rfl rfl (V.lenL Try.underlying34 rfl) rfl ?_
   refine G.vg rfl rfl (V.eqI rfl rfl) rfl ?_
   refine G.m4 ?_
   refine G.nil ?_
   refine J3 _ _ ⟨.cons rfl (.cons rfl (.cons rfl (.cons (rfl.trans (congrArg (fun b => some (Value.bool b)) ?_)) .nil))), rfl⟩
   exact dec_d ⟨.inr, fun h => h.resolve_left (fun h => h (dec_true.1 (by simpa using h26)))⟩
 rintro fr' H' ⟨hs3, rfl⟩
 refine GC.weak hs3 ?_
 clear hs3
 refine GC.cond rfl (fun h30 => ?_) (fun h30 => ?_)
 ·refine GC.seq ?_
  refine GC.reg ?_
  refine G.callP (v := .bool true) Try.call14 rfl rfl (fun w1 _ => f14_any w1) ?_
  refine G.m2 ?_
  refine G.nil ?_
  exact GC.ret1 rfl rfl fun w' hw' => ⟨rfl, hw'.sub (List.nil_sublist _)⟩
 refine GC.skip ?_
 refine GC.seq ?_
 obtain ⟨hft, hl0⟩ : FitsN l path ∧ l.length ≠ 0 := by
  have := dec_false.1 h30
  exact ⟨Classical.byContradiction fun h => this (.inl h), fun h => this (.inr (by omega))⟩
 have hcl := hft.2.1.clean
 have hbd : ∀ r ∈ l, (rtT r).length ≤ 1000000 ∧ r.length ≤ 1000000 := fun r hr => ⟨Nat.le_trans (hcl r hr).txt.1 (by omega), (clean_len (hcl r hr)).2⟩
 have h30 := hft.1
 refine GC.reg ?_
 refine G.m1 ?_
 refine G.callW (fun v H2 => ∃ Hk, Own 9 1 v l.length ((l.map rtT).map S) Hk ∧ H2 = Hk ++ []) Try.call23 rfl rfl (fun w1 hw1 => ?_) ?_
 ·refine (f23_any w1 l _ (hsv.old hw1) hbd (by omega)).mono fun e w' ⟨kv, Hs, h1, h2, h3⟩ => ?_
  exact ⟨_, _, h1, hw1.after0 h3 h2.w, Hs, h2, rfl⟩
 rintro tv H2 ⟨Hs, hown, rfl⟩
 refine G.m2 ?_
 refine G.nil ?_
 rw [List.append_nil]
 obtain ⟨ad, cp, rfl, hcp, htail⟩ := hown.tail (by simp)
 refine GC.seq ?_
 refine GC.reg ?_
 refine G.m1 ?_
 refine G.v (V.cvI Try.underlying5 Try.underlying3 rfl) rfl ?_
 have hq := q.toNat_lt
 have hwr : IntKind.i64.wrap (q.toNat : Int) = (q.toNat : Int) := by
  unfold IntKind.wrap
  simp [IntKind.bits, IntKind.signed]
  omega
 rw [hwr]
 refine G.m1 ?_
 refine G.v (V.lenL Try.underlying26 rfl) rfl ?_
 refine G.v (V.remI (i := q.toNat) (j := l.length) rfl rfl (by omega)) rfl ?_
 refine G.m2 ?_
 refine G.nil ?_
 obtain ⟨k, hk⟩ : ∃ k, k = q.toNat % l.length := ⟨_, rfl⟩
 have hkn : k < l.length := by rw [hk]; exact Nat.mod_lt _ (by omega)
 rw [← hk]
 obtain ⟨xs, hxs⟩ : ∃ xs, xs = (l.map rtT).map S := ⟨_, rfl⟩
 have hxl : xs.length = l.length := by rw [hxs]; simp
 have hone : ∀ u ∈ xs, u.oneCell' = true := fun u hu => by
  rw [hxs] at hu
  obtain ⟨x, _, rfl⟩ := List.mem_map.1 hu
  rfl
 have hown0 := hown
 rw [← hxs] at hown htail
 refine GC.seq ?_
 refine GC.regM 9 (fun _ => True) mixed (by kernel_rfl) ?_
 refine GM.p 1 rfl (by kernel_rfl) (by kernel_rfl) (fun _ _ => trivial) (fun _ => V.mv rfl) rfl ?_
 refine GM.p 2 rfl (by kernel_rfl) (by kernel_rfl) (fun _ _ => trivial) (fun _ => V.mv rfl) rfl ?_
 refine GM.p 3 rfl (by kernel_rfl) (by kernel_rfl) (fun _ _ => trivial) (fun _ => V.slTk (i := k) Try.underlying26 Try.sizeOf9 rfl rfl (by omega) hcp) rfl ?_
 refine GM.p 5 rfl (by kernel_rfl) (by kernel_rfl) (fun _ _ => trivial) (fun _ => V.mv rfl) rfl ?_
 refine GM.p 6 rfl (by kernel_rfl) (by kernel_rfl) (fun _ _ => trivial) (fun _ => V.mv rfl) rfl ?_
 refine GM.p 7 rfl (by kernel_rfl) (by kernel_rfl) (fun _ _ => trivial) (fun _ => V.slTH (i := k) Try.underlying26 Try.sizeOf9 rfl rfl (by omega)) rfl ?_
 refine GM.one 0 rfl (by kernel_rfl) ?_
 refine GMB.bs0 Try.underlying26 Try.sizeOf9 Try.zeroValue9 (fun _ _ => trivial) rfl (fun eb => ?_)
 refine GM.one 4 rfl (by kernel_rfl) ?_
 refine GMB.appZ (i := Try.t9) (sz := 1) (by_ := 16) (vs := xs.drop k) Try.underlying26 rfl rfl rfl rfl rfl rfl rfl (Own.row (b := eb) (n := 0) (cap := 0) (xs := []) (spare := []) rfl rfl (Nat.le_refl _)) (H' := Hs) (.of_eq rfl) (fun h0 => by have := htail k w (fun _ => False) (⟨eb, true, .row [] 9 (0, 0)⟩ :: Hs) (fun e he => List.mem_cons_of_mem _ he) h0; rw [Nat.mul_one] at this ⊢; exact this) (by rw [List.length_drop]; omega) (fun u hu => hone u (List.mem_of_mem_drop hu)) (by omega) (by omega) (fun _ _ => trivial) rfl (fun kz Hz hoz => ?_)
 refine GM.one 8 rfl (by kernel_rfl) ?_
 refine GMB.appZ (i := Try.t9) (sz := 1) (by_ := 16) (vs := xs.take k) Try.underlying26 rfl rfl rfl rfl rfl rfl rfl hoz (H' := Hs) List.perm_append_comm (fun h0 => hown.head rfl k h0 (by omega) w (fun _ => False) (Hs ++ Hz) (fun e he => List.mem_append_left _ he)) (by rw [List.length_take]; omega) (fun u hu => hone u (List.mem_of_mem_take hu)) (by omega) (by omega) (fun _ _ => trivial) rfl (fun kz2 Hz2 hoz2 => ?_)
 refine GM.tl (by kernel_rfl) ?_
 refine G.m2 ?_
 refine G.nil ?_
 have hrot : [] ++ xs.drop k ++ xs.take k = (((l.drop k ++ l.take k).map rtT).map S) := by
  rw [hxs, List.map_append, List.map_append, List.map_drop, List.map_drop, List.map_take, List.map_take]; rfl
 have hnn : 0 + (l.length - k) + k = (((l.drop k ++ l.take k).map rtT).map S).length := by rw [List.length_map, List.length_map, List.length_append, List.length_drop, List.length_take]; omega
 rw [hrot, hnn] at hoz2
 refine GC.seq ?_
 refine GC.reg ?_
 refine G.m1 ?_
 refine G.callW (fun v H2 => ∃ Hb, Own 9 1 kz2 (l.drop k ++ l.take k).reverse.length (((l.drop k ++ l.take k).reverse.map rtT).map S) Hb ∧ H2 = Hb ++ Hs) Try.call26 rfl rfl (fun w1 hw1 => ?_) ?_
 ·refine (f26_own hw1 List.perm_append_comm (fun u hu => by obtain ⟨x, _, rfl⟩ := List.mem_map.1 hu; rfl) (by rw [← hnn]; omega) hoz2).mono fun e w' ⟨Hb', h1, h2, h3⟩ => ?_
  refine ⟨_, _, h1, h3, Hb', ?_, rfl⟩
  rw [List.map_reverse, List.map_reverse, List.length_reverse]
  rw [List.length_map, List.length_map] at h2
  exact h2
 rintro v H2 ⟨Hb, hob, rfl⟩
 refine G.nil ?_
 have hprm : (l.drop k ++ l.take k).reverse.Perm l := (List.reverse_perm _).trans (List.perm_append_comm.trans (.of_eq (List.take_append_drop k _)))
 have hft2 := fits_perm hft hprm
 refine GC.seq ?_
 refine GC.reg ?_
 refine G.m1 ?_
 refine G.m1 ?_
 refine G.bs (BS.one Try.underlying26 Try.sizeOf9 Try.zeroValue9 (v := S path) rfl) rfl rfl (fun qb hqb => ?_)
 refine G.callW (fun v H2 => ∃ r fb cap spare pa Ha, v = .tuple #[.slice (some ⟨fb, 0, none⟩) 1 cap, .bool true] ∧ Told l false path r ∧ Own 32 2 pa r.ps.length (flatP r.ps) Ha ∧ H2 = (⟨fb, true, .row (fndV r pa ++ spare) 30 (0, 0)⟩ :: Ha) ++ (⟨qb, true, .row [S path] 9 (0, 0)⟩ :: (Hb ++ Hs))) Try.call15 rfl rfl (fun w1 hw1 => ?_) ?_
 ·refine (f15_fit1 w1 l _ path hft (hown0.txts (by simp) hw1 (fun e he => List.mem_cons_of_mem _ (List.mem_append_right _ he))) _ (Txts.row (l := [path]) (z := []) (e := 9) (wf := true) (fz := (0, 0)) hw1 (.head _)) false).mono fun e w' ⟨r, fb, cap, spare, pa, Ha, h1, h2, h3, h4⟩ => ?_
  exact ⟨_, _, h2, hw1.after0 h4 (fun e0 he0 => by
   rcases List.mem_cons.1 he0 with rfl | he0
   ·rfl
   ·exact h3.w e0 he0), r, fb, cap, spare, pa, Ha, rfl, h1, h3, rfl⟩
 rintro v H2 ⟨r, fb, cap, spare, pa, Ha, rfl, ht, ho, rfl⟩
 refine G.m1 ?_
 refine G.v (V.ex rfl rfl) rfl ?_
 refine G.v (V.ex rfl rfl) rfl ?_
 refine G.m2 ?_
 refine G.m2 ?_
 refine G.nil ?_
 refine GC.seq ?_
 refine GC.reg ?_
 refine G.m1 ?_
 refine G.m1 ?_
 refine G.bs (BS.one Try.underlying26 Try.sizeOf9 Try.zeroValue9 (v := S path) rfl) rfl rfl (fun qb2 hqb2 => ?_)
 refine G.callW (fun v H2 => ∃ r2 fb2 cap2 spare2 pa2 Ha2, v = .tuple #[.slice (some ⟨fb2, 0, none⟩) 1 cap2, .bool true] ∧ Told (l.drop k ++ l.take k).reverse false path r2 ∧ Own 32 2 pa2 r2.ps.length (flatP r2.ps) Ha2 ∧ H2 = (⟨fb2, true, .row (fndV r2 pa2 ++ spare2) 30 (0, 0)⟩ :: Ha2) ++ (⟨qb2, true, .row [S path] 9 (0, 0)⟩ :: ((⟨fb, true, .row (fndV r pa ++ spare) 30 (0, 0)⟩ :: Ha) ++ (⟨qb, true, .row [S path] 9 (0, 0)⟩ :: (Hb ++ Hs))))) Try.call15 rfl rfl (fun w1 hw1 => ?_) ?_
 ·refine (f15_fit1 w1 (l.drop k ++ l.take k).reverse _ path hft2 (hob.txts (by simp) hw1 (fun e he => List.mem_cons_of_mem _ (List.mem_append_right _ (.tail _ (List.mem_append_left _ he))))) _ (Txts.row (l := [path]) (z := []) (e := 9) (wf := true) (fz := (0, 0)) hw1 (.head _)) false).mono fun e w' ⟨r2, fb2, cap2, spare2, pa2, Ha2, h1, h2, h3, h4⟩ => ?_
  exact ⟨_, _, h2, hw1.after0 h4 (fun e0 he0 => by
   rcases List.mem_cons.1 he0 with rfl | he0
   ·rfl
   ·exact h3.w e0 he0), r2, fb2, cap2, spare2, pa2, Ha2, rfl, h1, h3, rfl⟩
 rintro v H2 ⟨r2, fb2, cap2, spare2, pa2, Ha2, rfl, ht2, ho2, rfl⟩
 refine G.m1 ?_
 refine G.v (V.ex rfl rfl) rfl ?_
 refine G.v (V.ex rfl rfl) rfl ?_
 refine G.m2 ?_
 refine G.m2 ?_
 refine G.nil ?_
 obtain ⟨his, hpar, hful⟩ := told_like hft hprm ht ht2
 have hnum : decide (((r.h.getD 0 : Nat) : Int) = 0) = decide (((r2.h.getD 0 : Nat) : Int) = 0) := by
  have e1 := told_num ht
  have e2 := told_num ht2
  rw [his] at e1
  exact decide_eq_decide.2 ⟨fun h => by have := e2.2 (e1.1 (by omega)); omega, fun h => by have := e1.2 (e2.1 (by omega)); omega⟩
 obtain ⟨SW, hSW⟩ : ∃ SW : World → Prop, SW = fun w1 => (∀ (j : Nat) v, (fndV r pa)[j]? = some v → w1.cell? ⟨fb, 0 + 0 * 4 + j, none⟩ = some v) ∧ ∀ (j : Nat) v, (fndV r2 pa2)[j]? = some v → w1.cell? ⟨fb2, 0 + 0 * 4 + j, none⟩ = some v := ⟨_, rfl⟩
 have hS : ∀ (H' : SH), ⟨fb, true, .row (fndV r pa ++ spare) 30 (0, 0)⟩ ∈ H' → ⟨fb2, true, .row (fndV r2 pa2 ++ spare2) 30 (0, 0)⟩ ∈ H' → ∀ w1, HF w (fun _ => False) H' w1 → SW w1 := fun H' hm hm2 w1 h1 => by
  rw [hSW]
  exact ⟨cells_of h1 (0 + 0 * 4) _ hm (fun j v hj => fnd_at r pa spare j v hj), cells_of h1 (0 + 0 * 4) _ hm2 (fun j v hj => fnd_at r2 pa2 spare2 j v hj)⟩
 refine GC.seq ?_
 refine GC.regA (SW) mixed ?_
 refine GA.one 0 rfl (by kernel_rfl) ?_
 refine GB.callP (v := .bool true) Try.call14 rfl rfl (hS _ (List.mem_append_right _ (.tail _ (.head _))) (.head _)) (fun w1 _ => f14_any w1) ?_
 refine GA.p 1 rfl (by kernel_rfl) (hS _ (List.mem_append_right _ (.tail _ (.head _))) (.head _)) (fun _ => V.mv rfl) rfl ?_
 refine GA.pg 2 rfl rfl rfl (by kernel_rfl) (hS _ (List.mem_append_right _ (.tail _ (.head _))) (.head _)) (fun _ => V.mv rfl) rfl ?_
 refine GA.p 3 rfl (by kernel_rfl) (hS _ (List.mem_append_right _ (.tail _ (.head _))) (.head _)) (fun _ => V.pickT rfl rfl) rfl ?_
 refine GA.p 4 rfl (by kernel_rfl) (hS _ (List.mem_append_right _ (.tail _ (.head _))) (.head _)) (fun _ => V.mv rfl) rfl ?_
 refine GA.pg 5 rfl rfl rfl (by kernel_rfl) (hS _ (List.mem_append_right _ (.tail _ (.head _))) (.head _)) (fun _ => V.mv rfl) rfl ?_
 refine GA.p 6 rfl (by kernel_rfl) (hS _ (List.mem_append_right _ (.tail _ (.head _))) (.head _)) (fun _ => V.pickT rfl rfl) rfl ?_
 refine GA.p 7 rfl (by kernel_rfl) (hS _ (List.mem_append_right _ (.tail _ (.head _))) (.head _)) (fun _ => V.mv rfl) rfl ?_
 refine GA.pg 8 rfl rfl rfl (by kernel_rfl) (hS _ (List.mem_append_right _ (.tail _ (.head _))) (.head _)) (fun _ => V.mv rfl) rfl ?_
 refine GA.pg 9 rfl rfl rfl (by kernel_rfl) (hS _ (List.mem_append_right _ (.tail _ (.head _))) (.head _)) (fun _ => V.lenL Try.underlying23 rfl) rfl ?_
 refine GA.pg 10 rfl rfl rfl (by kernel_rfl) (hS _ (List.mem_append_right _ (.tail _ (.head _))) (.head _)) (fun _ => V.eqI rfl rfl) rfl ?_
 refine GA.p 11 rfl (by kernel_rfl) (hS _ (List.mem_append_right _ (.tail _ (.head _))) (.head _)) (fun _ => V.pickT rfl rfl) rfl ?_
 refine GA.p 12 rfl (by kernel_rfl) (hS _ (List.mem_append_right _ (.tail _ (.head _))) (.head _)) (fun _ => V.mv rfl) rfl ?_
 refine GA.pg 13 rfl rfl rfl (by kernel_rfl) (hS _ (List.mem_append_right _ (.tail _ (.head _))) (.head _)) (fun _ => V.mv rfl) rfl ?_
 refine GA.pg 14 rfl rfl rfl (by kernel_rfl) (hS _ (List.mem_append_right _ (.tail _ (.head _))) (.head _)) (fun _ => V.lenL Try.underlying23 rfl) rfl ?_
 refine GA.pg 15 rfl rfl rfl (by kernel_rfl) (hS _ (List.mem_append_right _ (.tail _ (.head _))) (.head _)) (fun _ => V.eqI rfl rfl) rfl ?_
 refine GA.p 16 rfl (by kernel_rfl) (hS _ (List.mem_append_right _ (.tail _ (.head _))) (.head _)) (fun _ => V.pickT rfl rfl) rfl ?_
 refine GA.p 17 rfl (by kernel_rfl) (hS _ (List.mem_append_right _ (.tail _ (.head _))) (.head _)) (fun _ => V.mv rfl) rfl ?_
 refine GA.pg 18 rfl rfl rfl (by kernel_rfl) (hS _ (List.mem_append_right _ (.tail _ (.head _))) (.head _)) (fun _ => V.mv rfl) rfl ?_
 refine GA.pg 19 rfl rfl rfl (by kernel_rfl) (hS _ (List.mem_append_right _ (.tail _ (.head _))) (.head _)) (fun _ => V.ia (i := 0) Try.underlying23 Try.sizeOf30 rfl rfl (by decide)) rfl ?_
 refine GA.pg 20 rfl rfl rfl (by kernel_rfl) (hS _ (List.mem_append_right _ (.tail _ (.head _))) (.head _)) (fun _ => V.fa F30_2 rfl) rfl ?_
 refine GA.ldg  21 rfl rfl rfl (by kernel_rfl) (hS _ (List.mem_append_right _ (.tail _ (.head _))) (.head _)) Try.isAgg9 rfl (fun w1 h1 => by rw [hSW] at h1; exact h1.1 2 _ rfl) rfl ?_
 refine GA.pg 22 rfl rfl rfl (by kernel_rfl) (hS _ (List.mem_append_right _ (.tail _ (.head _))) (.head _)) (fun _ => V.mv rfl) rfl ?_
 refine GA.pg 23 rfl rfl rfl (by kernel_rfl) (hS _ (List.mem_append_right _ (.tail _ (.head _))) (.head _)) (fun _ => V.ia (i := 0) Try.underlying23 Try.sizeOf30 rfl rfl (by decide)) rfl ?_
 refine GA.pg 24 rfl rfl rfl (by kernel_rfl) (hS _ (List.mem_append_right _ (.tail _ (.head _))) (.head _)) (fun _ => V.fa F30_2 rfl) rfl ?_
 refine GA.ldg  25 rfl rfl rfl (by kernel_rfl) (hS _ (List.mem_append_right _ (.tail _ (.head _))) (.head _)) Try.isAgg9 rfl (fun w1 h1 => by rw [hSW] at h1; exact h1.2 2 _ rfl) rfl ?_
 refine GA.pg 26 rfl rfl rfl (by kernel_rfl) (hS _ (List.mem_append_right _ (.tail _ (.head _))) (.head _)) (fun _ => eqS_true hful (V.eqS rfl rfl)) rfl ?_
 refine GA.p 27 rfl (by kernel_rfl) (hS _ (List.mem_append_right _ (.tail _ (.head _))) (.head _)) (fun _ => V.pickT rfl rfl) rfl ?_
 refine GA.p 28 rfl (by kernel_rfl) (hS _ (List.mem_append_right _ (.tail _ (.head _))) (.head _)) (fun _ => V.mv rfl) rfl ?_
 refine GA.pg 29 rfl rfl rfl (by kernel_rfl) (hS _ (List.mem_append_right _ (.tail _ (.head _))) (.head _)) (fun _ => V.mv rfl) rfl ?_
 refine GA.pg 30 rfl rfl rfl (by kernel_rfl) (hS _ (List.mem_append_right _ (.tail _ (.head _))) (.head _)) (fun _ => V.ia (i := 0) Try.underlying23 Try.sizeOf30 rfl rfl (by decide)) rfl ?_
 refine GA.pg 31 rfl rfl rfl (by kernel_rfl) (hS _ (List.mem_append_right _ (.tail _ (.head _))) (.head _)) (fun _ => V.fa F30_0 rfl) rfl ?_
 refine GA.ldg  32 rfl rfl rfl (by kernel_rfl) (hS _ (List.mem_append_right _ (.tail _ (.head _))) (.head _)) Try.isAgg3 rfl (fun w1 h1 => by rw [hSW] at h1; exact h1.1 0 _ rfl) rfl ?_
 refine GA.pg 33 rfl rfl rfl (by kernel_rfl) (hS _ (List.mem_append_right _ (.tail _ (.head _))) (.head _)) (fun _ => V.eqI rfl rfl) rfl ?_
 refine GA.pg 34 rfl rfl rfl (by kernel_rfl) (hS _ (List.mem_append_right _ (.tail _ (.head _))) (.head _)) (fun _ => V.mv rfl) rfl ?_
 refine GA.pg 35 rfl rfl rfl (by kernel_rfl) (hS _ (List.mem_append_right _ (.tail _ (.head _))) (.head _)) (fun _ => V.ia (i := 0) Try.underlying23 Try.sizeOf30 rfl rfl (by decide)) rfl ?_
 refine GA.pg 36 rfl rfl rfl (by kernel_rfl) (hS _ (List.mem_append_right _ (.tail _ (.head _))) (.head _)) (fun _ => V.fa F30_0 rfl) rfl ?_
 refine GA.ldg  37 rfl rfl rfl (by kernel_rfl) (hS _ (List.mem_append_right _ (.tail _ (.head _))) (.head _)) Try.isAgg3 rfl (fun w1 h1 => by rw [hSW] at h1; exact h1.2 0 _ rfl) rfl ?_
 refine GA.pg 38 rfl rfl rfl (by kernel_rfl) (hS _ (List.mem_append_right _ (.tail _ (.head _))) (.head _)) (fun _ => V.eqI rfl rfl) rfl ?_
 refine GA.pg 39 rfl rfl rfl (by kernel_rfl) (hS _ (List.mem_append_right _ (.tail _ (.head _))) (.head _)) (fun _ => eqB_true hnum (V.eqB Try.underlying4 rfl rfl)) rfl ?_
 refine GA.p 40 rfl (by kernel_rfl) (hS _ (List.mem_append_right _ (.tail _ (.head _))) (.head _)) (fun _ => V.pickT rfl rfl) rfl ?_
 refine GA.p 41 rfl (by kernel_rfl) (hS _ (List.mem_append_right _ (.tail _ (.head _))) (.head _)) (fun _ => V.mv rfl) rfl ?_
 refine GA.pg 42 rfl rfl rfl (by kernel_rfl) (hS _ (List.mem_append_right _ (.tail _ (.head _))) (.head _)) (fun _ => V.mv rfl) rfl ?_
 refine GA.pg 43 rfl rfl rfl (by kernel_rfl) (hS _ (List.mem_append_right _ (.tail _ (.head _))) (.head _)) (fun _ => V.ia (i := 0) Try.underlying23 Try.sizeOf30 rfl rfl (by decide)) rfl ?_
 refine GA.pg 44 rfl rfl rfl (by kernel_rfl) (hS _ (List.mem_append_right _ (.tail _ (.head _))) (.head _)) (fun _ => V.fa F30_0 rfl) rfl ?_
 refine GA.ldg  45 rfl rfl rfl (by kernel_rfl) (hS _ (List.mem_append_right _ (.tail _ (.head _))) (.head _)) Try.isAgg3 rfl (fun w1 h1 => by rw [hSW] at h1; exact h1.1 0 _ rfl) rfl ?_
 refine GA.pg 46 rfl rfl rfl (by kernel_rfl) (hS _ (List.mem_append_right _ (.tail _ (.head _))) (.head _)) (fun _ => V.eqI rfl rfl) rfl ?_
 refine GA.pg 47 rfl rfl rfl (by kernel_rfl) (hS _ (List.mem_append_right _ (.tail _ (.head _))) (.head _)) (fun _ => V.mv rfl) rfl ?_
 refine GA.bc 111 rfl (fun h111 => ?_) (fun h111 => ?_)
 ·refine GA.un 48 rfl rfl rfl rfl rfl rfl (by kernel_rfl) (hS _ (List.mem_append_right _ (.tail _ (.head _))) (.head _)) rfl ?_
  refine GA.un 49 rfl rfl rfl rfl rfl rfl (by kernel_rfl) (hS _ (List.mem_append_right _ (.tail _ (.head _))) (.head _)) rfl ?_
  refine GA.un 50 rfl rfl rfl rfl rfl rfl (by kernel_rfl) (hS _ (List.mem_append_right _ (.tail _ (.head _))) (.head _)) rfl ?_
  refine GA.un 51 rfl rfl rfl rfl rfl rfl (by kernel_rfl) (hS _ (List.mem_append_right _ (.tail _ (.head _))) (.head _)) rfl ?_
  refine GA.un 52 rfl rfl rfl rfl rfl rfl (by kernel_rfl) (hS _ (List.mem_append_right _ (.tail _ (.head _))) (.head _)) rfl ?_
  refine GA.un 53 rfl rfl rfl rfl rfl rfl (by kernel_rfl) (hS _ (List.mem_append_right _ (.tail _ (.head _))) (.head _)) rfl ?_
  refine GA.un 54 rfl rfl rfl rfl rfl rfl (by kernel_rfl) (hS _ (List.mem_append_right _ (.tail _ (.head _))) (.head _)) rfl ?_
  refine GA.un 55 rfl rfl rfl rfl rfl rfl (by kernel_rfl) (hS _ (List.mem_append_right _ (.tail _ (.head _))) (.head _)) rfl ?_
  refine GA.un 56 rfl rfl rfl rfl rfl rfl (by kernel_rfl) (hS _ (List.mem_append_right _ (.tail _ (.head _))) (.head _)) rfl ?_
  refine GA.pg 57 rfl rfl rfl (by kernel_rfl) (hS _ (List.mem_append_right _ (.tail _ (.head _))) (.head _)) (fun _ => V.pickT rfl rfl) rfl ?_
  refine GA.p 58 rfl (by kernel_rfl) (hS _ (List.mem_append_right _ (.tail _ (.head _))) (.head _)) (fun _ => V.pickT rfl rfl) rfl ?_
  refine GA.p 59 rfl (by kernel_rfl) (hS _ (List.mem_append_right _ (.tail _ (.head _))) (.head _)) (fun _ => V.asg rfl) rfl ?_
  refine GA.done (by kernel_rfl) ?_
  exact GC.ret1 rfl rfl fun w' hw' => ⟨rfl, hw'.sub (List.nil_sublist _)⟩
 ·refine GA.pg 48 rfl rfl rfl (by kernel_rfl) (hS _ (List.mem_append_right _ (.tail _ (.head _))) (.head _)) (fun _ => V.mv rfl) rfl ?_
  refine GA.pg 49 rfl rfl rfl (by kernel_rfl) (hS _ (List.mem_append_right _ (.tail _ (.head _))) (.head _)) (fun _ => V.ia (i := 0) Try.underlying23 Try.sizeOf30 rfl rfl (by decide)) rfl ?_
  refine GA.pg 50 rfl rfl rfl (by kernel_rfl) (hS _ (List.mem_append_right _ (.tail _ (.head _))) (.head _)) (fun _ => V.fa F30_1 rfl) rfl ?_
  refine GA.ldg  51 rfl rfl rfl (by kernel_rfl) (hS _ (List.mem_append_right _ (.tail _ (.head _))) (.head _)) Try.isAgg28 rfl (fun w1 h1 => by rw [hSW] at h1; exact h1.1 1 _ rfl) rfl ?_
  refine GA.pg 52 rfl rfl rfl (by kernel_rfl) (hS _ (List.mem_append_right _ (.tail _ (.head _))) (.head _)) (fun _ => V.mv rfl) rfl ?_
  refine GA.pg 53 rfl rfl rfl (by kernel_rfl) (hS _ (List.mem_append_right _ (.tail _ (.head _))) (.head _)) (fun _ => V.ia (i := 0) Try.underlying23 Try.sizeOf30 rfl rfl (by decide)) rfl ?_
  refine GA.pg 54 rfl rfl rfl (by kernel_rfl) (hS _ (List.mem_append_right _ (.tail _ (.head _))) (.head _)) (fun _ => V.fa F30_1 rfl) rfl ?_
  refine GA.ldg  55 rfl rfl rfl (by kernel_rfl) (hS _ (List.mem_append_right _ (.tail _ (.head _))) (.head _)) Try.isAgg28 rfl (fun w1 h1 => by rw [hSW] at h1; exact h1.2 1 _ rfl) rfl ?_
  refine GA.one 56 rfl (by kernel_rfl) ?_
  refine GB.gd rfl rfl ?_
  refine GB.callP (v := .bool (decide (r.ps = r2.ps))) Try.call27 rfl rfl (hS _ (List.mem_append_right _ (.tail _ (.head _))) (.head _)) (fun w1 hw1 => f27_any w1 r.ps r2.ps pa pa2 (Own.prms ho hw1 (fun x hx => List.mem_append_right _ (.tail _ (List.mem_append_left _ (.tail _ hx))))) (Own.prms ho2 hw1 (fun x hx => List.mem_append_left _ (.tail _ hx))) (by have := ht.2.1; omega) (by have := ht2.2.1; omega)) ?_
  rw [decide_eq_true hpar]
  refine GA.pg 57 rfl rfl rfl (by kernel_rfl) (hS _ (List.mem_append_right _ (.tail _ (.head _))) (.head _)) (fun _ => V.pickF rfl rfl) rfl ?_
  refine GA.p 58 rfl (by kernel_rfl) (hS _ (List.mem_append_right _ (.tail _ (.head _))) (.head _)) (fun _ => V.pickT rfl rfl) rfl ?_
  refine GA.p 59 rfl (by kernel_rfl) (hS _ (List.mem_append_right _ (.tail _ (.head _))) (.head _)) (fun _ => V.asg rfl) rfl ?_
  refine GA.done (by kernel_rfl) ?_
  exact GC.ret1 rfl rfl fun w' hw' => ⟨rfl, hw'.sub (List.nil_sublist _)⟩
end Go.Proofs

/- A law's statement out of its walk: FnGinOrder. -/
set_option maxRecDepth 100000
namespace Go.Proofs.Ytnopecnbpflodaa.ginorder
open Go Bw Go.ChangeShapes Go.WideShapes Go.ChangeAt Go.RowKit
theorem contract (H : Type) (enc : TypeId × Value → H) (W : World) (base : Nat) (args : Array Value) (ds gs : List (DataW H)) (before : List MemPlace)
  (hval : ∀ (j : Nat) t v, Try.f6.params[j]? = some t → args[j]? = some v → Value.okWide Try.prog W .any base t v)
  (hW : DataW.Whole enc Try.prog Try.f6.params.toList Rows.fnGinOrderSpec.vars false W args.toList ds gs before) :
  Calls Try.prog 6 args W fun e W' => ∃ v, e = .returned v ∧ Rows.fnGinOrderSpec.post enc Try.prog Try.f6 false true false false W args v W' := by
 have hW' := hW
 obtain ⟨p, q, hA0, hV, rfl, hfz, hnd⟩ := hW
 have hA : DataW.TrodAll enc Try.prog W 0 (fun _ => true) true [34, 5, 9] args.toList ds p := hA0
 obtain ⟨v0, vs0, d0, ds0, p0, q0, hargs, rfl, rfl, h0, r0⟩ := trodAll_cons hA
 obtain ⟨v1, vs_1, d1, ds1, p1, q1, rfl, rfl, rfl, h1, r1⟩ := trodAll_cons r0
 obtain ⟨v2, vs_2, d2, ds2, p2, q2, rfl, rfl, rfl, h2, r2⟩ := trodAll_cons r1
 obtain ⟨rfl, rfl, rfl⟩ := trodAll_nil r2
 obtain rfl : args = #[v0, v1, v2] := by cases args; simp_all
 obtain ⟨rs0, hrs0⟩ := open_parts2 (hval 0 34 v0 rfl rfl) h0
 obtain ⟨c1, rfl⟩ := open_u8 (hval 1 5 v1 rfl rfl) h1
 obtain ⟨l2, rfl⟩ := open_str Try.underlying9 (hval 2 9 v2 rfl rfl)
 refine (f6_any W rs0 v0 hrs0 c1 l2).mono fun e W' ⟨he, hf⟩ => ⟨_, he, ?_⟩
 refine post_law hW' rfl rfl ?_ (by kernel_rfl) (below_of hf)
 obtain ⟨rfl, rfl⟩ := trodVars_none hV
 rfl
theorem reads (os : Os) {H : Type} (enc : TypeId × Value → H) : ∃ places, DataW.whole enc Try.prog ((plainWorld os).forCall (fun _ _ => 0) ⟨#[], #[.slice none 0 0, .int .u8 0, .string ⟨#[]⟩], []⟩).memory Try.f6.params.toList Rows.fnGinOrderSpec.vars false (#[.slice none 0 0, .int .u8 0, .string ⟨#[]⟩] : Array Value).toList 8 = some ([.nil, .lit (.int .u8 0), .lit (.string [])], [], places) :=
 ⟨[], by kernel_rfl⟩
theorem lifted (os : Os) (started : os.Started) (H : Type) (enc : TypeId × Value → H) (F : Stop.Interp) :
  ReturnsInHanded {} Try.checked os 6 .any ((OpenSpec.ofChange Rows.fnGinOrderSpec).preRow enc Try.prog Try.f6 Rows.fnGinOrderRow.domain false Rows.fnGinOrderRow.laid) (((OpenSpec.ofChange Rows.fnGinOrderSpec).at F).post enc Try.prog Try.f6 false true false false) := by
 obtain ⟨places, hx⟩ := reads os enc
 refine returnsInHanded_of_row (C := Try.checked) (s := OpenSpec.ofChange Rows.fnGinOrderSpec) try_own started (by kernel_rfl) Try.func6
  (witness_row_at (enc := enc) (C := Try.checked) false (plainWorld os) #[.slice none 0 0, .int .u8 0, .string ⟨#[]⟩] rfl (by kernel_rfl) (by kernel_rfl) (by kernel_rfl)
   (OpenSpec.preRow_of_cond 8 hx (by kernel_rfl) (fun k hk => by cases hk) (by kernel_rfl) (laid_none _))) ?_
 intro W base args ds gs before hval hW _ _ _ hL _ _
 exact contract H enc W base args ds gs before hval hW
theorem said : Rows.FnGinOrderSaid :=
 OpenClaim.holds_of_cond 6 Try.f6 rfl rfl rfl rfl rfl rfl rfl ⟨rfl, rfl, rfl, rfl, rfl⟩ rfl rfl rfl rfl rfl (by kernel_rfl) Try.func6 (by kernel_rfl)
  (of_decide_eq_true (by kernel_rfl)) (by unfold Func.isWrapper; first | (rw [if_pos (by decide +kernel)]; kernel_rfl) | (rw [if_neg (by decide +kernel)]; exact ⟨rfl, rfl⟩))
  (fun os started H enc _ F => by rw [OpenClaim.pre_eq_preRow]; exact lifted os started H enc F)
end Go.Proofs.Ytnopecnbpflodaa.ginorder
