/- From a law to its row. -/
import Derived.Test.YtekclaobeccbdaaDoorCards
import Derived.Test.YtekclaobeccbdaaDoorTie
import Derived.Test.YtekclaobeccbdaaDoorBg
import Derived.WalkKit
import Derived.ProofKit
import Derived.OpenShut
import Derived.SliceStrings
import Derived.Carry
import Derived.ChangeSame
import Derived.Deep.DeepHandedRow
import Derived.Lib.LaidTab
/- From a law's walk to its row: what the arguments are in memory; what is left as it was. -/
namespace Go.Proofs
set_option maxRecDepth 100000
open Go Bw Go.ChangeShapes Go.WideShapes Go.ChangeAt Go.RowKit Go.WideElems

theorem tryd_own : ownKnob Tryd.prog.godebug = none := by kernel_rfl
theorem tryd_lo : laidOutB Tryd.prog = true := by kernel_rfl
theorem tryd_c9 : Tryd.prog.cellsOf 9 = 1 := by kernel_rfl
theorem tryd_c23 : Tryd.prog.cellsOf 23 = 3 := by kernel_rfl

theorem below_of {W W' : World} (h : HF W (fun _ => False) [] W') : Below W.heap.size W W' := ⟨h.os, h.tape, h.output, h.size, fun b hb => h.frame b hb id⟩

theorem trodAll_stays {H : Type} {enc : TypeId × Value → H} {P : Program} (lo : laidOutB P = true) {W W' : World} {sp' : Nat → Bool} : ∀ (ts : List TypeId) (vs : List Value) (ds : List (DataW H)) (ps : List MemPlace), ts.all (fun t => P.readableRec t && decide (t < P.types.size)) = true →
    DataW.TrodAll enc P W 0 (fun _ => true) true ts vs ds ps → (∀ p ∈ ps, W.sameAt W' p) → (∀ p ∈ ps, sp' p.block = true) → DataW.TrodAll enc P W' 0 sp' true ts vs ds ps := by
  intro ts
  induction ts with
  | nil =>
    intro vs ds ps _ h _ _
    cases vs with
    | nil => cases ds with
      | nil => exact h
      | cons => exact h.elim
    | cons => cases ds <;> exact h.elim
  | cons t ts ih =>
    intro vs ds ps hb h hs hsp
    cases vs with
    | nil => cases ds <;> exact h.elim
    | cons v vs =>
      cases ds with
      | nil => exact h.elim
      | cons d ds =>
        obtain ⟨p, q, h1, h2, rfl⟩ := h
        simp only [List.all_cons, Bool.and_eq_true, decide_eq_true_eq] at hb
        exact ⟨p, q, Trod_stays lo hb.1.1 hb.1.2 h1 (fun x hx => hs x (List.mem_append_left _ hx)) (fun x hx => hsp x (List.mem_append_left _ hx)),
          ih vs ds q hb.2 h2 (fun x hx => hs x (List.mem_append_right _ hx)) (fun x hx => hsp x (List.mem_append_right _ hx)), rfl⟩

theorem ok_true {W' : World} : Value.okWide Tryd.prog W' .any 0 4 (.bool true) := okWide_bool_mk Tryd.underlying4 _

/-- true, and everything reads as it did -/
theorem post_law {H : Type} {enc : TypeId × Value → H} {f : Func} {s : ChangeSpec} {apart fresh handsOn again : Bool} {W W' : World} {args : Array Value} {ds gs : List (DataW H)} {before : List MemPlace}
    (hW : DataW.Whole enc Tryd.prog f.params.toList s.vars apart W args.toList ds gs before) (hv : s.vars = []) (hr : f.resultTypes = #[4]) (hf : s.fn H (ds ++ gs) = { results := [.lit (.bool true)], args := ds })
    (hb : f.params.toList.all (fun t => Tryd.prog.readableRec t && decide (t < Tryd.prog.types.size)) = true) (hB : Below W.heap.size W W') : s.post enc Tryd.prog f apart fresh handsOn again W args (.bool true) W' := by
  have hW' := hW
  obtain ⟨pa, pv, hA, hV, rfl, hz, hn⟩ := hW
  have hg : gs = [] ∧ pv = [] := by
    rw [hv] at hV
    cases gs with
    | nil => exact ⟨rfl, hV⟩
    | cons g r => exact absurd hV (by intro h; cases h)
  obtain ⟨rfl, rfl⟩ := hg
  have hlt : ∀ p ∈ pa, p.block < W.heap.size := fun p hp => hA.lt p hp
  have hsame : ∀ p ∈ pa, W.sameAt W' p := fun p hp => hB.same (hlt p hp)
  have hres : ∀ (b : Nat) (sp : Nat → Bool) (hd : Bool), DataW.TrodAll enc Tryd.prog W' b sp hd f.resultTypes.toList ((Value.bool true).resultList f.resultTypes.size) (s.fn H (ds ++ [])).results [] := fun b sp hd => by
    rw [hf, hr]
    exact trodAll_mk1 (shut_bool Tryd.underlying4 true)
  have hargs : ∀ sp : Nat → Bool, (∀ p ∈ pa, sp p.block = true) → DataW.TrodAll enc Tryd.prog W' 0 sp true f.params.toList args.toList (s.fn H (ds ++ [])).args pa := fun sp hsp => by
    rw [hf]; exact trodAll_stays tryd_lo _ _ _ _ hb hA hsame hsp
  have hvars : ∀ sp : Nat → Bool, DataW.TrodVars enc Tryd.prog W' sp s.vars (s.fn H (ds ++ [])).vars [] := fun sp => by
    rw [hf, hv]; rfl
  refine ⟨ds, [], pa ++ [], [], pa, [], hW', hres _ _ _, hargs _ (fun p hp => by simpa using hlt p hp), hvars _, World.keptBut_mono (fun p hp => ⟨hp, .inr (by simpa using hp)⟩) (hB.frame _), fun _ => ?_⟩
  refine ⟨ok_one hr rfl ok_true, _, _, ([] ++ pa) ++ [], ⟨[] ++ pa, [], trodAll_append (hargs _ (fun _ _ => rfl)) (hres _ _ _), hvars _, rfl, ?_, ?_⟩, ?_⟩
  · intro b off hp
    have hp' : MemPlace.cell b off ∈ pa := by simpa using hp
    rw [hB.frozen (p := ⟨b, off, none⟩) (hlt _ hp')]
    exact hz b off (by simpa using hp)
  · intro ha
    have := hn ha
    simpa using this
  · intro p hp _
    simpa using hp

section
variable {H : Type} {enc : TypeId × Value → H} {P : Program} {W : World} {b0 : Nat} {v : Value} {d : DataW H} {ps : List MemPlace}

theorem addr_of {a : Addr} {u : Value} (h : W.cell? a = some u) : ∃ b o, a = ⟨b, o, none⟩ := by
  obtain ⟨b, o, sp⟩ := a
  have : sp = none := World.cell?_spot h
  exact ⟨b, o, by rw [this]⟩
theorem add_at (b o j : Nat) : (⟨b, o, none⟩ : Addr).add j = ⟨b, o + j, none⟩ := by
  by_cases h : j = 0
  · subst h; simp [Addr.add]
  · simp [Addr.add, h]
theorem open_txt {t e : TypeId} (ht : P.underlying t = some (.slice e)) (he : P.underlying e = some .string) (hc : P.cellsOf e = 1) (hval : Value.okWide P W .any b0 t v) (hd : DataW.Trod enc P W 0 (fun _ => true) true t v d ps) :
    ∃ ad cp vs, v = .slice ad vs.length cp ∧ vs.length ≤ cp ∧ TxAt W ad vs := by
  obtain ⟨a0, len0, cap0, rfl⟩ := okWide_slice ht hval
  obtain ⟨fuel, hf⟩ := hd
  have hcs0 : (Value.slice a0 len0 cap0).cells.toList = [.slice a0 len0 cap0] := rfl
  rw [hcs0] at hf
  rcases open_strings ht he hc hf with ⟨h1, _⟩ | ⟨a, len, cap, ss, h1, _, hl, hm, hz, hx, hcell, _⟩
  · simp only [List.cons.injEq, Value.slice.injEq, and_true] at h1
    obtain ⟨rfl, rfl, rfl⟩ := h1
    exact ⟨none, 0, [], rfl, Nat.le_refl _, fun j x hx => by simp at hx⟩
  · simp only [List.cons.injEq, Value.slice.injEq, and_true] at h1
    obtain ⟨rfl, rfl, rfl⟩ := h1
    simp only [if_true] at hz
    have hlen : (ss.take len0).length = len0 := by rw [List.length_take]; omega
    refine ⟨some a, cap0, (ss.take len0).map fun s => s.data.toList, ?_, ?_, fun j x hx => ?_⟩
    · rw [List.length_map, hlen]
    · rw [List.length_map, hlen]; exact hl
    · rw [List.getElem?_map, List.getElem?_take] at hx
      split at hx
      · obtain ⟨s, hs, rfl⟩ := Option.map_eq_some_iff.1 hx
        have hlt := (List.getElem?_eq_some_iff.1 hs).1
        have h2 := hcell j hlt
        obtain ⟨b, o, rfl⟩ := addr_of (show W.cell? a = _ by simpa [Addr.add] using hcell 0 (by omega))
        refine ⟨b, o, rfl, ?_⟩
        rw [add_at] at h2
        rw [h2, List.getD_eq_getElem?_getD, hs, Option.getD_some, S_of]
      · cases hx

theorem open_str {t : TypeId} (ht : P.underlying t = some .string) (hval : Value.okWide P W .any b0 t v) : ∃ l, v = S l := by
  obtain ⟨s, rfl⟩ := okWide_string ht hval
  exact ⟨s.data.toList, S_of s⟩

theorem str_of {u : Value} {e : TypeId} (he : P.underlying e = some .string) (h : Cell.okWide P W .any b0 e u) : ∃ l, u = S l := by
  have : Value.okWide P W .any b0 e u := by unfold Value.okWide; rw [he]; exact h
  exact open_str he this

theorem open_rb {t e : TypeId} {fs : Array Field} (ht : P.underlying t = some (.struct fs)) (hts : P.cellTypes P.depth t = some [e, e, e]) (hc : P.cellsOf t = 3) (he : P.underlying e = some .string) (hval : Value.okWide P W .any b0 t v) : ∃ r : RB, v = .agg r.cells.toArray := by
  unfold Value.okWide at hval
  rw [ht] at hval
  obtain ⟨cs, rfl, hsz, ts, hts', _, hall⟩ := hval
  rw [hts] at hts'
  cases hts'
  rw [hc] at hsz
  obtain ⟨a, b, c, rfl⟩ : ∃ a b c, cs = #[a, b, c] := by
    obtain ⟨l⟩ := cs
    match l, hsz with
    | [a, b, c], _ => exact ⟨a, b, c, rfl⟩
  obtain ⟨u0, hu0, h0⟩ := hall 0 a rfl
  obtain ⟨u1, hu1, h1⟩ := hall 1 b rfl
  obtain ⟨u2, hu2, h2⟩ := hall 2 c rfl
  cases hu0
  cases hu1
  cases hu2
  obtain ⟨x, rfl⟩ := str_of he h0
  obtain ⟨y, rfl⟩ := str_of he h1
  obtain ⟨z, rfl⟩ := str_of he h2
  exact ⟨⟨x, y, z⟩, rfl⟩

theorem rb_choice {a : Addr} : ∀ {n : Nat}, (∀ i, i < n → ∃ r : RB, ∀ j v, r.cells[j]? = some v → W.cell? (a.add (i * 3 + j)) = some v) → ∃ Rs : List RB, Rs.length = n ∧ ∀ i r, Rs[i]? = some r → ∀ j v, r.cells[j]? = some v → W.cell? (a.add (i * 3 + j)) = some v
  | 0, _ => ⟨[], rfl, fun i r h => by simp at h⟩
  | n + 1, each => by
    obtain ⟨Rs, h1, h2⟩ := rb_choice (a := a) (n := n) (fun i hi => each i (by omega))
    obtain ⟨r, hr⟩ := each n (by omega)
    refine ⟨Rs ++ [r], by simp [h1], fun i x hx j v hj => ?_⟩
    by_cases hi : i < n
    · rw [List.getElem?_append_left (by omega)] at hx; exact h2 i x hx j v hj
    · rw [List.getElem?_append_right (by omega)] at hx
      have hi' : i = n := by
        have := (List.getElem?_eq_some_iff.1 hx).1
        simp at this; omega
      subst hi'
      rw [h1, Nat.sub_self] at hx
      simp only [List.getElem?_cons_zero, Option.some.injEq] at hx
      subst hx
      exact hr j v hj
theorem open_rts {t e s : TypeId} {f0 f1 f2 : Field} (ht : P.underlying t = some (.slice e)) (he : P.underlying e = some (.struct #[f0, f1, f2])) (hc : P.cellsOf e = 3) (h0 : f0.type = s ∧ f0.offset = 0) (h1 : f1.type = s ∧ f1.offset = 1) (h2 : f2.type = s ∧ f2.offset = 2) (hs : P.underlying s = some .string) (hcs : P.cellsOf s = 1)
    (hval : Value.okWide P W .any b0 t v) (hd : DataW.Trod enc P W 0 (fun _ => true) true t v d ps) : ∃ ad cp Rs, v = .slice ad Rs.length cp ∧ Rs.length ≤ cp ∧ RtsAt W ad Rs := by
  obtain ⟨a0, len0, cap0, rfl⟩ := okWide_slice ht hval
  obtain ⟨fuel, hf⟩ := hd
  have hcs0 : (Value.slice a0 len0 cap0).cells.toList = [.slice a0 len0 cap0] := rfl
  rw [hcs0] at hf
  rcases DataW.trod_slice ht hf with ⟨g1, _⟩ | ⟨a, len, cap, elems, rest, n, _, g1, _, _, hl, _, hlen, hel, _, _⟩
  · simp only [List.cons.injEq, Value.slice.injEq, and_true] at g1
    obtain ⟨rfl, rfl, rfl⟩ := g1
    exact ⟨none, 0, [], rfl, Nat.le_refl _, fun j x hx => by simp at hx⟩
  · simp only [List.cons.injEq, Value.slice.injEq, and_true] at g1
    obtain ⟨rfl, rfl, rfl⟩ := g1
    have each : ∀ i, i < len0 → ∃ r : RB, ∀ j v, r.cells[j]? = some v → W.cell? (a.add (i * 3 + j)) = some v := by
      intro i hi
      have hb := hel i hi
      rw [List.getElem?_eq_getElem (by omega), hc, Option.bind_eq_some_iff] at hb
      obtain ⟨cs, hcells, hy⟩ := hb
      obtain ⟨xs, m, _, _, hcl, hxl, hfld⟩ := DataW.trod_struct he hy
      rw [hc] at hcl
      obtain ⟨x, y, z, rfl⟩ : ∃ x y z, cs = [x, y, z] := by
        match cs, hcl with
        | [x, y, z], _ => exact ⟨x, y, z, rfl⟩
      have str : ∀ (k : Nat) (f : Field) (u : Value), #[f0, f1, f2][k]? = some f → f.type = s → ([x, y, z].drop f.offset).take 1 = [u] → ∃ l, u = S l := by
        intro k f u hk hty hu
        have := hfld k f hk
        rw [hty, hcs, hu] at this
        have hk3 : k < xs.length := by rw [hxl]; exact (Array.getElem?_eq_some_iff.1 hk).1
        rw [List.getElem?_eq_getElem hk3] at this
        obtain ⟨sb, hsb, _, _⟩ := DataW.trod_string hs this
        simp only [List.cons.injEq, and_true] at hsb
        exact ⟨sb.data.toList, by rw [hsb, S_of]⟩
      obtain ⟨l0, rfl⟩ := str 0 f0 x rfl h0.1 (by rw [h0.2]; rfl)
      obtain ⟨l1, rfl⟩ := str 1 f1 y rfl h1.1 (by rw [h1.2]; rfl)
      obtain ⟨l2, rfl⟩ := str 2 f2 z rfl h2.1 (by rw [h2.2]; rfl)
      refine ⟨⟨l0, l1, l2⟩, fun j v hj => ?_⟩
      have hj3 : j < 3 := (List.getElem?_eq_some_iff.1 hj).1
      have hcell := (World.cells?_some hcells).2.2 j hj3
      rw [show [S l0, S l1, S l2][j]? = some v from hj] at hcell
      rw [← hcell, Addr.add_add]
    have hch := rb_choice (a := a) each
    obtain ⟨Rs, g1, g2⟩ := hch
    refine ⟨some a, cap0, Rs, by rw [g1], by rw [g1]; exact hl, fun i r hr => ?_⟩
    have h00 : ∃ r0, Rs[0]? = some r0 := ⟨_, List.getElem?_eq_getElem (by have := (List.getElem?_eq_some_iff.1 hr).1; omega)⟩
    obtain ⟨r0, hr0⟩ := h00
    obtain ⟨b, o, rfl⟩ := addr_of (show W.cell? a = _ by simpa [Addr.add] using g2 0 r0 hr0 0 (S r0.m) rfl)
    refine ⟨b, o, rfl, fun j v hj => ?_⟩
    have := g2 i r hr j v hj
    rw [add_at] at this
    rw [← Nat.add_assoc] at this
    exact this
end
end Go.Proofs
