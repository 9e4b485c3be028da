/- The law FnGinStatic holds for every input: among routes without parameters a path that is none of them is recommended with a slash more, or without the one at its end, just if this is one of them. -/
import Derived.Test.YtnopecnbpflodaaSa
import Derived.Test.YtnopecnbpflodaaKa
import Derived.Test.YtnopecnbpflodaaPq
import Derived.Test.YtnopecnbpflodaaRowb
/- FnGinFind. Printed by wip/mk_gs2x.py. -/
set_option maxRecDepth 20000
namespace Go.Proofs
open Go Bw
open Gt
theorem Prms.none (w : World) : Prms w (.slice none 0 0) [] := ⟨_, _, rfl, fun j x h => by simp at h⟩
theorem cells_of {w0 w : World} {D : Nat → Prop} {H : SH} (hw : HF w0 D H w) {b : Nat} {wf : Bool} {l : List Value} {T : TypeId} {fz : Nat × Nat} (off : Nat) (cs : List Value) (hm : (⟨b, wf, .row l T fz⟩ : Ent) ∈ H) (hc : ∀ (j : Nat) v, cs[j]? = some v → l[off + j]? = some v) : ∀ (j : Nat) v, cs[j]? = some v → w.cell? ⟨b, off + j, none⟩ = some v := fun j v hj =>
 cell_row hw hm (by rw [nth_eq]; exact hc j v hj)
theorem fnd_at (r : Res) (pa : Value) (sp : List Value) (j : Nat) (v : Value) (h : (fndV r pa)[j]? = some v) : (fndV r pa ++ sp)[0 + 0 * 4 + j]? = some v := by
 have hl := (List.getElem?_eq_some_iff.1 h).1
 have e : 0 + 0 * 4 + j = j := by omega
 rw [e, List.getElem?_append_left hl]; exact h
end Go.Proofs

/- FnGinMany. Printed by wip/mk_gs3x.py. -/
set_option maxRecDepth 20000
namespace Go.Proofs
open Go Bw
open Gt
theorem Fnds.at {rr : List Res} {cells : List Value} {Hq : SH} (h : Fnds rr cells Hq) : cells.length = rr.length * 4 ∧ ∀ (j : Nat) r, rr[j]? = some r → ∃ pa Ha, Own 32 2 pa r.ps.length (flatP r.ps) Ha ∧ (∀ x ∈ Ha, x ∈ Hq) ∧ ∀ (k : Nat) v, (fndV r pa)[k]? = some v → cells[j * 4 + k]? = some v := by
 induction h with
 | nil => exact ⟨rfl, fun j r hj => by simp at hj⟩
 | @snoc rs cells H Hq r pv h ho ih =>
  obtain ⟨h1, h2⟩ := ih
  have hf : (fndV r pv).length = 4 := rfl
  refine ⟨by rw [List.length_append, List.length_append, h1, hf, List.length_singleton]; omega, fun j x hj => ?_⟩
  by_cases hl : j < rs.length
  ·rw [List.getElem?_append_left hl] at hj
   obtain ⟨pa, Ha, h3, h4, h5⟩ := h2 j x hj
   refine ⟨pa, Ha, h3, fun y hy => List.mem_append_left _ (h4 y hy), fun k v hk => ?_⟩
   have h6 := h5 k v hk
   rw [List.getElem?_append_left (List.getElem?_eq_some_iff.1 h6).1]; exact h6
  ·rw [List.getElem?_append_right (by omega)] at hj
   have hj0 : j - rs.length = 0 := by
    have := (List.getElem?_eq_some_iff.1 hj).1
    rw [List.length_singleton] at this; omega
   rw [hj0] at hj
   cases hj
   refine ⟨pv, Hq, ho, fun y hy => List.mem_append_right _ hy, fun k v hk => ?_⟩
   have e : j * 4 + k = cells.length + k := by rw [h1]; omega
   rw [e, List.getElem?_append_right (by omega), Nat.add_sub_cancel_left]; exact hk
end Go.Proofs

/- Trees of texts alone: what is recommended. No program in sight. -/
namespace Gt
open Gs Tr
/-- a slash more, or the one at the end less -/
def slashN (p : List UInt8) : List UInt8 := if [47] <:+ p then p.take (p.length - 1) else p ++ [47]
theorem slash_end (a : List UInt8) : slashN (a ++ [47]) = a := by
  unfold slashN
  rw [if_pos (List.suffix_append _ _)]
  simp
theorem slash_no {p : List UInt8} (h : ¬ [47] <:+ p) : slashN p = p ++ [47] := if_neg h
/-- texts alone -/
def Txo (f : F) : Prop := ∀ s v, f s = some v → ∃ t, s = bs t
theorem bs_cons (c : UInt8) (t : List UInt8) : bs (c :: t) = .b c :: bs t := rfl
section
variable {u : List UInt8 → List UInt8} {cP cS : Nat} {F0 : F} {p0 : List UInt8}
/-- a node of texts: what it is -/
theorem txo_node {n : T0} {f : F} (rep : Rep true n f) (hn : n.nt ≠ 2) (ht : Txo f) {c0 : UInt8} (hd : ∀ s v, f s = some v → ∃ r, s = .b c0 :: r) : ∃ P idx nt pr h full kids, n = .node () P idx false nt pr h full kids ∧ St true P idx false nt h full kids f ∧ P ≠ [] := by
  have rep0 := rep
  cases rep with
  | pa => exact absurd rfl hn
  | pk => exact absurd rfl hn
  | ca =>
    obtain ⟨t, e⟩ := ht _ _ (one_self _ _)
    match t, e with
    | [], e => simp [bs] at e
    | [a], e => simp [bs] at e
    | a :: b :: t, e => simp [bs] at e
  | st wn wk hp hnt =>
    rename_i path idx wild nt pr h full kids _ _ _ _ _ _ _ _ _ _ _ _ _ _
    have x := rep0.toSt hnt
    cases wild with
    | true =>
      exfalso
      obtain ⟨m, w, _, _, _, _, ⟨s, v, hs⟩, _⟩ := x.hw rfl
      obtain ⟨t, e⟩ := ht _ _ hs
      have hm : Tok.P m ∈ bs t := by rw [← e]; simp
      obtain ⟨y, _, hy⟩ := List.mem_map.1 hm
      cases hy
    | false =>
      refine ⟨path, idx, nt, pr, h, full, kids, rfl, x, fun hpe => ?_⟩
      obtain ⟨k, h1, h2, h3⟩ := x.head hd hpe
      subst h1 h2 hpe
      have hr := x.hk 0 c0 k rfl rfl
      generalize hf : at_ f [] c0 = f2 at hr
      cases hr with
      | st wn wk hp hnt => simp only [n_nt] at h3; omega
      | pa => cases h3
      | pk => cases h3
      | @ca _ _ _ num _ full2 n hn =>
        have e1 : at_ f [] c0 [.b 47, .A n] = some (num, full2) := by rw [hf]; exact one_self _ _
        unfold at_ at e1
        split at e1
        · obtain ⟨t, e⟩ := ht _ _ e1
          have hm : Tok.A n ∈ bs t := by rw [← e]; simp
          obtain ⟨y, _, hy⟩ := List.mem_map.1 hm
          cases hy
        · cases e1
theorem static_run (hin : ∀ a, p0 = a ++ [47] → a ≠ [] → ∀ t v, t ≠ [] → F0 (bs (a ++ t)) ≠ some v) (hp0 : p0 ≠ [47]) : ∀ (g : Nat) (n : T0) (f : F) (pre p : List UInt8) (c0 : UInt8) (q0 : List UInt8) (ps : Vs) (r : Res), Rep true n f → n.nt ≠ 2 → Txo f → (∃ s v, f s = some v) → (∀ s v, f s = some v → ∃ r, s = .b c0 :: r) → p = c0 :: q0 → (∀ s, s.head? = some (.b c0) → f s = F0 (bs pre ++ s)) → p0 = pre ++ p →
    getC u cP cS g n p ps [] = some r → r.h = none → (r.tsr = true ↔ ∃ v, F0 (bs (slashN p0)) = some v)
  | 0, _, _, _, _, _, _, _, _, _, _, _, _, _, _, _, _, h, _ => by cases h
  | g + 1, n, f, pre, p, c0, q0, ps, r, rep, hn, ht, hne, hd, hp, hF, he, h, hr => by
    obtain ⟨P, idx, nt, pr, h0, full, kids, rfl, x, hP⟩ := txo_node rep hn ht hd
    -- a path's end that is a slash: no longer route here
    have hends : ∀ a, p0 = a ++ [47] → (∀ s v, f s = some v → ∃ t, t ≠ [] ∧ bs pre ++ s = bs (a ++ t)) → False := fun a ha hall => by
      obtain ⟨s, v, hs⟩ := hne
      obtain ⟨t, ht0, hte⟩ := hall s v hs
      refine hin a ha (fun e => hp0 (by rw [ha, e]; rfl)) t v ht0 ?_
      rw [← hte, ← hF s (by obtain ⟨r, rfl⟩ := hd s v hs; rfl)]; exact hs
    have hPc : ∃ P', P = c0 :: P' ∨ ¬ P <+: p := by
      cases P with
      | nil => exact absurd rfl hP
      | cons d P' =>
        by_cases hdp : (d :: P') <+: p
        · obtain ⟨t, ht⟩ := hdp
          rw [hp] at ht
          cases ht
          exact ⟨P', .inl rfl⟩
        · exact ⟨[], .inr hdp⟩
    by_cases hpp : P <+: p
    · obtain ⟨P', hP'⟩ := hPc
      replace hP' := hP'.resolve_right (fun h => h hpp)
      have hFP : ∀ t, F0 (bs (pre ++ P) ++ t) = f (bs P ++ t) := fun t => by
        rw [hF (bs P ++ t) (by rw [hP']; rfl), bs_app, List.append_assoc]
      obtain ⟨t, ht2⟩ := hpp
      cases t with
      | nil =>
        rw [List.append_nil] at ht2
        cases h0 with
        | some k =>
          rw [get_eq ht2.symm rfl] at h
          cases h
          cases hr
        | none =>
          -- the path does not end with a slash
          have hno47 : ¬ [47] <:+ p0 := fun ⟨a, ha⟩ => by
            refine hends a ha.symm fun s v hs => ?_
            obtain ⟨r', hr'⟩ := x.hpre s v hs
            obtain ⟨t, htt⟩ := ht s v hs
            rw [htt] at hr' ⊢
            obtain ⟨t2, ht2'⟩ : ∃ t2, t = P ++ t2 := by
              have := congrArg txt hr'
              rw [txt_app, txt_bs, txt_bs] at this
              exact ⟨_, this⟩
            refine ⟨[47] ++ t2, by simp, ?_⟩
            rw [← bs_app, ht2', ← List.append_assoc, ← List.append_assoc, ha, he, ← ht2]
          have hp47 : p ≠ [47] := fun e => hno47 ⟨pre, by rw [he, e]⟩
          rw [get_endB ht2.symm rfl (.inr rfl), if_neg (fun e => hp47 e.1), if_neg (fun e => hp47 e.1)] at h
          rw [slash_no hno47, he, ← ht2, bs_app, hFP]
          cases hi : idxOf 47 idx with
          | none =>
            rw [hi] at h
            cases h
            rw [show bs [47] = [.b 47] from rfl, x.hno 47 (idxOf_not.1 hi)]
            simp
          | some i =>
            have hj := idxOf_mem hi
            have hl := (List.getElem?_eq_some_iff.1 hj).1
            obtain ⟨k, hk⟩ : ∃ k, kids[i]? = some k := ⟨_, List.getElem?_eq_getElem (by have := x.hlen; omega)⟩
            have hrk := x.hk i 47 k hj hk
            have hkn := x.hkn i k hl hk
            have htk : Txo (at_ f P 47) := fun s v hs => by
              unfold at_ at hs
              split at hs
              · obtain ⟨t, htt⟩ := ht _ _ hs
                obtain ⟨t2, ht2'⟩ : ∃ t2, s = bs t2 := by
                  have h1 : (bs P ++ s).drop P.length = (bs t).drop P.length := congrArg (fun l => l.drop P.length) htt
                  rw [List.drop_left' (bs_len P)] at h1
                  exact ⟨t.drop P.length, by rw [h1]; unfold bs; rw [List.map_drop]⟩
                exact ⟨t2, ht2'⟩
              · cases hs
            obtain ⟨Pk, idxk, ntk, prk, hk0, fullk, kidsk, rfl, xk, hPk⟩ := txo_node hrk (by rcases hkn with e | e <;> rw [e] <;> decide) htk at_head
            have hnk3 : ntk = 0 ∨ ntk = 1 := xk.hnt
            rw [hi] at h
            replace h : (match kids[i]? with
              | some k => (if k.nt = 3 ∧ k.kids = [] then none else some ⟨none, ps, (decide (k.path.length = 1) && k.h.isSome) || (decide (k.nt = 3) && ((k.kids.head?).map (·.h.isSome)).getD false), []⟩)
              | none => none) = some r := h
            rw [hk] at h
            replace h : (if ntk = 3 ∧ kidsk = [] then none else some (⟨none, ps, (decide (Pk.length = 1) && hk0.isSome) || (decide (ntk = 3) && ((kidsk.head?).map (·.h.isSome)).getD false), []⟩ : Res)) = some r := h
            rw [if_neg (by omega), decide_eq_false (show ¬ ntk = 3 by omega), Bool.false_and, Bool.or_false] at h
            cases h
            have hat : f (bs P ++ bs [47]) = at_ f P 47 (bs [47]) := (if_pos rfl).symm
            rw [hat]
            show (decide (Pk.length = 1) && hk0.isSome) = true ↔ _
            by_cases hl1 : Pk.length = 1
            · obtain ⟨d, rfl⟩ : ∃ d, Pk = [d] := by
                match Pk, hl1 with
                | [d], _ => exact ⟨d, rfl⟩
              have hd47 : d = 47 := by
                obtain ⟨s, v, hs⟩ := x.hne 47 (List.mem_of_getElem? hj)
                have hs2 : at_ f P 47 (.b 47 :: s) = some v := (if_pos rfl).trans hs
                obtain ⟨r', e⟩ := xk.hpre _ _ hs2
                simp [bs] at e
                exact e.1.symm
              subst hd47
              rw [xk.hh]
              cases hk0 <;> simp
            · rw [decide_eq_false hl1, Bool.false_and]
              constructor
              · intro e; cases e
              · rintro ⟨v, hv⟩
                obtain ⟨r', e⟩ := xk.hpre _ _ hv
                have := congrArg List.length e
                rw [List.length_append, bs_len, bs_len] at this
                have hPl : 0 < Pk.length := List.length_pos_iff.2 hPk
                simp at this
                omega
      | cons c q =>
        cases hi : idxOf c idx with
        | some i =>
          have hj := idxOf_mem hi
          have hl := (List.getElem?_eq_some_iff.1 hj).1
          obtain ⟨k, hk⟩ : ∃ k, kids[i]? = some k := ⟨_, List.getElem?_eq_getElem (by have := x.hlen; omega)⟩
          have hrk := x.hk i c k hj hk
          have hkn := x.hkn i k hl hk
          have htk : Txo (at_ f P c) := fun s v hs => by
            unfold at_ at hs
            split at hs
            · obtain ⟨t, htt⟩ := ht _ _ hs
              have h1 : (bs P ++ s).drop P.length = (bs t).drop P.length := congrArg (fun l => l.drop P.length) htt
              rw [List.drop_left' (bs_len P)] at h1
              exact ⟨t.drop P.length, by rw [h1]; unfold bs; rw [List.map_drop]⟩
            · cases hs
          rw [get_idx ht2.symm hi hk rfl] at h
          refine static_run hin hp0 g k (at_ f P c) (pre ++ P) (c :: q) c q ps r hrk (by rcases hkn with e | e <;> rw [e] <;> decide) htk ?_ at_head rfl (fun s hs => ?_) (by rw [he, ← ht2, List.append_assoc]) h hr
          · obtain ⟨s, v, hs⟩ := x.hne c (List.mem_of_getElem? hj)
            exact ⟨.b c :: s, v, (if_pos rfl).trans hs⟩
          · rw [hFP]
            exact if_pos hs
        | none =>
          rw [get_endA ht2.symm hi rfl (.inr rfl)] at h
          cases h
          show (decide (c :: q = [47]) && h0.isSome) = true ↔ _
          by_cases h47 : c :: q = [47]
          · rw [decide_eq_true h47, Bool.true_and]
            have hsl : slashN p0 = pre ++ P := by
              rw [he, ← ht2, h47, ← List.append_assoc]; exact slash_end _
            have := hFP []
            rw [List.append_nil, List.append_nil] at this
            rw [hsl, this, x.hh]
            cases h0 <;> simp
          · rw [decide_eq_false h47, Bool.false_and]
            constructor
            · intro e; cases e
            · rintro ⟨v, hv⟩
              exfalso
              have hnone : ∀ q', F0 (bs (pre ++ P ++ c :: q')) = none := fun q' => by
                rw [bs_app, hFP, bs_cons, x.hno c (idxOf_not.1 hi)]
              by_cases hs : [47] <:+ p0
              · obtain ⟨a, ha⟩ := hs
                have hq : q ≠ [] := by
                  rintro rfl
                  rw [he, ← ht2, ← List.append_assoc] at ha
                  have := List.append_inj_right' ha rfl
                  exact h47 this.symm
                obtain ⟨q', d, rfl⟩ : ∃ q' d, q = q' ++ [d] := by
                  rcases List.eq_nil_or_concat q with e | ⟨l, d, e⟩
                  · exact absurd e hq
                  · exact ⟨l, d, by rw [← List.concat_eq_append]; exact e⟩
                have ha2 : a = pre ++ P ++ c :: q' := by
                  rw [he, ← ht2] at ha
                  have e1 : pre ++ (P ++ c :: (q' ++ [d])) = (pre ++ P ++ c :: q') ++ [d] := by simp
                  rw [e1] at ha
                  exact List.append_inj_left' ha rfl
                rw [← ha, slash_end, ha2, hnone] at hv
                cases hv
              · rw [slash_no hs, he, ← ht2, show pre ++ (P ++ c :: q) ++ [47] = pre ++ P ++ c :: (q ++ [47]) by simp, hnone] at hv
                cases hv
    · rw [get_endC hpp (.inr rfl)] at h
      cases h
      show (decide (p = [47]) || (decide (P = p ++ [47]) && h0.isSome)) = true ↔ _
      have hp47 : p ≠ [47] := fun e => by
        refine hends pre (by rw [he, e]) fun s v hs => ?_
        obtain ⟨r', rfl⟩ := hd s v hs
        obtain ⟨t, htt⟩ := ht _ _ hs
        refine ⟨t, ?_, by rw [htt, ← bs_app]⟩
        rintro rfl
        simp [bs] at htt
      rw [decide_eq_false hp47, Bool.false_or]
      have hFp : ∀ t, F0 (bs pre ++ .b c0 :: t) = f (.b c0 :: t) := fun t => (hF _ rfl).symm
      by_cases hs : [47] <:+ p0
      · obtain ⟨a, ha⟩ := hs
        obtain ⟨p', rfl⟩ : ∃ p', p = p' ++ [47] := by
          rcases List.eq_nil_or_concat p with e | ⟨l, d, e⟩
          · rw [e] at hp; cases hp
          · rw [List.concat_eq_append] at e
            subst e
            rw [he, ← List.append_assoc] at ha
            have := List.append_inj_right' ha rfl
            exact ⟨l, by rw [this]⟩
        have ha2 : a = pre ++ p' := by
          rw [he, ← List.append_assoc] at ha
          exact List.append_inj_left' ha rfl
        have hp' : ∃ t, p' = c0 :: t := by
          cases p' with
          | nil => exact absurd rfl hp47
          | cons d t => cases hp; exact ⟨t, rfl⟩
        obtain ⟨t, rfl⟩ := hp'
        constructor
        · intro e
          exfalso
          simp only [Bool.and_eq_true, decide_eq_true_eq] at e
          obtain ⟨k, hk⟩ := Option.isSome_iff_exists.1 e.2
          have hfP := x.hh
          rw [hk] at hfP
          refine hin a ha.symm (by rw [ha2]; simp) ([47] ++ [47]) (k, full) (by simp) ?_
          rw [ha2, show pre ++ c0 :: t ++ ([47] ++ [47]) = pre ++ (c0 :: (t ++ [47] ++ [47])) by simp, bs_app, bs_cons, hFp]
          rw [e.1] at hfP
          simpa [bs] using hfP
        · rintro ⟨v, hv⟩
          exfalso
          rw [← ha, slash_end, ha2, bs_app, bs_cons, hFp] at hv
          obtain ⟨r', e⟩ := x.hpre _ _ hv
          apply hpp
          have e2 := congrArg txt (show bs (c0 :: t) = bs P ++ r' from e)
          rw [txt_app, txt_bs, txt_bs] at e2
          exact ⟨txt r' ++ [47], by rw [← List.append_assoc, ← e2]⟩
      · rw [slash_no hs, he, List.append_assoc, hp, List.cons_append, bs_app, bs_cons, hFp]
        constructor
        · intro e
          simp only [Bool.and_eq_true, decide_eq_true_eq] at e
          obtain ⟨k, hk⟩ := Option.isSome_iff_exists.1 e.2
          have hfP := x.hh
          rw [hk, e.1] at hfP
          exact ⟨(k, full), hfP⟩
        · rintro ⟨v, hv⟩
          obtain ⟨r', e⟩ := x.hpre _ _ hv
          have e2 := congrArg txt (show bs (c0 :: (q0 ++ [47])) = bs P ++ r' from e)
          rw [txt_app, txt_bs, txt_bs] at e2
          have e3 : (c0 :: q0) ++ [47] = P ++ txt r' := e2
          have hr0 : txt r' = [] := by
            rcases List.eq_nil_or_concat (txt r') with e4 | ⟨l, d, e4⟩
            · exact e4
            · exfalso
              rw [List.concat_eq_append] at e4
              rw [e4, ← List.append_assoc] at e3
              have := List.append_inj_left' e3 rfl
              exact hpp ⟨l, by rw [hp]; exact this.symm⟩
          rw [hr0, List.append_nil] at e3
          have hr00 : r' = [] := by
            cases r' with
            | nil => rfl
            | cons y r' => cases y <;> simp [txt] at hr0
          subst hr00
          have hv2 : f (bs P) = some v := by
            rw [List.append_nil] at e
            have e' : bs (c0 :: (q0 ++ [47])) = bs P := e
            rw [← e']; exact hv
          rw [x.hh] at hv2
          obtain ⟨k, hk, _⟩ := Option.map_eq_some_iff.1 hv2
          rw [decide_eq_true (show P = c0 :: (q0 ++ [47]) from e3.symm), hk]; rfl
end
end Gt

/- Tables of texts alone: what is recommended. No program in sight. -/
namespace Gt
open Gs Tr
def StaticN (l : List (List Prt)) : Prop := ∀ r ∈ l, r.length = 1
/-- small letters in the place of capital ones -/
def foldB (c : UInt8) : UInt8 := if 65 ≤ c.toNat ∧ c.toNat ≤ 90 then c + 32 else c
def foldT (s : List UInt8) : List UInt8 := s.map foldB
def InnerN (l : List (List Prt)) (path : List UInt8) : Prop := 1 < path.length ∧ [47] <:+ path ∧ ∃ r ∈ l, ∃ p, r[0]? = some p ∧ path.length - 1 < p.nm.length ∧ (foldT p.nm).take (path.length - 1) = foldT (path.take (path.length - 1))
theorem static_one {l : List (List Prt)} (ht : TableN l) (hs : StaticN l) {a : List Prt} (ha : a ∈ l) : ∃ p, a = [p] ∧ tokT a = bs p.nm := by
  have hc := ht.clean a ha
  obtain ⟨p, rfl⟩ := List.length_eq_one_iff.1 (hs a ha)
  have hk : p.k.toNat = 0 := (hc.2.2.1 p rfl).1
  refine ⟨p, rfl, ?_⟩
  have e : tokT [p] = tokP p := by simp [tokT]
  rw [e, tokP, if_pos hk]
theorem bs_match (t path : List UInt8) : MT (bs t) path ≠ none ↔ t = path := by
  have h := MT_bs t [] path
  rw [List.append_nil] at h
  rw [h]
  by_cases hp : t.isPrefixOf path = true
  · rw [if_pos hp]
    obtain ⟨r, rfl⟩ := List.isPrefixOf_iff_prefix.1 hp
    rw [List.drop_left]
    show (if r = [] then some [] else none) ≠ none ↔ _
    by_cases hr : r = []
    · rw [if_pos hr, hr]; simp
    · rw [if_neg hr]; simp [hr]
  · rw [if_neg hp]
    constructor
    · intro h; exact absurd rfl h
    · rintro rfl; exact absurd (List.isPrefixOf_iff_prefix.2 (List.prefix_refl _)) hp
theorem static_F {l : List (List Prt)} (ht : TableN l) (hs : StaticN l) {t : List UInt8} : (∃ v, fAdd (fun _ => none) 0 (l.map tokT) (bs t) = some v) ↔ bestN l t l.length ≠ none := by
  have hn := pw_nodup ht.pw
  constructor
  · rintro ⟨v, hv⟩ hb
    obtain ⟨i, hi, _⟩ := fAdd_of hn hv
    obtain ⟨a, ha, he⟩ := map_at hi
    have hal := List.mem_of_getElem? ha
    have hm := (bestN_spec ht t (Nat.le_refl l.length)).1 hb i a (List.getElem?_eq_some_iff.1 ha).1 ha
    rw [(ht.clean a hal).match, ← he] at hm
    exact (bs_match t t).2 rfl hm
  · intro hb
    obtain ⟨m, hm⟩ := Option.ne_none_iff_exists'.1 hb
    obtain ⟨b, _, hbm, hmb, _⟩ := (bestN_spec ht t (Nat.le_refl l.length)).2 m hm
    have hbl := List.mem_of_getElem? hbm
    obtain ⟨p, _, hp⟩ := static_one ht hs hbl
    rw [(ht.clean b hbl).match, hp, bs_match] at hmb
    exact ⟨_, fAdd_at hn (i := m) (by rw [List.getElem?_map, hbm, Option.map_some, hp, hmb])⟩
theorem static_tsr {l : List (List Prt)} {path : List UInt8} (hf : FitsN l path) (hs : StaticN l) (hne : l ≠ []) (h1 : path ≠ [47]) (hin : ¬ InnerN l path) {u : List UInt8 → List UInt8} {cP cS g : Nat} {t : T0} {r : Res} (ht : addAll new ((l.map tokT).map txt) 0 = .inl t) (hg : getC u cP cS g t path [] [] = some r) (hr : r.h = none) : r.tsr = dec (bestN l (slashN path) l.length ≠ none) := by
  obtain ⟨_, htab, ⟨q, hq⟩, _, _⟩ := hf
  have hcl := htab.clean
  have hgood : ∀ r ∈ l.map tokT, Good r := fun r hr => by
    obtain ⟨x, hx, rfl⟩ := List.mem_map.1 hr
    exact (hcl x hx).good
  have hn := pw_nodup htab.pw
  obtain ⟨t', k1, k2⟩ := addAll_ok (l.map tokT) new (fun _ => none) 0 (.inl ⟨rfl, rfl⟩) hgood (fun _ _ _ _ h => by cases h) htab.pw
  rw [ht] at k1
  cases k1
  have hof : ∀ s v, fAdd (fun _ => none) 0 (l.map tokT) s = some v → ∃ a p, a ∈ l ∧ a = [p] ∧ s = bs p.nm := fun s v hs' => by
    obtain ⟨i, hi, _⟩ := fAdd_of hn hs'
    obtain ⟨a, ha, he⟩ := map_at hi
    obtain ⟨p, e1, e2⟩ := static_one htab hs (List.mem_of_getElem? ha)
    exact ⟨a, p, List.mem_of_getElem? ha, e1, by rw [he, e2]⟩
  obtain ⟨a0, l', rfl⟩ := List.exists_cons_of_ne_nil hne
  have hx0 : ∃ s v, fAdd (fun _ => none) 0 ((a0 :: l').map tokT) s = some v := ⟨tokT a0, _, fAdd_at hn (i := 0) rfl⟩
  rcases k2 with ⟨_, hf0⟩ | ⟨rep, hnt, hd⟩
  · obtain ⟨s, v, hv⟩ := hx0
    rw [hf0] at hv; cases hv
  · have key := static_run (u := u) (cP := cP) (cS := cS) (F0 := fAdd (fun _ => none) 0 ((a0 :: l').map tokT)) (p0 := path) (fun a ha ha0 t2 v ht2 hv => by
      obtain ⟨b, p, hb, hbp, e⟩ := hof _ _ hv
      have hnm : p.nm = a ++ t2 := (bs_inj.1 e).symm
      refine hin ⟨?_, ⟨a, ha.symm⟩, b, hb, p, by rw [hbp]; rfl, ?_, ?_⟩
      · rw [ha, List.length_append]
        have := List.length_pos_iff.2 ha0
        simp; omega
      · rw [ha, hnm, List.length_append, List.length_append]
        have := List.length_pos_iff.2 ht2
        simp; omega
      · rw [ha, hnm, List.length_append, List.length_singleton, Nat.add_sub_cancel, List.take_left]
        unfold foldT
        rw [List.map_append, List.take_left' (List.length_map _)]) h1 g t _ [] path 47 q [] r rep (by rw [hnt]; decide) (fun s v hv => by
      obtain ⟨_, p, _, _, e⟩ := hof s v hv
      exact ⟨p.nm, e⟩) hx0 hd hq.symm (fun s _ => rfl) rfl hg hr
    have h2 := static_F htab hs (t := slashN path)
    cases hts : r.tsr with
    | true => exact dec_t (h2.1 (key.1 hts))
    | false =>
      refine dec_f fun hb => ?_
      have := key.2 (h2.2 hb)
      rw [hts] at this; cases this
end Gt

/- Texts alone, folded texts, slashes. Printed by wip/mk_gv1.py. -/
set_option maxRecDepth 20000
namespace Go.Proofs
open Go Bw
open Gt
section
variable {P : Program} {c : Cx} {n : Nat} {k : List Item} {fr : SF} {H : SH} {ops : Array Oper} {rest : List Oper} {ty t e : TypeId} {pos : String} {aft : Array Edge}
/-- bytes of a text in a new row; what may not be turned lies behind it -/
theorem _root_.Bw.G.cvSF {src dst e : TypeId} {x : Operand} {d : Nat} {l : List UInt8} (hs : P.underlying src = some .string) (hdt : P.underlying dst = some (.slice e)) (he : P.underlying e = some (.int .u8)) (hx : ev fr x = some (S l)) (hd : Nat.blt d n = true)
  (hk : ∀ b cp (z : List UInt8) (fz : Nat × Nat), l.length ≤ fz.1 → G P c n k ops rest ((d, .slice (some ⟨b, 0, none⟩) l.length cp) :: fr) (⟨b, true, .row (bC (l ++ z)) e fz⟩ :: H)) : G P c n k ops (⟨some d, .convert src dst x, ty, pos, aft, none⟩ :: rest) fr H := by
 intro hf a w ha hw
 refine wpList_step fun K hK => ?_
 have hsz : (⟨l.toArray⟩ : ByteArray).size = l.length := List.size_toArray
 have h := run_bytes_of_string (P := P) w src dst e ⟨l.toArray⟩ hs hdt he
 have hcap := grownCap_ge w (⟨l.toArray⟩ : ByteArray).size 0 e
 rw [hsz] at h hcap
 generalize grownCap w l.length 0 e = cp at h hcap
 have hrow : bytesRow ⟨l.toArray⟩ cp = (bC (l ++ List.replicate (cp - l.length) 0)).toArray := by
  simp [bytesRow, bC, Lib.byteCells, hsz]
 rw [hrow] at h
 have hz : l.length ≤ (bC (l ++ List.replicate (cp - l.length) 0)).toArray.size := by
  simp [bC, Lib.byteCells]
 generalize hfz : ((bC (l ++ List.replicate (cp - l.length) 0)).toArray.size, (bC (l ++ List.replicate (cp - l.length) 0)).toArray.size + 1) = fz at h
 have hf1 : l.length ≤ fz.1 := by rw [← hfz]; exact hz
 have hrun : (execOp a.eval ⟨some d, .convert src dst x, ty, pos, aft, none⟩).run P w = .ok (.value (.slice (some ⟨w.heap.size, 0, none⟩) l.length cp)) (w.drew.alloc (.cells (bC (l ++ List.replicate (cp - l.length) 0)).toArray e fz)) := by
  simp [execOp, ha.eval hx, h]
 simp only [Region.wanted, if_true, Oper.wp, hrun, Oper.upon]
 have hw2 : HF c.w0 c.D H w.drew := hw.drew _
 exact hK _ _ (hk w.heap.size cp (List.replicate (cp - l.length) 0) fz hf1 hf _ _ (ha.put hd _) (hw2.push (.row (bC (l ++ List.replicate (cp - l.length) 0)) e fz)))
theorem _root_.Bw.V.cvBF {src dst e : TypeId} {x : Operand} {b m cap : Nat} {l : List UInt8} {T : TypeId} {wf : Bool} {fz : Nat × Nat} (hs : P.underlying src = some (.slice e)) (he : P.underlying e = some (.int .u8)) (hd : P.underlying dst = some .string) (hx : ev fr x = some (.slice (some ⟨b, 0, none⟩) m cap))
  (hm : ⟨b, wf, .row (bC l) T fz⟩ ∈ H) (hl : m ≤ l.length) : Val P c n (.convert src dst x) ty fr H (S (l.take m)) := by
 intro a w ha hw ds pos aft g
 have hcell : ∀ i, i < m → w.cell? ⟨b, 0 + i, none⟩ = some (.int .u8 (((l.take m).map fun x => (x.toNat : Int)).getD i 0)) := fun i hi => by
  refine cell_row hw hm ?_
  have hil : i < l.length := by omega
  rw [nth_eq, Nat.zero_add]
  simp only [bC, Lib.byteCells, List.getElem?_map, List.getElem?_eq_getElem hil, Option.map_some, List.getD_eq_getElem?_getD, List.getElem?_take_of_lt hi, Option.getD_some]
 have h := run_convert_bytes_arg (P := P) w src e hs he b 0 m cap ((l.take m).map fun x => (x.toNat : Int)) (by simp; omega) hcell dst hd
 have e2 : strOfNums ((l.take m).map fun x => (x.toNat : Int)) = ⟨(l.take m).toArray⟩ := by
  have h0 : ((fun n : Int => UInt8.ofNat n.toNat) ∘ fun x : UInt8 => (x.toNat : Int)) = id := by
   funext x; simp
  simp [strOfNums, List.map_map, h0]
 rw [e2] at h
 simp [execOp, ha.eval hx, h]
end
theorem bC_set (l : List UInt8) (i : Nat) (x : UInt8) : (bC l).set i (.int .u8 (x.toNat : Int)) = bC (l.set i x) := by
 unfold bC Lib.byteCells
 rw [List.map_set]
theorem foldT_len (s : List UInt8) : (foldT s).length = s.length := List.length_map _
theorem f31_any (w : World) (l : List (List Prt)) (sv : Value) (hsv : Tbl w sv l) (hll : l.length ≤ 1000000) : Calls Try.prog 31 #[sv] w fun e w' => e = .returned (.bool (dec (StaticN l))) ∧ HF w (fun _ => False) [] w' := by
 refine enter (fun _ => False) [] Try.func31 rfl Try.ntmps31 rfl rfl (HF.start w _) fun c hc => ?_
 subst hc
 obtain ⟨ad, cp, rfl, hcp, hc⟩ := hsv
 refine GC.seq ?_
 refine GC.reg ?_
 refine G.m2 ?_
 refine G.nil ?_
 refine GC.seq ?_
 refine GC.seq ?_
 refine GC.reg ?_
 refine G.m1 ?_
 refine G.v (V.lenL Try.underlying34 rfl) rfl ?_
 refine G.m1 ?_
 refine G.nil ?_
 refine GC.block ?_
 refine GC.loopJ (fun N fr' H' => ∃ j, j + N = l.length ∧ (∀ (k : Nat) r, k < j → l[k]? = some r → r.length = 1) ∧ Sub [(5, .slice ad l.length cp), (6, I (l.length : Nat)), (7, I (j : Nat))] fr' ∧ H' = []) l.length
  ⟨0, by omega, fun k r hk => by omega, .of rfl, rfl⟩ ?_
 rintro N fr' H' ⟨j, hj, hok, hs2, rfl⟩ ih
 refine GC.weak hs2 ?_
 clear hs2
 refine GC.seq ?_
 refine GC.reg ?_
 refine G.v (V.lt rfl rfl) rfl ?_
 refine G.nil ?_
 refine GC.seq ?_
 refine GC.condD rfl (fun h8 => ?_) (fun h8 => ?_)
 ·refine GC.skip ?_
  refine GC.seq ?_
  refine GC.block ?_
  refine GC.seq ?_
  have hjl : j < l.length := by omega
  obtain ⟨a, ha⟩ : ∃ p, l[j]? = some p := ⟨_, List.getElem?_eq_getElem hjl⟩
  obtain ⟨b, o, av, rfl, hc1, pad, pcp, rfl, hpc⟩ := hc j a ha
  refine GC.reg ?_
  refine G.v (V.ia (i := j) Try.underlying34 Try.sizeOf35 rfl rfl hjl) rfl ?_
  refine G.v (V.ldC (v := .slice pad a.length pcp) Try.isAgg35 rfl (by rw [Nat.mul_one]; exact hc1) id) rfl ?_
  refine G.m2 ?_
  refine G.nil ?_
  refine GC.seq ?_
  refine GC.reg ?_
  refine G.m1 ?_
  refine G.v (V.lenL Try.underlying35 rfl) rfl ?_
  refine G.v (V.neI rfl rfl) rfl ?_
  refine G.nil ?_
  refine GC.cond rfl (fun h13 => ?_) (fun h13 => ?_)
  ·refine GC.seq ?_
   refine GC.reg ?_
   refine G.m2 ?_
   refine G.nil ?_
   refine GC.ret1 rfl rfl fun w' hw' => ⟨?_, hw'⟩
   refine congrArg (fun b => Ending.returned (Value.bool b)) ?_
   refine dec_f fun h => ?_
   have h1 := h a (List.mem_of_getElem? ha)
   rw [h1] at h13
   simp at h13
  refine GC.skip ?_
  refine GC.inBlock ?_
  refine GC.reg ?_
  refine G.v (V.addI (r := ((j + 1 : Nat) : Int)) rfl rfl rfl (by omega) (by omega)) rfl ?_
  refine G.m1 ?_
  refine G.nil ?_
  refine ih (N - 1) _ _ (by omega) ⟨j + 1, by omega, fun k r hk hr => ?_, .of rfl, rfl⟩
  by_cases hkj : k = j
  ·subst hkj
   rw [ha] at hr
   cases hr
   have : ((a.length : Nat) : Int) = 1 := by simpa using h13
   omega
  ·exact hok k r (by omega) hr
 refine GC.exit rfl ?_
 refine GC.seq ?_
 refine GC.reg ?_
 refine G.m2 ?_
 refine G.nil ?_
 refine GC.ret1 rfl rfl fun w' hw' => ⟨?_, hw'⟩
 refine congrArg (fun b => Ending.returned (Value.bool b)) ?_
 refine dec_t fun r hr => ?_
 obtain ⟨k, hk⟩ := List.getElem?_of_mem hr
 exact hok k r (by have := (List.getElem?_eq_some_iff.1 hk).1; omega) hk
theorem f59_any (w : World) (s : List UInt8) (hsl : s.length ≤ 1000000) : Calls Try.prog 59 #[S s] w fun e w' => e = .returned (S (foldT s)) ∧ HF w (fun _ => False) [] w' := by
 refine enter (fun _ => False) [] Try.func59 rfl Try.ntmps59 rfl rfl (HF.start w _) fun c hc => ?_
 subst hc
 refine GC.seq ?_
 refine GC.reg ?_
 refine G.m2 ?_
 refine G.nil ?_
 refine GC.seq ?_
 refine GC.reg ?_
 refine G.m1 ?_
 refine G.cvSF Try.underlying9 Try.underlying68 Try.underlying5 rfl rfl (fun b cp z fz hfz => ?_)
 refine G.m2 ?_
 refine G.nil ?_
 refine GC.seq ?_
 refine GC.seq ?_
 refine GC.reg ?_
 refine G.m1 ?_
 refine G.v (V.lenL Try.underlying68 rfl) rfl ?_
 refine G.m1 ?_
 refine G.nil ?_
 refine GC.block ?_
 refine GC.loopJ (fun N fr' H' => ∃ (i : Nat) (cur : List UInt8), i + N = s.length ∧ cur = foldT (s.take i) ++ s.drop i ∧ Sub [(3, .slice (some ⟨b, 0, none⟩) s.length cp), (8, .slice (some ⟨b, 0, none⟩) s.length cp), (9, I (s.length : Nat)), (10, I (i : Nat))] fr' ∧ H' = [⟨b, true, .row (bC (cur ++ z)) 5 fz⟩]) s.length
  ⟨0, s, by omega, by simp [foldT], .of rfl, rfl⟩ ?_
 rintro N fr' H' ⟨i, cur, hi, hcur, hs2, rfl⟩ ih
 refine GC.weak hs2 ?_
 clear hs2
 refine GC.seq ?_
 refine GC.reg ?_
 refine G.v (V.lt rfl rfl) rfl ?_
 refine G.nil ?_
 refine GC.seq ?_
 refine GC.condD rfl (fun h11 => ?_) (fun h11 => ?_)
 ·refine GC.skip ?_
  refine GC.seq ?_
  refine GC.block ?_
  refine GC.seq ?_
  have hil : i < s.length := by omega
  obtain ⟨x, hx⟩ : ∃ x, s[i]? = some x := ⟨_, List.getElem?_eq_getElem hil⟩
  have hfl : (foldT (s.take i)).length = i := by rw [foldT_len, List.length_take]; omega
  have hcl : cur.length = s.length := by rw [hcur, List.length_append, hfl, List.length_drop]; omega
  have hcx : cur[i]? = some x := by rw [hcur, List.getElem?_append_right (by omega), hfl, Nat.sub_self, List.getElem?_drop]; exact hx
  have hxt := x.toNat_lt
  have wr : ∀ n : Int, 0 ≤ n → n < 256 → IntKind.u8.wrap n = n := fun n h1 h2 => by
   unfold IntKind.wrap
   simp [IntKind.bits, IntKind.signed]
   omega
  refine GC.reg ?_
  refine G.m1 ?_
  refine G.v (V.ia (i := i) Try.underlying68 Try.sizeOf5 rfl rfl hil) rfl ?_
  refine G.v (V.ld (b := b) (off := 0 + i * 1) (wf := true) (l := bC (cur ++ z)) (T := 5) (fz := fz) (v := .int .u8 (x.toNat : Int)) Try.isAgg5 rfl (.head _) (by rw [nth_eq, Nat.zero_add, Nat.mul_one]; unfold bC Lib.byteCells; rw [List.getElem?_map, List.getElem?_append_left (by omega), hcx]; rfl)) rfl ?_
  refine G.m2 ?_
  refine G.m2 ?_
  refine G.nil ?_
  refine GC.seq ?_
  refine GC.join (fun fr' H' => Sub [(3, .slice (some ⟨b, 0, none⟩) s.length cp), (4, I (i : Nat)), (5, .int .u8 (x.toNat : Int)), (8, .slice (some ⟨b, 0, none⟩) s.length cp), (9, I (s.length : Nat)), (10, I (i : Nat)), (20, .bool (decide (65 ≤ x.toNat ∧ x.toNat ≤ 90)))] fr' ∧ H' = [⟨b, true, .row (bC (cur ++ z)) 5 fz⟩]) (fun J5 => ?_) ?_
  ·refine GC.reg ?_
   refine G.m1 ?_
   refine G.v (V.ge rfl rfl) rfl ?_
   refine G.m1 ?_
   refine G.bc 17 rfl (fun h17 => ?_) (fun h17 => ?_)
   ·refine G.m5 ?_
    refine G.vg rfl rfl (V.le rfl rfl) rfl ?_
    refine G.m3 ?_
    refine G.nil ?_
    refine J5 _ _ ⟨?_, rfl⟩
    have h1 := of_decide_eq_true h17
    have e : decide ((x.toNat : Int) ≤ 90) = decide (65 ≤ x.toNat ∧ x.toNat ≤ 90) := decide_eq_decide.2 ⟨fun h => ⟨by omega, by omega⟩, fun h => by omega⟩
    rw [e]
    exact .of rfl
   ·refine G.s1 ?_
    refine G.s1 ?_
    refine G.m4 ?_
    refine G.nil ?_
    refine J5 _ _ ⟨?_, rfl⟩
    have h1 := of_decide_eq_false h17
    have e : decide (65 ≤ x.toNat ∧ x.toNat ≤ 90) = false := decide_eq_false fun h => h1 (by omega)
    rw [e]
    exact .of rfl
  rintro fr' H' ⟨hs5, rfl⟩
  refine GC.weak hs5 ?_
  clear hs5
  refine GC.condD rfl (fun h20 => ?_) (fun h20 => ?_)
  ·refine GC.reg ?_
   refine G.m1 ?_
   refine G.m1 ?_
   refine G.m1 ?_
   refine G.v (V.add (i := (x.toNat : Int)) (j := 32) rfl rfl) rfl ?_
   rw [wr _ (by omega) (by omega)]
   have hx32 : (x.toNat : Int) + 32 = ((x + 32).toNat : Int) := by
    have : (x + 32).toNat = x.toNat + 32 := by
     rw [UInt8.toNat_add]
     have : (32 : UInt8).toNat = 32 := rfl
     omega
    omega
   rw [hx32]
   refine G.v (V.ia (i := i) Try.underlying68 Try.sizeOf5 rfl rfl hil) rfl ?_
   refine G.st (b := b) (off := 0 + i * 1) (l := bC (cur ++ z)) (T := 5) (fz := fz) (v := .int .u8 ((x + 32).toNat : Int)) Try.sizeOf5 rfl rfl rfl .z (by rw [nth_eq, Nat.zero_add, Nat.mul_one]; unfold bC Lib.byteCells; rw [List.getElem?_map, List.getElem?_append_left (by omega), hcx]; rfl) (by rw [Bool.and_eq_false_iff]; exact .inl (by rw [← Bool.not_eq_true, Nat.ble_eq]; omega)) ?_
   have erow : setL (bC (cur ++ z)) (0 + i * 1) (.int .u8 ((x + 32).toNat : Int)) = bC (cur.set i (x + 32) ++ z) := by rw [setL_eq, Nat.zero_add, Nat.mul_one, bC_set, List.set_append_left _ _ (by omega)]
   refine G.turn (H' := [⟨b, true, .row (bC (cur.set i (x + 32) ++ z)) 5 fz⟩]) (fun w1 h1 => by rw [← erow]; exact h1) ?_
   refine G.nil ?_
   refine GC.inBlock ?_
   refine GC.reg ?_
   refine G.v (V.addI (r := ((i + 1 : Nat) : Int)) rfl rfl rfl (by omega) (by omega)) rfl ?_
   refine G.m1 ?_
   refine G.nil ?_
   have hfx : foldB x = x + 32 := if_pos h20
   have hts : s.take (i + 1) = s.take i ++ [x] := by rw [List.take_add_one, hx]; rfl
   have hds : s.drop i = x :: s.drop (i + 1) := drop_cons hx
   refine ih (N - 1) _ _ (by omega) ⟨i + 1, cur.set i (x + 32), by omega, ?_, .of rfl, rfl⟩
   rw [hcur, hts, hds]
   unfold foldT at hfl ⊢
   rw [List.set_append_right _ _ (by omega), hfl, Nat.sub_self, List.set_cons_zero, List.map_append, List.append_assoc, List.map_singleton, hfx]; rfl
  refine GC.skip ?_
  refine GC.inBlock ?_
  refine GC.reg ?_
  refine G.v (V.addI (r := ((i + 1 : Nat) : Int)) rfl rfl rfl (by omega) (by omega)) rfl ?_
  refine G.m1 ?_
  refine G.nil ?_
  have hfx : foldB x = x := if_neg h20
  have hts : s.take (i + 1) = s.take i ++ [x] := by rw [List.take_add_one, hx]; rfl
  have hds : s.drop i = x :: s.drop (i + 1) := drop_cons hx
  refine ih (N - 1) _ _ (by omega) ⟨i + 1, cur, by omega, ?_, .of rfl, rfl⟩
  rw [hcur, hts, hds]
  unfold foldT
  rw [List.map_append, List.append_assoc, List.map_singleton, hfx]; rfl
 refine GC.exit rfl ?_
 refine GC.seq ?_
 have hie : i = s.length := by omega
 have hcs : (cur ++ z).take s.length = foldT s := by
  rw [hcur, hie, List.drop_length, List.append_nil, List.take_length, List.take_left' (foldT_len s)]
 refine GC.reg ?_
 refine G.m1 ?_
 refine G.v (V.cvBF Try.underlying68 Try.underlying5 Try.underlying9 rfl (.head _) (by rw [hcur, hie]; simp [foldT_len])) rfl ?_
 rw [hcs]
 refine G.m2 ?_
 refine G.nil ?_
 exact GC.ret1 rfl rfl fun w' hw' => ⟨rfl, hw'.sub (List.nil_sublist _)⟩
theorem f34_any (w : World) (s : List UInt8) (hsl : s.length ≤ 1000000) : Calls Try.prog 34 #[S s] w fun e w' => e = .returned (S (slashN s)) ∧ HF w (fun _ => False) [] w' := by
 refine enter (fun _ => False) [] Try.func34 rfl Try.ntmps34 rfl rfl (HF.start w _) fun c hc => ?_
 subst hc
 refine GC.seq ?_
 refine GC.reg ?_
 refine G.m2 ?_
 refine G.nil ?_
 refine GC.seq ?_
 refine GC.seq ?_
 refine GC.reg ?_
 refine G.m1 ?_
 refine G.callP (v := .bool (decide ([47] <:+ s))) Try.call50 rfl rfl (fun w1 hw1 => f50_any w1 s [47] (by omega) (by simp)) ?_
 refine G.nil ?_
 refine GC.cond rfl (fun h4 => ?_) (fun h4 => ?_)
 ·refine GC.seq ?_
  have h4' : [47] <:+ s := by simpa using h4
  have hl1 : 1 ≤ s.length := by simpa using h4'.length_le
  refine GC.reg ?_
  refine G.m1 ?_
  refine G.m1 ?_
  refine G.v (V.lenS Try.underlying9 rfl) rfl ?_
  refine G.v (V.subI (r := ((s.length - 1 : Nat) : Int)) rfl rfl (by omega) (by omega) (by omega)) rfl ?_
  refine G.v (V.slH (j := s.length - 1) Try.underlying9 rfl rfl (by omega)) rfl ?_
  refine G.m2 ?_
  refine G.nil ?_
  refine GC.ret1 rfl rfl fun w' hw' => ⟨?_, hw'⟩
  rw [slashN, if_pos h4']
 refine GC.skip ?_
 refine GC.seq ?_
 refine GC.reg ?_
 refine G.m1 ?_
 refine G.v (V.cat rfl rfl (by simp; omega)) rfl ?_
 refine G.m2 ?_
 refine G.nil ?_
 have h4' : ¬ [47] <:+ s := by simpa using h4
 refine GC.ret1 rfl rfl fun w' hw' => ⟨?_, hw'⟩
 rw [slashN, if_neg h4']
theorem last_47 {path : List UInt8} {x : UInt8} (hx : path[path.length - 1]? = some x) : [47] <:+ path ↔ x = 47 := by
 have hne : path ≠ [] := by rintro rfl; simp at hx
 have h1 := List.dropLast_concat_getLast hne
 have h2 : path.getLast hne = x := by
  rw [List.getLast_eq_getElem]
  exact (List.getElem?_eq_some_iff.1 hx).2
 rw [h2] at h1
 constructor
 ·rintro ⟨a, ha⟩
  rw [← ha] at h1
  have := List.append_inj_right' h1 rfl
  simpa using this
 ·rintro rfl
  exact ⟨_, h1⟩
theorem f32_any (w : World) (l : List (List Prt)) (sv : Value) (hsv : Tbl w sv l) (hll : l.length ≤ 1000000) (hne : ∀ r ∈ l, r ≠ []) (hnm : ∀ r ∈ l, ∀ p ∈ r, p.nm.length ≤ 1000000) (path : List UInt8) (hp1 : 1 ≤ path.length) (hpl : path.length ≤ 1000000) : Calls Try.prog 32 #[sv, S path] w fun e w' => e = .returned (.bool (dec (InnerN l path))) ∧ HF w (fun _ => False) [] w' := by
 refine enter (fun _ => False) [] Try.func32 rfl Try.ntmps32 rfl rfl (HF.start w _) fun c hc => ?_
 subst hc
 obtain ⟨ad, cp, rfl, hcp, hc⟩ := hsv
 obtain ⟨n, hn⟩ : ∃ n, n = path.length - 1 := ⟨_, rfl⟩
 refine GC.seq ?_
 refine GC.reg ?_
 refine G.m2 ?_
 refine G.nil ?_
 refine GC.seq ?_
 refine GC.reg ?_
 refine G.m1 ?_
 refine G.v (V.lenS Try.underlying9 rfl) rfl ?_
 refine G.v (V.subI (r := ((n : Nat) : Int)) rfl rfl (by omega) (by omega) (by omega)) rfl ?_
 refine G.m2 ?_
 refine G.nil ?_
 refine GC.seq ?_
 refine GC.seq ?_
 refine GC.join (fun fr' H' => Sub [(0, .slice ad l.length cp), (1, S path), (5, I (n : Nat)), (20, .bool (dec (¬ (1 < path.length ∧ [47] <:+ path))))] fr' ∧ H' = []) (fun J2 => ?_) ?_
 ·refine GC.reg ?_
  refine G.m1 ?_
  refine G.v (V.lt rfl rfl) rfl ?_
  refine G.m1 ?_
  refine G.bc 15 rfl (fun h15 => ?_) (fun h15 => ?_)
  ·refine G.s1 ?_
   refine G.s1 ?_
   refine G.s1 ?_
   refine G.s1 ?_
   refine G.m3 ?_
   refine G.nil ?_
   refine J2 _ _ ⟨.cons rfl (.cons rfl (.cons rfl (.cons (rfl.trans (congrArg (fun b => some (Value.bool b)) ?_)) .nil))), rfl⟩
   exact dec_t fun h => by have := of_decide_eq_true h15; have := h.1; omega
  ·refine G.m5 ?_
   refine G.m5 ?_
   obtain ⟨x, hx⟩ : ∃ x, path[n]? = some x := ⟨_, List.getElem?_eq_getElem (by omega)⟩
   refine G.vg rfl rfl (V.idx (i := n) (b := x) Try.underlying9 rfl rfl hx) rfl ?_
   refine G.vg rfl rfl (V.neI rfl rfl) rfl ?_
   refine G.m4 ?_
   refine G.nil ?_
   refine J2 _ _ ⟨.cons rfl (.cons rfl (.cons rfl (.cons (rfl.trans (congrArg (fun b => some (Value.bool b)) ?_)) .nil))), rfl⟩
   have h15' := of_decide_eq_false h15
   rw [hn] at hx
   have hl47 := last_47 hx
   refine dec_n ⟨fun h h2 => h (by have := hl47.1 h2.2; rw [this]; rfl), fun h h2 => h ⟨by omega, hl47.2 (UInt8.toNat_inj.1 (by have : (47 : UInt8).toNat = 47 := rfl; omega))⟩⟩
 rintro fr' H' ⟨hs2, rfl⟩
 refine GC.weak hs2 ?_
 clear hs2
 refine GC.cond rfl (fun h20 => ?_) (fun h20 => ?_)
 ·refine GC.seq ?_
  refine GC.reg ?_
  refine G.m2 ?_
  refine G.nil ?_
  refine GC.ret1 rfl rfl fun w' hw' => ⟨?_, hw'⟩
  refine congrArg (fun b => Ending.returned (Value.bool b)) ?_
  exact dec_f fun h => dec_true.1 h20 ⟨h.1, h.2.1⟩
 refine GC.skip ?_
 refine GC.seq ?_
 obtain ⟨hpl1, hp47⟩ : 1 < path.length ∧ [47] <:+ path := Classical.byContradiction (dec_false.1 h20)
 refine GC.reg ?_
 refine G.m1 ?_
 refine G.m1 ?_
 refine G.v (V.slH (j := n) Try.underlying9 rfl rfl (by omega)) rfl ?_
 refine G.callP (v := S (foldT (path.take n))) Try.call59 rfl rfl (fun w1 hw1 => f59_any w1 (path.take n) (by rw [List.length_take]; omega)) ?_
 refine G.m2 ?_
 refine G.nil ?_
 refine GC.seq ?_
 refine GC.seq ?_
 refine GC.reg ?_
 refine G.m1 ?_
 refine G.v (V.lenL Try.underlying34 rfl) rfl ?_
 refine G.m1 ?_
 refine G.nil ?_
 refine GC.block ?_
 refine GC.loopJ (fun N fr' H' => ∃ j, j + N = l.length ∧ (∀ (k : Nat) r p, k < j → l[k]? = some r → r[0]? = some p → ¬ (n < p.nm.length ∧ (foldT p.nm).take n = foldT (path.take n))) ∧ Sub [(5, I (n : Nat)), (6, S (foldT (path.take n))), (25, .slice ad l.length cp), (26, I (l.length : Nat)), (27, I (j : Nat))] fr' ∧ H' = []) l.length
  ⟨0, by omega, fun k r p hk => by omega, .of rfl, rfl⟩ ?_
 rintro N fr' H' ⟨j, hj, hok, hs2, rfl⟩ ih
 refine GC.weak hs2 ?_
 clear hs2
 refine GC.seq ?_
 refine GC.reg ?_
 refine G.v (V.lt rfl rfl) rfl ?_
 refine G.nil ?_
 refine GC.seq ?_
 refine GC.condD rfl (fun h28 => ?_) (fun h28 => ?_)
 ·refine GC.skip ?_
  refine GC.seq ?_
  refine GC.block ?_
  refine GC.seq ?_
  have hjl : j < l.length := by omega
  obtain ⟨a, ha⟩ : ∃ p, l[j]? = some p := ⟨_, List.getElem?_eq_getElem hjl⟩
  have hal := List.mem_of_getElem? ha
  have ha0 : 0 < a.length := List.length_pos_iff.2 (hne a hal)
  obtain ⟨p, hp⟩ : ∃ p, a[0]? = some p := ⟨_, List.getElem?_eq_getElem ha0⟩
  have hpn := hnm a hal p (List.mem_of_getElem? hp)
  obtain ⟨b, o, av, e0, hc1, pad, pcp, rfl, hpcp, hpc⟩ := hc j a ha
  cases e0
  obtain ⟨pb, po, e1, hp1', hp2'⟩ := hpc 0 p hp
  cases e1
  refine GC.reg ?_
  refine G.v (V.ia (i := j) Try.underlying34 Try.sizeOf35 rfl rfl hjl) rfl ?_
  refine G.v (V.ldC (v := .slice (some ⟨pb, po, none⟩) a.length pcp) Try.isAgg35 rfl (by rw [Nat.mul_one]; exact hc1) id) rfl ?_
  refine G.m2 ?_
  refine G.nil ?_
  refine GC.seq ?_
  refine GC.reg ?_
  refine G.m1 ?_
  refine G.v (V.ia (i := 0) Try.underlying35 Try.sizeOf50 rfl rfl ha0) rfl ?_
  refine G.v (V.fa F50_1 rfl) rfl ?_
  refine G.v (V.ldC (v := S p.nm) Try.isAgg9 rfl hp2' id) rfl ?_
  refine G.callP (v := S (foldT p.nm)) Try.call59 rfl rfl (fun w1 hw1 => f59_any w1 p.nm hpn) ?_
  refine G.m2 ?_
  refine G.nil ?_
  refine GC.seq ?_
  refine GC.join (fun fr' H' => Sub [(5, I (n : Nat)), (6, S (foldT (path.take n))), (25, .slice (some ⟨b, o, none⟩) l.length cp), (26, I (l.length : Nat)), (27, I (j : Nat)), (46, .bool (dec (n < p.nm.length ∧ (foldT p.nm).take n = foldT (path.take n))))] fr' ∧ H' = []) (fun J9 => ?_) ?_
  ·refine GC.reg ?_
   refine G.m1 ?_
   refine G.v (V.lenS Try.underlying9 rfl) rfl ?_
   refine G.m1 ?_
   refine G.v (V.gt rfl rfl) rfl ?_
   refine G.m1 ?_
   refine G.bc 40 rfl (fun h40 => ?_) (fun h40 => ?_)
   ·refine G.m5 ?_
    refine G.m5 ?_
    have h40' : n < p.nm.length := by have := of_decide_eq_true h40; rw [foldT_len] at this; omega
    refine G.vg rfl rfl (V.slH (j := n) Try.underlying9 rfl rfl (by rw [foldT_len]; omega)) rfl ?_
    refine G.m5 ?_
    refine G.vg rfl rfl (V.eqS rfl rfl) rfl ?_
    refine G.m3 ?_
    refine G.nil ?_
    refine J9 _ _ ⟨.cons rfl (.cons rfl (.cons rfl (.cons rfl (.cons rfl (.cons (rfl.trans (congrArg (fun b => some (Value.bool b)) ?_)) .nil))))), rfl⟩
    exact dec_d ⟨fun h => ⟨h40', h⟩, fun h => h.2⟩
   ·refine G.s1 ?_
    refine G.s1 ?_
    refine G.s1 ?_
    refine G.s1 ?_
    refine G.s1 ?_
    refine G.m4 ?_
    refine G.nil ?_
    refine J9 _ _ ⟨.cons rfl (.cons rfl (.cons rfl (.cons rfl (.cons rfl (.cons (rfl.trans (congrArg (fun b => some (Value.bool b)) ?_)) .nil))))), rfl⟩
    exact dec_f fun h => by have := of_decide_eq_false h40; rw [foldT_len] at this; omega
  rintro fr' H' ⟨hs9, rfl⟩
  refine GC.weak hs9 ?_
  clear hs9
  refine GC.cond rfl (fun h46 => ?_) (fun h46 => ?_)
  ·refine GC.seq ?_
   refine GC.reg ?_
   refine G.m2 ?_
   refine G.nil ?_
   refine GC.ret1 rfl rfl fun w' hw' => ⟨?_, hw'⟩
   refine congrArg (fun b => Ending.returned (Value.bool b)) ?_
   have h46' := dec_true.1 h46
   rw [hn] at h46'
   exact dec_t ⟨hpl1, hp47, a, hal, p, hp, h46'⟩
  refine GC.skip ?_
  refine GC.inBlock ?_
  refine GC.reg ?_
  refine G.v (V.addI (r := ((j + 1 : Nat) : Int)) rfl rfl rfl (by omega) (by omega)) rfl ?_
  refine G.m1 ?_
  refine G.nil ?_
  refine ih (N - 1) _ _ (by omega) ⟨j + 1, by omega, fun k r p' hk hr hp' => ?_, .of rfl, rfl⟩
  by_cases hkj : k = j
  ·subst hkj
   rw [ha] at hr
   cases hr
   rw [hp] at hp'
   cases hp'
   exact dec_false.1 h46
  ·exact hok k r p' (by omega) hr hp'
 refine GC.exit rfl ?_
 refine GC.seq ?_
 refine GC.reg ?_
 refine G.m2 ?_
 refine G.nil ?_
 refine GC.ret1 rfl rfl fun w' hw' => ⟨?_, hw'⟩
 refine congrArg (fun b => Ending.returned (Value.bool b)) ?_
 refine dec_f fun ⟨_, _, r, hr, p, hp, h⟩ => ?_
 obtain ⟨k, hk⟩ := List.getElem?_of_mem hr
 rw [← hn] at h
 exact hok k r p (by have := (List.getElem?_eq_some_iff.1 hk).1; omega) hk hp h
end Go.Proofs

/- FnGinStatic. Printed by wip/mk_gv2.py. -/
set_option maxRecDepth 20000
namespace Go.Proofs
open Go Bw
open Gt
theorem _root_.Bw.V.eqB {P : Program} {c : Cx} {n : Nat} {fr : SF} {H : SH} {ty t u : TypeId} {x y : Operand} {a b : Bool} (hU : P.underlying t = some .bool) (hx : ev fr x = some (.bool a)) (hy : ev fr y = some (.bool b)) : Val P c n (.binOp .eql t x y u) ty fr H (.bool (a == b)) := by
 intro a1 w ha hw dst pos aft g
 have key : ∀ d : Nat, (Op.equalIn (d + 1) t (.bool a) (.bool b)).run P w = .ok (a == b) w := fun d => by
  simp [Op.equalIn, underlying, hU]
 have e : (Op.equalIn 10000 t (.bool a) (.bool b)).run P w = .ok (a == b) w := key 9999
 simp [execOp, ha.eval hx, ha.eval hy, eqGuard, binOp, Op.equal, Op.maxDepth, e]
theorem eqB_true {P : Program} {c : Cx} {n : Nat} {op : Op} {ty : TypeId} {fr : SF} {H : SH} {a b : Bool} (h : a = b) (hv : Val P c n op ty fr H (.bool (a == b))) : Val P c n op ty fr H (.bool true) := by subst h; rw [beq_self_eq_true] at hv; exact hv
theorem best_num {l : List (List Prt)} {path : List UInt8} {k : Nat} {pv : Value} {full : List UInt8} {Hp : SH} (hb : BestAt l path (bestN l path l.length) k pv full Hp) : dec (bestN l path l.length ≠ none) = !decide (((k : Nat) : Int) = 0) := by
 rcases hb with ⟨h1, h2, _⟩ | ⟨m, a, ps, h1, h2, _⟩
 ·rw [dec_false.2 (fun h => h h1), h2]; rfl
 ·rw [dec_true.2 (by rw [h1]; simp), decide_eq_false (by omega)]; rfl
theorem told_none {l : List (List Prt)} {un : Bool} {path : List UInt8} {r : Res} (h : Told l un path r) (h0 : r.h.getD 0 = 0) : r.h = none := by
 rcases h.2.2.1 with ⟨i, a, v, _, h1, _⟩ | ⟨h1, _⟩
 ·rw [h1] at h0; simp at h0
 ·exact h1
theorem f8_any (w : World) (l : List (List Prt)) (sv : Value) (hsv : Tbl w sv l) (path : List UInt8) : Calls Try.prog 8 #[sv, S path] w fun e w' => e = .returned (.bool true) ∧ HF w (fun _ => False) [] w' := by
 refine enter (fun _ => False) [] Try.func8 rfl Try.ntmps8 rfl rfl (HF.start w _) fun c hc => ?_
 subst hc
 obtain ⟨sad, scp, hse⟩ : ∃ ad cp, sv = .slice ad l.length cp := by
  obtain ⟨ad, cp, h, _⟩ := hsv
  exact ⟨ad, cp, h⟩
 subst hse
 refine GC.seq ?_
 refine GC.reg ?_
 refine G.m2 ?_
 refine G.nil ?_
 refine GC.seq ?_
 refine GC.seq ?_
 refine GC.join (fun fr' H' => Sub [(0, .slice sad l.length scp), (1, S path), (14, .bool (dec (¬ Fits4 l ∨ (2147483647 : Int) < (path.length : Int))))] fr' ∧ H' = []) (fun J1 => ?_) ?_
 ·refine GC.reg ?_
  refine G.m1 ?_
  refine G.callP (v := .bool (dec (Fits4 l))) Try.call17 rfl rfl (fun w1 hw1 => f17_any w1 l _ (hsv.old hw1)) ?_
  refine G.v (V.not rfl) rfl ?_
  refine G.m1 ?_
  refine G.bc 10 rfl (fun h10 => ?_) (fun h10 => ?_)
  ·refine G.s1 ?_
   refine G.s1 ?_
   refine G.s1 ?_
   refine G.m3 ?_
   refine G.nil ?_
   refine J1 _ _ ⟨.cons rfl (.cons rfl (.cons (rfl.trans (congrArg (fun b => some (Value.bool b)) ?_)) .nil)), rfl⟩
   exact dec_t (.inl (dec_false.1 (by simpa using h10)))
  ·refine G.m5 ?_
   refine G.vg rfl rfl (V.lenS Try.underlying9 rfl) rfl ?_
   refine G.vg rfl rfl (V.gt rfl rfl) rfl ?_
   refine G.m4 ?_
   refine G.nil ?_
   refine J1 _ _ ⟨.cons rfl (.cons rfl (.cons (rfl.trans (congrArg (fun b => some (Value.bool b)) ?_)) .nil)), rfl⟩
   exact dec_d ⟨.inr, fun h => h.resolve_left (fun h => h (dec_true.1 (by simpa using h10)))⟩
 rintro fr' H' ⟨hs1, rfl⟩
 refine GC.weak hs1 ?_
 clear hs1
 refine GC.cond rfl (fun h14 => ?_) (fun h14 => ?_)
 ·refine GC.seq ?_
  refine GC.reg ?_
  refine G.m2 ?_
  refine G.nil ?_
  exact GC.ret1 rfl rfl fun w' hw' => ⟨rfl, hw'.sub (List.nil_sublist _)⟩
 refine GC.skip ?_
 refine GC.seq ?_
 refine GC.seq ?_
 obtain ⟨h4, hpl⟩ : Fits4 l ∧ path.length ≤ 2147483647 := by
  have := dec_false.1 h14
  exact ⟨Classical.byContradiction fun h => this (.inl h), by omega⟩
 refine GC.join (fun fr' H' => Sub [(0, .slice sad l.length scp), (1, S path), (37, .bool (dec (¬ FitsN l path ∨ ¬ StaticN l ∨ path = [47] ∨ l.length = 0 ∨ InnerN l path)))] fr' ∧ H' = []) (fun J3 => ?_) ?_
 ·refine GC.reg ?_
  refine G.m1 ?_
  refine G.m1 ?_
  refine G.callP (v := .bool (dec (FitsN l path))) Try.call19 rfl rfl (fun w1 hw1 => f19_any w1 l _ (hsv.old hw1) h4 path (by omega)) ?_
  refine G.v (V.not rfl) rfl ?_
  refine G.m1 ?_
  refine G.bc 19 rfl (fun h19 => ?_) (fun h19 => ?_)
  ·refine G.s1 ?_
   refine G.s1 ?_
   refine G.s1 ?_
   refine G.m3 ?_
   refine G.m1 ?_
   refine G.s1 ?_
   refine G.s1 ?_
   refine G.m3 ?_
   refine G.m1 ?_
   refine G.s1 ?_
   refine G.s1 ?_
   refine G.s1 ?_
   refine G.m3 ?_
   refine G.m1 ?_
   refine G.s1 ?_
   refine G.s1 ?_
   refine G.s1 ?_
   refine G.m3 ?_
   refine G.nil ?_
   refine J3 _ _ ⟨.cons rfl (.cons rfl (.cons (rfl.trans (congrArg (fun b => some (Value.bool b)) ?_)) .nil)), rfl⟩
   exact dec_t (.inl (dec_false.1 (by simpa using h19)))
  ·refine G.m5 ?_
   have hft : FitsN l path := dec_true.1 (by simpa using h19)
   have h30 := hft.1
   refine G.gd rfl rfl ?_
   refine G.callP (v := .bool (dec (StaticN l))) Try.call31 rfl rfl (fun w1 hw1 => f31_any w1 l _ (hsv.old hw1) (by omega)) ?_
   refine G.vg rfl rfl (V.not rfl) rfl ?_
   refine G.m4 ?_
   refine G.m1 ?_
   refine G.bc 24 rfl (fun h24 => ?_) (fun h24 => ?_)
   ·refine G.s1 ?_
    refine G.s1 ?_
    refine G.m3 ?_
    refine G.m1 ?_
    refine G.s1 ?_
    refine G.s1 ?_
    refine G.s1 ?_
    refine G.m3 ?_
    refine G.m1 ?_
    refine G.s1 ?_
    refine G.s1 ?_
    refine G.s1 ?_
    refine G.m3 ?_
    refine G.nil ?_
    refine J3 _ _ ⟨.cons rfl (.cons rfl (.cons (rfl.trans (congrArg (fun b => some (Value.bool b)) ?_)) .nil)), rfl⟩
    exact dec_t (.inr (.inl (dec_false.1 (by simpa using h24))))
   ·refine G.m5 ?_
    refine G.vg rfl rfl (V.eqS rfl rfl) rfl ?_
    refine G.m4 ?_
    refine G.m1 ?_
    refine G.bc 28 rfl (fun h28 => ?_) (fun h28 => ?_)
    ·refine G.s1 ?_
     refine G.s1 ?_
     refine G.s1 ?_
     refine G.m3 ?_
     refine G.m1 ?_
     refine G.s1 ?_
     refine G.s1 ?_
     refine G.s1 ?_
     refine G.m3 ?_
     refine G.nil ?_
     refine J3 _ _ ⟨.cons rfl (.cons rfl (.cons (rfl.trans (congrArg (fun b => some (Value.bool b)) ?_)) .nil)), rfl⟩
     exact dec_t (.inr (.inr (.inl (of_decide_eq_true h28))))
    ·refine G.m5 ?_
     refine G.vg rfl rfl (V.lenL Try.underlying34 rfl) rfl ?_
     refine G.vg rfl rfl (V.eqI rfl rfl) rfl ?_
     refine G.m4 ?_
     refine G.m1 ?_
     refine G.bc 33 rfl (fun h33 => ?_) (fun h33 => ?_)
     ·refine G.s1 ?_
      refine G.s1 ?_
      refine G.s1 ?_
      refine G.m3 ?_
      refine G.nil ?_
      refine J3 _ _ ⟨.cons rfl (.cons rfl (.cons (rfl.trans (congrArg (fun b => some (Value.bool b)) ?_)) .nil)), rfl⟩
      exact dec_t (.inr (.inr (.inr (.inl (by have := of_decide_eq_true h33; omega)))))
     ·refine G.m5 ?_
      refine G.m5 ?_
      have hcl := hft.2.1.clean
      refine G.gd rfl rfl ?_
      refine G.callP (v := .bool (dec (InnerN l path))) Try.call32 rfl rfl (fun w1 hw1 => f32_any w1 l _ (hsv.old hw1) (by omega) (fun r hr => (hcl r hr).1) (fun r hr p hp => ?_) path ?_ (by have := hft.2.2.2.2; omega)) ?_
      ·have h1 := ((hcl r hr).part p hp).2
       have h2 : p.nm.length ≤ (rtP p).length := by unfold rtP; rw [List.length_append]; omega
       omega
      ·obtain ⟨t, ht⟩ := hft.2.2.1
       rw [← ht]; simp
      refine G.m4 ?_
      refine G.nil ?_
      refine J3 _ _ ⟨.cons rfl (.cons rfl (.cons (rfl.trans (congrArg (fun b => some (Value.bool b)) ?_)) .nil)), rfl⟩
      exact dec_c ⟨fun h => .inr (.inr (.inr (.inr h))), fun h => ((((h.resolve_left (fun h => h hft)).resolve_left (fun h => h (dec_true.1 (by simpa using h24)))).resolve_left (of_decide_eq_false h28)).resolve_left (fun h => by have := of_decide_eq_false h33; omega))⟩
 rintro fr' H' ⟨hs3, rfl⟩
 refine GC.weak hs3 ?_
 clear hs3
 refine GC.cond rfl (fun h37 => ?_) (fun h37 => ?_)
 ·refine GC.seq ?_
  refine GC.reg ?_
  refine G.callP (v := .bool true) Try.call14 rfl rfl (fun w1 _ => f14_any w1) ?_
  refine G.m2 ?_
  refine G.nil ?_
  exact GC.ret1 rfl rfl fun w' hw' => ⟨rfl, hw'.sub (List.nil_sublist _)⟩
 refine GC.skip ?_
 refine GC.seq ?_
 obtain ⟨hft, hst, hp47, hl0, hin⟩ : FitsN l path ∧ StaticN l ∧ path ≠ [47] ∧ l.length ≠ 0 ∧ ¬ InnerN l path := by
  have := dec_false.1 h37
  exact ⟨Classical.byContradiction fun h => this (.inl h), Classical.byContradiction fun h => this (.inr (.inl h)), fun h => this (.inr (.inr (.inl h))), fun h => this (.inr (.inr (.inr (.inl h)))), fun h => this (.inr (.inr (.inr (.inr h))))⟩
 have hcl := hft.2.1.clean
 have hbd : ∀ r ∈ l, (rtT r).length ≤ 1000000 ∧ r.length ≤ 1000000 := fun r hr => ⟨Nat.le_trans (hcl r hr).txt.1 (by omega), (clean_len (hcl r hr)).2⟩
 have h30 := hft.1
 refine GC.reg ?_
 refine G.m1 ?_
 refine G.callW (fun v H2 => ∃ Hk, Own 9 1 v l.length ((l.map rtT).map S) Hk ∧ H2 = Hk ++ []) Try.call23 rfl rfl (fun w1 hw1 => ?_) ?_
 ·refine (f23_any w1 l _ (hsv.old hw1) hbd (by omega)).mono fun e w' ⟨kv, Hs, h1, h2, h3⟩ => ?_
  exact ⟨_, _, h1, hw1.after0 h3 h2.w, Hs, h2, rfl⟩
 rintro tv H2 ⟨Hs, hot, rfl⟩
 refine G.m1 ?_
 refine G.bs (BS.one Try.underlying26 Try.sizeOf9 Try.zeroValue9 (v := S path) rfl) rfl rfl (fun qb hqb => ?_)
 refine G.callW (fun v H2 => ∃ r fb cap spare pa Ha, v = .tuple #[.slice (some ⟨fb, 0, none⟩) 1 cap, .bool true] ∧ Told l false path r ∧ Own 32 2 pa r.ps.length (flatP r.ps) Ha ∧ H2 = (⟨fb, true, .row (fndV r pa ++ spare) 30 (0, 0)⟩ :: Ha) ++ (⟨qb, true, .row [S path] 9 (0, 0)⟩ :: (Hs ++ []))) Try.call15 rfl rfl (fun w1 hw1 => ?_) ?_
 ·refine (f15_fit1 w1 l _ path hft (hot.txts (by simp) hw1 (fun e he => List.mem_cons_of_mem _ (List.mem_append_left _ he))) _ (Txts.row (l := [path]) (z := []) (e := 9) (wf := true) (fz := (0, 0)) hw1 (.head _)) false).mono fun e w' ⟨r, fb, cap, spare, pa, Ha, h1, h2, h3, h4⟩ => ?_
  exact ⟨_, _, h2, hw1.after0 h4 (fun e0 he0 => by
   rcases List.mem_cons.1 he0 with rfl | he0
   ·rfl
   ·exact h3.w e0 he0), r, fb, cap, spare, pa, Ha, rfl, h1, h3, rfl⟩
 rintro v H2 ⟨r, fb, cap, spare, pa, Ha, rfl, ht, ho, rfl⟩
 refine G.m1 ?_
 refine G.v (V.ex rfl rfl) rfl ?_
 refine G.v (V.ex rfl rfl) rfl ?_
 refine G.m2 ?_
 refine G.m2 ?_
 refine G.nil ?_
 refine GC.seq ?_
 refine GC.seq ?_
 refine GC.reg ?_
 refine G.m1 ?_
 refine G.v (V.not rfl) rfl ?_
 refine G.m1 ?_
 refine G.bc 49 rfl (fun h49 => ?_) (fun h49 => ?_)
 ·exact absurd h49 (by decide)
 ·refine G.m5 ?_
  refine G.vg rfl rfl (V.lenL Try.underlying23 rfl) rfl ?_
  refine G.vg rfl rfl (V.neI rfl rfl) rfl ?_
  refine G.m4 ?_
  refine G.nil ?_
  refine GC.cond rfl (fun h53 => absurd h53 (by simp)) (fun h53 => ?_)
  refine GC.skip ?_
  refine GC.seq ?_
  refine GC.seq ?_
  refine GC.reg ?_
  refine G.m1 ?_
  refine G.v (V.ia (i := 0) Try.underlying23 Try.sizeOf30 rfl rfl (by decide)) rfl ?_
  refine G.v (V.fa F30_0 rfl) rfl ?_
  refine G.v (V.ld (b := fb) (off := 0 + 0 * 4 + 0) (wf := true) (l := fndV r pa ++ spare) (T := 30) (fz := (0, 0)) (v := I (r.h.getD 0 : Nat)) Try.isAgg3 rfl (.head _) rfl) rfl ?_
  refine G.v (V.neI rfl rfl) rfl ?_
  refine G.nil ?_
  refine GC.cond rfl (fun h58 => ?_) (fun h58 => ?_)
  ·refine GC.seq ?_
   refine GC.reg ?_
   refine G.callP (v := .bool true) Try.call14 rfl rfl (fun w1 _ => f14_any w1) ?_
   refine G.m2 ?_
   refine G.nil ?_
   exact GC.ret1 rfl rfl fun w' hw' => ⟨rfl, hw'.sub (List.nil_sublist _)⟩
  refine GC.skip ?_
  refine GC.seq ?_
  have hr00 : ((r.h.getD 0 : Nat) : Int) = 0 := by simpa using h58
  have hr0 : r.h = none := told_none ht (by omega)
  obtain ⟨t, g, ht1, hg1⟩ := ht.1
  have hts := static_tsr hft hst (fun h => hl0 (by rw [h]; rfl)) hp47 hin ht1 hg1 hr0
  obtain ⟨SW, hSW⟩ : ∃ SW : World → Prop, SW = fun w1 => ∀ (j : Nat) v, (fndV r pa)[j]? = some v → w1.cell? ⟨fb, 0 + 0 * 4 + j, none⟩ = some v := ⟨_, rfl⟩
  have hS : ∀ (H' : SH), ⟨fb, true, .row (fndV r pa ++ spare) 30 (0, 0)⟩ ∈ H' → ∀ w1, HF w (fun _ => False) H' w1 → SW w1 := fun H' hm w1 h1 => by
   rw [hSW]
   exact cells_of h1 (0 + 0 * 4) _ hm (fun j v hj => fnd_at r pa spare j v hj)
  refine GC.regA (SW) mixed ?_
  refine GA.p 0 rfl (by kernel_rfl) (hS _ (.head _)) (fun _ => V.mv rfl) rfl ?_
  refine GA.p 1 rfl (by kernel_rfl) (hS _ (.head _)) (fun _ => V.ia (i := 0) Try.underlying23 Try.sizeOf30 rfl rfl (by decide)) rfl ?_
  refine GA.p 2 rfl (by kernel_rfl) (hS _ (.head _)) (fun _ => V.fa F30_3 rfl) rfl ?_
  refine GA.ld  3 rfl (by kernel_rfl) (hS _ (.head _)) Try.isAgg4 rfl (fun w1 h1 => by rw [hSW] at h1; exact h1 3 _ rfl) rfl ?_
  refine GA.p 4 rfl (by kernel_rfl) (hS _ (.head _)) (fun _ => V.mv rfl) rfl ?_
  refine GA.p 5 rfl (by kernel_rfl) (hS _ (.head _)) (fun _ => V.mv rfl) rfl ?_
  refine GA.one 6 rfl (by kernel_rfl) ?_
  refine GB.callP (v := S (slashN path)) Try.call34 rfl rfl (hS _ (.head _)) (fun w1 hw1 => f34_any w1 path (by have := hft.2.2.2.2; omega)) ?_
  refine GA.one 7 rfl (by kernel_rfl) ?_
  refine GB.callW (fun v H2 => ∃ (k : Nat) (pv : Value) (full : List UInt8) (Hp : SH), v = .agg #[I (k : Nat), pv, S full, .bool false] ∧ BestAt l (slashN path) (bestN l (slashN path) l.length) k pv full Hp ∧ H2 = Hp ++ ((⟨fb, true, .row (fndV r pa ++ spare) 30 (0, 0)⟩ :: Ha) ++ (⟨qb, true, .row [S path] 9 (0, 0)⟩ :: (Hs ++ [])))) Try.call33 rfl rfl (fun v H' ⟨_, _, _, Hp, _, _, e⟩ w1 h1 => hS H' (e ▸ List.mem_append_right _ (.head _)) w1 h1) (fun w1 hw1 => ?_) ?_
  ·exact (f33_any w1 l _ (hsv.old hw1) hcl (by omega) (slashN path) (by have := hft.2.2.2.2; unfold slashN; split; rw [List.length_take]; omega; rw [List.length_append]; simp; omega)).mono fun e w' ⟨k, pv, full, Hp, h1, h2, h3⟩ => ⟨_, _, h1, hw1.after0 h3 h2.w, k, pv, full, Hp, rfl, h2, rfl⟩
  rintro v H2 ⟨k, pv, full, Hp, rfl, hb, rfl⟩
  refine GA.p 8 rfl (by kernel_rfl) (hS _ (List.mem_append_right _ (.head _))) (fun _ => V.fld (v := I (k : Nat)) Try.underlying55 rfl Try.isAgg3 rfl rfl) rfl ?_
  refine GA.p 9 rfl (by kernel_rfl) (hS _ (List.mem_append_right _ (.head _))) (fun _ => V.neI rfl rfl) rfl ?_
  refine GA.p 10 rfl (by kernel_rfl) (hS _ (List.mem_append_right _ (.head _))) (fun _ => eqB_true (hts.trans (best_num hb)) (V.eqB Try.underlying4 rfl rfl)) rfl ?_
  refine GA.p 11 rfl (by kernel_rfl) (hS _ (List.mem_append_right _ (.head _))) (fun _ => V.mv rfl) rfl ?_
  refine GA.one 12 rfl (by kernel_rfl) ?_
  refine GB.gd rfl rfl ?_
  refine GB.callP (v := .bool true) Try.call14 rfl rfl (hS _ (List.mem_append_right _ (.head _))) (fun w1 _ => f14_any w1) ?_
  refine GA.p 13 rfl (by kernel_rfl) (hS _ (List.mem_append_right _ (.head _))) (fun _ => V.pickT rfl rfl) rfl ?_
  refine GA.p 14 rfl (by kernel_rfl) (hS _ (List.mem_append_right _ (.head _))) (fun _ => V.asg rfl) rfl ?_
  refine GA.done (by kernel_rfl) ?_
  exact GC.ret1 rfl rfl fun w' hw' => ⟨rfl, hw'.sub (List.nil_sublist _)⟩
end Go.Proofs

/- A law's statement out of its walk: FnGinStatic. -/
set_option maxRecDepth 100000
namespace Go.Proofs.Ytnopecnbpflodaa.ginstatic
open Go Bw Go.ChangeShapes Go.WideShapes Go.ChangeAt Go.RowKit
theorem contract (H : Type) (enc : TypeId × Value → H) (W : World) (base : Nat) (args : Array Value) (ds gs : List (DataW H)) (before : List MemPlace)
  (hval : ∀ (j : Nat) t v, Try.f8.params[j]? = some t → args[j]? = some v → Value.okWide Try.prog W .any base t v)
  (hW : DataW.Whole enc Try.prog Try.f8.params.toList Rows.fnGinStaticSpec.vars false W args.toList ds gs before) :
  Calls Try.prog 8 args W fun e W' => ∃ v, e = .returned v ∧ Rows.fnGinStaticSpec.post enc Try.prog Try.f8 false true false false W args v W' := by
 have hW' := hW
 obtain ⟨p, q, hA0, hV, rfl, hfz, hnd⟩ := hW
 have hA : DataW.TrodAll enc Try.prog W 0 (fun _ => true) true [34, 9] args.toList ds p := hA0
 obtain ⟨v0, vs0, d0, ds0, p0, q0, hargs, rfl, rfl, h0, r0⟩ := trodAll_cons hA
 obtain ⟨v1, vs_1, d1, ds1, p1, q1, rfl, rfl, rfl, h1, r1⟩ := trodAll_cons r0
 obtain ⟨rfl, rfl, rfl⟩ := trodAll_nil r1
 obtain rfl : args = #[v0, v1] := by cases args; simp_all
 obtain ⟨rs0, hrs0⟩ := open_parts2 (hval 0 34 v0 rfl rfl) h0
 obtain ⟨l1, rfl⟩ := open_str Try.underlying9 (hval 1 9 v1 rfl rfl)
 refine (f8_any W rs0 v0 hrs0 l1).mono fun e W' ⟨he, hf⟩ => ⟨_, he, ?_⟩
 refine post_law hW' rfl rfl ?_ (by kernel_rfl) (below_of hf)
 obtain ⟨rfl, rfl⟩ := trodVars_none hV
 rfl
theorem reads (os : Os) {H : Type} (enc : TypeId × Value → H) : ∃ places, DataW.whole enc Try.prog ((plainWorld os).forCall (fun _ _ => 0) ⟨#[], #[.slice none 0 0, .string ⟨#[]⟩], []⟩).memory Try.f8.params.toList Rows.fnGinStaticSpec.vars false (#[.slice none 0 0, .string ⟨#[]⟩] : Array Value).toList 8 = some ([.nil, .lit (.string [])], [], places) :=
 ⟨[], by kernel_rfl⟩
theorem lifted (os : Os) (started : os.Started) (H : Type) (enc : TypeId × Value → H) (F : Stop.Interp) :
  ReturnsInHanded {} Try.checked os 8 .any ((OpenSpec.ofChange Rows.fnGinStaticSpec).preRow enc Try.prog Try.f8 Rows.fnGinStaticRow.domain false Rows.fnGinStaticRow.laid) (((OpenSpec.ofChange Rows.fnGinStaticSpec).at F).post enc Try.prog Try.f8 false true false false) := by
 obtain ⟨places, hx⟩ := reads os enc
 refine returnsInHanded_of_row (C := Try.checked) (s := OpenSpec.ofChange Rows.fnGinStaticSpec) try_own started (by kernel_rfl) Try.func8
  (witness_row_at (enc := enc) (C := Try.checked) false (plainWorld os) #[.slice none 0 0, .string ⟨#[]⟩] rfl (by kernel_rfl) (by kernel_rfl) (by kernel_rfl)
   (OpenSpec.preRow_of_cond 8 hx (by kernel_rfl) (fun k hk => by cases hk) (by kernel_rfl) (laid_none _))) ?_
 intro W base args ds gs before hval hW _ _ _ hL _ _
 exact contract H enc W base args ds gs before hval hW
theorem said : Rows.FnGinStaticSaid :=
 OpenClaim.holds_of_cond 8 Try.f8 rfl rfl rfl rfl rfl rfl rfl ⟨rfl, rfl, rfl, rfl, rfl⟩ rfl rfl rfl rfl rfl (by kernel_rfl) Try.func8 (by kernel_rfl)
  (of_decide_eq_true (by kernel_rfl)) (by unfold Func.isWrapper; first | (rw [if_pos (by decide +kernel)]; kernel_rfl) | (rw [if_neg (by decide +kernel)]; exact ⟨rfl, rfl⟩))
  (fun os started H enc _ F => by rw [OpenClaim.pre_eq_preRow]; exact lifted os started H enc F)
end Go.Proofs.Ytnopecnbpflodaa.ginstatic
