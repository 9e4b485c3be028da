/- The law FnGinFilled holds for every input: a path that is made of a route, with values in the place of its parameters, finds a route, and, if it is this one, with these values. -/
import Derived.Test.YtnopecnbpflodaaSa
import Derived.Test.YtnopecnbpflodaaKa
import Derived.Test.YtnopecnbpflodaaPq
import Derived.Test.YtnopecnbpflodaaRowb
/- FnGinFind. Printed by wip/mk_gs2x.py. -/
set_option maxRecDepth 20000
namespace Go.Proofs
open Go Bw
open Gt
theorem Prms.none (w : World) : Prms w (.slice none 0 0) [] := ⟨_, _, rfl, fun j x h => by simp at h⟩
end Go.Proofs

/- FnGinMany. Printed by wip/mk_gs3x.py. -/
set_option maxRecDepth 20000
namespace Go.Proofs
open Go Bw
open Gt
theorem Fnds.at {rr : List Res} {cells : List Value} {Hq : SH} (h : Fnds rr cells Hq) : cells.length = rr.length * 4 ∧ ∀ (j : Nat) r, rr[j]? = some r → ∃ pa Ha, Own 32 2 pa r.ps.length (flatP r.ps) Ha ∧ (∀ x ∈ Ha, x ∈ Hq) ∧ ∀ (k : Nat) v, (fndV r pa)[k]? = some v → cells[j * 4 + k]? = some v := by
 induction h with
 | nil => exact ⟨rfl, fun j r hj => by simp at hj⟩
 | @snoc rs cells H Hq r pv h ho ih =>
  obtain ⟨h1, h2⟩ := ih
  have hf : (fndV r pv).length = 4 := rfl
  refine ⟨by rw [List.length_append, List.length_append, h1, hf, List.length_singleton]; omega, fun j x hj => ?_⟩
  by_cases hl : j < rs.length
  ·rw [List.getElem?_append_left hl] at hj
   obtain ⟨pa, Ha, h3, h4, h5⟩ := h2 j x hj
   refine ⟨pa, Ha, h3, fun y hy => List.mem_append_left _ (h4 y hy), fun k v hk => ?_⟩
   have h6 := h5 k v hk
   rw [List.getElem?_append_left (List.getElem?_eq_some_iff.1 h6).1]; exact h6
  ·rw [List.getElem?_append_right (by omega)] at hj
   have hj0 : j - rs.length = 0 := by
    have := (List.getElem?_eq_some_iff.1 hj).1
    rw [List.length_singleton] at this; omega
   rw [hj0] at hj
   cases hj
   refine ⟨pv, Hq, ho, fun y hy => List.mem_append_right _ hy, fun k v hk => ?_⟩
   have e : j * 4 + k = cells.length + k := by rw [h1]; omega
   rw [e, List.getElem?_append_right (by omega), Nat.add_sub_cancel_left]; exact hk
theorem fits_both {l : List (List Prt)} {q p : List UInt8} (h1 : FitsN l q) (h2 : FitsN [] p) : FitsN l p := ⟨h1.1, h1.2.1, h2.2.2⟩
theorem tbl_nil (w : World) : Tbl w (.slice none 0 0) [] := ⟨none, 0, rfl, Nat.le_refl _, fun j r h => by simp at h⟩
theorem fits4_nil : Fits4 [] := ⟨by simp, fun r h => by cases h⟩
end Go.Proofs

/- A path that is made of a route and values. No program in sight. -/
namespace Gt
open Gs Tr
/-- a value that a parameter may have -/
def okV (v : List UInt8) : Prop := v ≠ [] ∧ v.length ≤ 20 ∧ (47 : UInt8) ∉ v
instance (v : List UInt8) : Decidable (okV v) := inferInstanceAs (Decidable (_ ∧ _ ∧ _))
/-- a route's path, with values in the place of its parameters, and what they are told as -/
def fillF : List Prt → List (List UInt8) → Option (List UInt8 × Vs)
  | [], _ => some ([], [])
  | p :: l, vs => if p.k.toNat = 0 then (fillF l vs).map fun x => (p.nm ++ x.1, x.2) else
    match vs with
    | [] => none
    | v :: vs => if okV v then (fillF l vs).map fun x => (v ++ x.1, (p.nm, if p.k.toNat = 2 then 47 :: v else v) :: x.2) else none
theorem fillF_0 {p : Prt} {l : List Prt} {vs : List (List UInt8)} (hk : p.k.toNat = 0) : fillF (p :: l) vs = (fillF l vs).map fun x => (p.nm ++ x.1, x.2) := by
  rw [fillF.eq_def]; exact if_pos hk
theorem fillF_n {p : Prt} {l : List Prt} (hk : p.k.toNat ≠ 0) : fillF (p :: l) [] = none := by
  rw [fillF.eq_def]; exact if_neg hk
theorem fillF_v {p : Prt} {l : List Prt} {v : List UInt8} {vs : List (List UInt8)} (hk : p.k.toNat ≠ 0) : fillF (p :: l) (v :: vs) = if okV v then (fillF l vs).map fun x => (v ++ x.1, (p.nm, if p.k.toNat = 2 then 47 :: v else v) :: x.2) else none := by
  rw [fillF.eq_def]; exact if_neg hk
theorem fill_text {a : List Prt} {vals : List (List UInt8)} {i n : Nat} {p : Prt} {path : List UInt8} {want : Vs} (hp : a[i]? = some p) (hk : p.k.toNat = 0) (h : fillF a vals = (fillF (a.drop i) (vals.drop n)).map fun x => (path ++ x.1, want ++ x.2)) :
    fillF a vals = (fillF (a.drop (i + 1)) (vals.drop n)).map fun x => ((path ++ p.nm) ++ x.1, want ++ x.2) := by
  rw [h, drop_at hp]
  have e : fillF (p :: a.drop (i + 1)) (vals.drop n) = (fillF (a.drop (i + 1)) (vals.drop n)).map fun x => (p.nm ++ x.1, x.2) := by
    rw [fillF_0 hk]
  rw [e, Option.map_map]
  congr 1
  funext x
  simp
theorem fill_val {a : List Prt} {vals : List (List UInt8)} {i n : Nat} {p : Prt} {v path : List UInt8} {want : Vs} (hp : a[i]? = some p) (hk : p.k.toNat ≠ 0) (hv : vals[n]? = some v) (hok : okV v) (h : fillF a vals = (fillF (a.drop i) (vals.drop n)).map fun x => (path ++ x.1, want ++ x.2)) :
    fillF a vals = (fillF (a.drop (i + 1)) (vals.drop (n + 1))).map fun x => ((path ++ v) ++ x.1, (want ++ [(p.nm, if p.k.toNat = 2 then 47 :: v else v)]) ++ x.2) := by
  rw [h, drop_at hp]
  have hd : vals.drop n = v :: vals.drop (n + 1) := by
    obtain ⟨h1, h2⟩ := List.getElem?_eq_some_iff.1 hv
    rw [List.drop_eq_getElem_cons h1, h2]
  have e : fillF (p :: a.drop (i + 1)) (vals.drop n) = (fillF (a.drop (i + 1)) (vals.drop (n + 1))).map fun x => (v ++ x.1, (p.nm, if p.k.toNat = 2 then 47 :: v else v) :: x.2) := by
    rw [hd, fillF_v hk, if_pos hok]
  rw [e, Option.map_map]
  congr 1
  funext x
  simp
/-- behind a parameter a text begins with a slash -/
def ChP : List Prt → Prop
  | [] => True
  | p :: l => p.k.toNat ≤ 2 ∧ (p.k.toNat = 2 → l = []) ∧ (p.k.toNat = 1 → ∀ q r, l = q :: r → q.k.toNat = 0 ∧ q.nm.head? = some 47) ∧ ChP l
theorem Clean.chP {l : List Prt} (h : Clean l) : ChP l := by
  have key : ∀ (n j : Nat), n + j = l.length → ChP (l.drop j) := by
    intro n
    induction n with
    | zero => intro j hj; rw [List.drop_of_length_le (by omega)]; trivial
    | succ n ih =>
      intro j hj
      obtain ⟨p, hp⟩ : ∃ p, l[j]? = some p := ⟨_, List.getElem?_eq_getElem (by omega)⟩
      have hop := h.2.2.2 j p hp
      rw [drop_at hp]
      refine ⟨hop.2.1, fun h2 => List.drop_of_length_le (by have := hop.2.2.1 h2; omega), fun h1 q r hqr => ?_, ih (j + 1) (by omega)⟩
      have hq : l[j + 1]? = some q := by
        have e : (l.drop (j + 1))[0]? = some q := by rw [hqr]; rfl
        rw [List.getElem?_drop] at e
        simpa using e
      have hoq := h.2.2.2 (j + 1) q hq
      have hk0 : q.k.toNat = 0 := hoq.1.2 (by
        have : ¬ j % 2 = 0 := fun e => by have := hop.1.2 e; omega
        omega)
      exact ⟨hk0, (hoq.2.2.2.1 hk0).2.2.2.1 (by omega)⟩
  have := key l.length 0 (by omega)
  rwa [List.drop_zero] at this
theorem fill_MT : ∀ (l : List Prt) (vs : List (List UInt8)) (path : List UInt8) (want : Vs), ChP l → fillF l vs = some (path, want) → MT (tokT l) path = some want
  | [], _, path, want, _, h => by
    rw [fillF] at h
    cases h
    rfl
  | p :: l, vs, path, want, hc, h => by
    have e1 : tokT (p :: l) = tokP p ++ tokT l := by simp [tokT]
    rw [e1]
    unfold tokP
    by_cases h0 : p.k.toNat = 0
    · rw [fillF_0 h0] at h
      obtain ⟨⟨x, w⟩, h1, h2⟩ := Option.map_eq_some_iff.1 h
      cases h2
      rw [if_pos h0, MT_bs, if_pos (by simp), List.drop_left]
      exact fill_MT l vs x _ hc.2.2.2 h1
    · rw [if_neg h0]
      cases vs with
      | nil => rw [fillF_n h0] at h; cases h
      | cons v vs =>
        have h' : (if okV v then (fillF l vs).map fun x => (v ++ x.1, (p.nm, if p.k.toNat = 2 then 47 :: v else v) :: x.2) else none) = some (path, want) := by rw [← fillF_v h0]; exact h
        by_cases hv : okV v
        · rw [if_pos hv] at h'
          obtain ⟨⟨x, w⟩, h1, h2⟩ := Option.map_eq_some_iff.1 h'
          have hvl : 0 < v.length := List.length_pos_iff.2 hv.1
          by_cases hk1 : p.k.toNat = 1
          · rw [if_pos hk1]
            rw [if_neg (by omega)] at h2
            cases h2
            have hx : x = [] ∨ ∃ t, x = 47 :: t := by
              cases l with
              | nil =>
                rw [fillF] at h1
                cases h1
                exact .inl rfl
              | cons q r =>
                obtain ⟨hq0, hq47⟩ := hc.2.2.1 hk1 q r rfl
                rw [fillF_0 hq0] at h1
                obtain ⟨⟨y, z⟩, _, h4⟩ := Option.map_eq_some_iff.1 h1
                cases h4
                cases hn : q.nm with
                | nil => rw [hn] at hq47; cases hq47
                | cons c t => rw [hn] at hq47; cases hq47; exact .inr ⟨t ++ y, rfl⟩
            have hsl : sl (v ++ x) = v.length := by
              rcases hx with rfl | ⟨t, rfl⟩
              · rw [List.append_nil]; exact sl_no hv.2.2
              · exact sl_value hv.2.2
            show (if sl (v ++ x) = 0 then none else (MT (tokT l) ((v ++ x).drop (sl (v ++ x)))).map ((p.nm, (v ++ x).take (sl (v ++ x))) :: ·)) = _
            rw [hsl, if_neg (by omega), List.drop_left, List.take_left, fill_MT l vs x w hc.2.2.2 h1]; rfl
          · have hk2 : p.k.toNat = 2 := by have := hc.1; omega
            rw [if_neg hk1]
            rw [if_pos hk2] at h2
            have hl := hc.2.1 hk2
            subst hl
            rw [fillF] at h1
            cases h1
            cases h2
            show some [(p.nm, 47 :: (v ++ []))] = _
            rw [List.append_nil]
        · rw [if_neg hv] at h'; cases h'
theorem fill_match {a : List Prt} (h : Clean a) {vs : List (List UInt8)} {path : List UInt8} {want : Vs} (hf : fillF a vs = some (path, want)) : matchN a path = some want := by
  rw [h.match]; exact fill_MT a vs path want h.chP hf
/-- a route that matches: something is found, and the right values if it is this one -/
theorem found_of {l : List (List Prt)} {path : List UInt8} {r : Res} (ht : TableN l) (h : FoundN l path (unV false) r) {k : Nat} {a : List Prt} {want : Vs} (ha : l[k]? = some a) (hm : matchN a path = some want) : ∃ m, r.h = some (m + 1) ∧ (m = k → r.ps = want) := by
  rcases h with ⟨h1, _⟩ | ⟨m, b, v, h1, h2, h3, h4, _, h6⟩
  · have := (bestN_spec ht path (Nat.le_refl l.length)).1 h1 k a (List.getElem?_eq_some_iff.1 ha).1 ha
    rw [hm] at this; cases this
  · refine ⟨m, h4, fun e => ?_⟩
    subst e
    rw [ha] at h2
    cases h2
    rw [hm] at h3
    cases h3
    rw [h6]
    unfold U
    rw [show (fun x : List UInt8 × List UInt8 => (x.1, unV false x.2)) = id from funext fun x => rfl, List.map_id]
end Gt

/- FnGinFilled. Printed by wip/mk_gs4x.py. -/
set_option maxRecDepth 20000
namespace Go.Proofs
open Go Bw
open Gt
theorem f7_any (w : World) (l : List (List Prt)) (sv : Value) (hsv : Tbl w sv l) (q : UInt8) (vals : List (List UInt8)) (vv : Value) (hvv : Txts w vv vals) : Calls Try.prog 7 #[sv, .int .u8 (q.toNat : Int), vv] w fun e w' => e = .returned (.bool true) ∧ HF w (fun _ => False) [] w' := by
 refine enter (fun _ => False) [] Try.func7 rfl Try.ntmps7 rfl rfl (HF.start w _) fun c hc => ?_
 subst hc
 have hsv0 := hsv
 have hvv0 := hvv
 obtain ⟨ad, cp, rfl, hcp, hc⟩ := hsv
 obtain ⟨vad, vcp, rfl, hvc⟩ := hvv
 refine GC.seq ?_
 refine GC.reg ?_
 refine G.m2 ?_
 refine G.nil ?_
 refine GC.seq ?_
 refine GC.seq ?_
 refine GC.join (fun fr' H' => Sub [(0, .slice ad l.length cp), (1, .int .u8 (q.toNat : Int)), (2, .slice vad vals.length vcp), (23, .bool (dec (¬ Fits4 l ∨ ¬ Fits3 vals)))] fr' ∧ H' = []) (fun J1 => ?_) ?_
 ·refine GC.reg ?_
  refine G.m1 ?_
  refine G.callP (v := .bool (dec (Fits4 l))) Try.call17 rfl rfl (fun w1 hw1 => f17_any w1 l _ (hsv0.old hw1)) ?_
  refine G.v (V.not rfl) rfl ?_
  refine G.m1 ?_
  refine G.bc 19 rfl (fun h19 => ?_) (fun h19 => ?_)
  ·refine G.s1 ?_
   refine G.s1 ?_
   refine G.s1 ?_
   refine G.m3 ?_
   refine G.nil ?_
   refine J1 _ _ ⟨.cons rfl (.cons rfl (.cons rfl (.cons (rfl.trans (congrArg (fun b => some (Value.bool b)) ?_)) .nil))), rfl⟩
   exact dec_t (.inl (dec_false.1 (by simpa using h19)))
  ·refine G.m5 ?_
   refine G.gd rfl rfl ?_
   refine G.callP (v := .bool (dec (Fits3 vals))) Try.call28 rfl rfl (fun w1 hw1 => f28_any w1 vals _ (hvv0.old hw1)) ?_
   refine G.vg rfl rfl (V.not rfl) rfl ?_
   refine G.m4 ?_
   refine G.nil ?_
   refine J1 _ _ ⟨.cons rfl (.cons rfl (.cons rfl (.cons (rfl.trans (congrArg (fun b => some (Value.bool b)) ?_)) .nil))), rfl⟩
   exact dec_nc ⟨.inr, fun h => h.resolve_left (fun h => h (dec_true.1 (by simpa using h19)))⟩
 rintro fr' H' ⟨hs1, rfl⟩
 refine GC.weak hs1 ?_
 clear hs1
 refine GC.cond rfl (fun h23 => ?_) (fun h23 => ?_)
 ·refine GC.seq ?_
  refine GC.reg ?_
  refine G.m2 ?_
  refine G.nil ?_
  exact GC.ret1 rfl rfl fun w' hw' => ⟨rfl, hw'.sub (List.nil_sublist _)⟩
 refine GC.skip ?_
 refine GC.seq ?_
 refine GC.seq ?_
 obtain ⟨h4, h3⟩ : Fits4 l ∧ Fits3 vals := by
  have := dec_false.1 h23
  exact ⟨Classical.byContradiction fun h => this (.inl h), Classical.byContradiction fun h => this (.inr h)⟩
 refine GC.join (fun fr' H' => Sub [(0, .slice ad l.length cp), (1, .int .u8 (q.toNat : Int)), (2, .slice vad vals.length vcp), (31, .bool (dec (l.length = 0 ∨ ¬ FitsN l [47])))] fr' ∧ H' = []) (fun J3 => ?_) ?_
 ·refine GC.reg ?_
  refine G.m1 ?_
  refine G.v (V.lenL Try.underlying34 rfl) rfl ?_
  refine G.v (V.eqI rfl rfl) rfl ?_
  refine G.m1 ?_
  refine G.bc 27 rfl (fun h27 => ?_) (fun h27 => ?_)
  ·refine G.s1 ?_
   refine G.s1 ?_
   refine G.s1 ?_
   refine G.m3 ?_
   refine G.nil ?_
   refine J3 _ _ ⟨.cons rfl (.cons rfl (.cons rfl (.cons (rfl.trans (congrArg (fun b => some (Value.bool b)) ?_)) .nil))), rfl⟩
   exact dec_t (.inl (by have := of_decide_eq_true h27; omega))
  ·refine G.m5 ?_
   refine G.gd rfl rfl ?_
   refine G.callP (v := .bool (dec (FitsN l [47]))) Try.call19 rfl rfl (fun w1 hw1 => f19_any w1 l _ (hsv0.old hw1) h4 [47] (by simp)) ?_
   refine G.vg rfl rfl (V.not rfl) rfl ?_
   refine G.m4 ?_
   refine G.nil ?_
   refine J3 _ _ ⟨.cons rfl (.cons rfl (.cons rfl (.cons (rfl.trans (congrArg (fun b => some (Value.bool b)) ?_)) .nil))), rfl⟩
   exact dec_nc ⟨.inr, fun h => h.resolve_left (fun h => by have := of_decide_eq_false h27; omega)⟩
 rintro fr' H' ⟨hs3, rfl⟩
 refine GC.weak hs3 ?_
 clear hs3
 refine GC.cond rfl (fun h31 => ?_) (fun h31 => ?_)
 ·refine GC.seq ?_
  refine GC.reg ?_
  refine G.callP (v := .bool true) Try.call14 rfl rfl (fun w1 _ => f14_any w1) ?_
  refine G.m2 ?_
  refine G.nil ?_
  exact GC.ret1 rfl rfl fun w' hw' => ⟨rfl, hw'.sub (List.nil_sublist _)⟩
 refine GC.skip ?_
 refine GC.seq ?_
 obtain ⟨hl0, hf1⟩ : l.length ≠ 0 ∧ FitsN l [47] := by
  have := dec_false.1 h31
  exact ⟨fun h => this (.inl h), Classical.byContradiction fun h => this (.inr h)⟩
 refine GC.reg ?_
 refine G.m1 ?_
 refine G.v (V.cvI Try.underlying5 Try.underlying3 rfl) rfl ?_
 have hq := q.toNat_lt
 have hwr : IntKind.i64.wrap (q.toNat : Int) = (q.toNat : Int) := by
  unfold IntKind.wrap
  simp [IntKind.bits, IntKind.signed]
  omega
 rw [hwr]
 refine G.m1 ?_
 refine G.v (V.lenL Try.underlying34 rfl) rfl ?_
 refine G.v (V.remI (i := q.toNat) (j := l.length) rfl rfl (by omega)) rfl ?_
 refine G.m2 ?_
 refine G.nil ?_
 obtain ⟨k, hk⟩ : ∃ k, k = q.toNat % l.length := ⟨_, rfl⟩
 have hkn : k < l.length := by rw [hk]; exact Nat.mod_lt _ (by omega)
 rw [← hk]
 refine GC.seq ?_
 refine GC.reg ?_
 refine G.m2 ?_
 refine G.m2 ?_
 refine G.nil ?_
 refine GC.seq ?_
 refine GC.reg ?_
 refine G.m2 ?_
 refine G.nil ?_
 refine GC.seq ?_
 refine GC.seq ?_
 obtain ⟨a, ha⟩ : ∃ a, l[k]? = some a := ⟨_, List.getElem?_eq_getElem hkn⟩
 obtain ⟨ab, ao, av, e0, hc1, hc2⟩ := hc k a ha
 cases e0
 have hca := hf1.2.1.clean a (List.mem_of_getElem? ha)
 have h12 := hca.2.1
 obtain ⟨pad, pcp, rfl, hpcp, hpc⟩ := hc2
 refine GC.reg ?_
 refine G.m1 ?_
 refine G.m1 ?_
 refine G.v (V.ia (i := k) Try.underlying34 Try.sizeOf35 rfl rfl hkn) rfl ?_
 refine G.v (V.ldC (v := .slice pad a.length pcp) Try.isAgg35 rfl (by rw [Nat.mul_one]; exact hc1) id) rfl ?_
 refine G.v (V.lenL Try.underlying35 rfl) rfl ?_
 refine G.m1 ?_
 refine G.nil ?_
 refine GC.block ?_
 refine GC.loopJ (fun N fr' H' => ∃ (i : Nat) (path : List UInt8) (want : Vs) (kv : Value) (Hw : SH), i + N = a.length ∧ (fillF a vals = (fillF (a.drop i) (vals.drop want.length)).map fun x => (path ++ x.1, want ++ x.2)) ∧ path.length ≤ 120 * i ∧ want.length ≤ i ∧ Own 32 2 kv want.length (flatP want) Hw ∧ Sub [(0, .slice (some ⟨ab, ao, none⟩) l.length cp), (2, .slice vad vals.length vcp), (7, I (k : Nat)), (8, S path), (9, I (want.length : Nat)), (10, kv), (41, .slice pad a.length pcp), (42, I (a.length : Nat)), (43, I (i : Nat))] fr' ∧ Hw = H') a.length
  ⟨0, [], [], .slice none 0 0, [], by omega, by simp, by simp, by simp, Own.nil, .of rfl, rfl⟩ ?_
 rintro N fr' H' ⟨i, path, want, kv, Hw, hi, hfl, hpl, hwl, hown, hs2, rfl⟩ ih
 refine GC.weak hs2 ?_
 clear hs2
 refine GC.seq ?_
 refine GC.reg ?_
 refine G.v (V.lt rfl rfl) rfl ?_
 refine G.nil ?_
 refine GC.seq ?_
 refine GC.condD rfl (fun h44 => ?_) (fun h44 => ?_)
 ·refine GC.skip ?_
  refine GC.seq ?_
  refine GC.block ?_
  refine GC.seq ?_
  have hil : i < a.length := by omega
  obtain ⟨p, hp⟩ : ∃ p, a[i]? = some p := ⟨_, List.getElem?_eq_getElem hil⟩
  obtain ⟨b, o, e0, hp1, hp2⟩ := hpc i p hp
  cases e0
  have hop := hca.2.2.2 i p hp
  have hk2 := hop.2.1
  refine GC.reg ?_
  refine G.v (V.ia (i := i) Try.underlying35 Try.sizeOf50 rfl rfl hil) rfl ?_
  refine G.v (V.ldAC (s := 2) (cs := prV p) Try.isAgg50 Try.sizeOf50 rfl (cells2 hp1 hp2) rfl id) rfl ?_
  refine G.al Try.zeroValue50 rfl rfl (fun pb hpb => ?_)
  refine G.stA (cs := prV p) Try.sizeOf50 rfl rfl (by simp [prV, Value.oneCell']) .z rfl ?_
  refine G.nil ?_
  refine GC.seq ?_
  refine GC.seq ?_
  refine GC.reg ?_
  refine G.v (V.fa F50_0 rfl) rfl ?_
  refine G.v (V.ld (b := pb) (off := 0 + 0) (wf := true) (l := prV p) (T := 50) (fz := (0, 0)) (v := .int .u8 (p.k.toNat : Int)) Try.isAgg5 rfl (.head _) rfl) rfl ?_
  refine G.v (V.eqI rfl rfl) rfl ?_
  refine G.nil ?_
  refine GC.cond rfl (fun h49 => ?_) (fun h49 => ?_)
  ·refine GC.seq ?_
   have hk0 : p.k.toNat = 0 := by have := of_decide_eq_true h49; omega
   have hnl : p.nm.length ≤ 100 := (hop.2.2.2.1 hk0).2.1
   refine GC.reg ?_
   refine G.m1 ?_
   refine G.v (V.fa F50_1 rfl) rfl ?_
   refine G.v (V.ld (b := pb) (off := 0 + 1) (wf := true) (l := prV p) (T := 50) (fz := (0, 0)) (v := S p.nm) Try.isAgg9 rfl (.head _) rfl) rfl ?_
   refine G.v (V.cat rfl rfl (by omega)) rfl ?_
   refine G.m2 ?_
   refine G.nil ?_
   refine GC.exit rfl ?_
   refine GC.reg ?_
   refine G.v (V.addI (r := ((i + 1 : Nat) : Int)) rfl rfl rfl (by omega) (by omega)) rfl ?_
   refine G.m1 ?_
   refine G.nil ?_
   refine GC.turn (H' := Hw) (fun w1 h1 => h1.sub (List.sublist_cons_self _ _)) ?_
   exact ih (N - 1) _ _ (by omega) ⟨i + 1, path ++ p.nm, want, kv, Hw, by omega, fill_text hp hk0 hfl, by rw [List.length_append]; omega, by omega, hown, .of rfl, rfl⟩
  refine GC.skip ?_
  refine GC.seq ?_
  refine GC.seq ?_
  have hk0 : p.k.toNat ≠ 0 := by have := of_decide_eq_false h49; omega
  refine GC.join (fun fr' H' => Sub [(12, Pt pb 0), (0, .slice (some ⟨ab, ao, none⟩) l.length cp), (2, .slice vad vals.length vcp), (7, I (k : Nat)), (8, S path), (9, I (want.length : Nat)), (10, kv), (41, .slice (some ⟨b, o, none⟩) a.length pcp), (42, I (a.length : Nat)), (43, I (i : Nat)), (79, .bool (dec (¬ ∃ v, vals[want.length]? = some v ∧ okV v)))] fr' ∧ H' = ⟨pb, true, .row (prV p) 50 (0, 0)⟩ :: Hw) (fun J13 => ?_) ?_
  ·refine GC.reg ?_
   refine G.m1 ?_
   refine G.m1 ?_
   refine G.v (V.lenL Try.underlying26 rfl) rfl ?_
   refine G.v (V.ge rfl rfl) rfl ?_
   refine G.m1 ?_
   refine G.bc 58 rfl (fun h58 => ?_) (fun h58 => ?_)
   ·refine G.s1 ?_
    refine G.s1 ?_
    refine G.s1 ?_
    refine G.s1 ?_
    refine G.s1 ?_
    refine G.m3 ?_
    refine G.m1 ?_
    refine G.s1 ?_
    refine G.s1 ?_
    refine G.s1 ?_
    refine G.s1 ?_
    refine G.s1 ?_
    refine G.s1 ?_
    refine G.m3 ?_
    refine G.m1 ?_
    refine G.s1 ?_
    refine G.s1 ?_
    refine G.s1 ?_
    refine G.s1 ?_
    refine G.s1 ?_
    refine G.m3 ?_
    refine G.nil ?_
    refine J13 _ _ ⟨.cons rfl (.cons rfl (.cons rfl (.cons rfl (.cons rfl (.cons rfl (.cons rfl (.cons rfl (.cons rfl (.cons rfl (.cons (rfl.trans (congrArg (fun b => some (Value.bool b)) ?_)) .nil)))))))))), rfl⟩
    exact dec_t fun ⟨v, hv, _⟩ => by have := of_decide_eq_true h58; have := (List.getElem?_eq_some_iff.1 hv).1; omega
   ·have hnv : want.length < vals.length := by have := of_decide_eq_false h58; omega
    obtain ⟨v, hv⟩ : ∃ v, vals[want.length]? = some v := ⟨_, List.getElem?_eq_getElem hnv⟩
    obtain ⟨vb, vo, e1, hv1⟩ := hvc _ v hv
    cases e1
    refine G.m5 ?_
    refine G.m5 ?_
    refine G.vg rfl rfl (V.ia (i := want.length) Try.underlying26 Try.sizeOf9 rfl rfl hnv) rfl ?_
    refine G.vg rfl rfl (V.ldC (v := S v) Try.isAgg9 rfl (by rw [Nat.mul_one]; exact hv1) id) rfl ?_
    refine G.vg rfl rfl (V.eqS rfl rfl) rfl ?_
    refine G.m4 ?_
    refine G.m1 ?_
    refine G.bc 65 rfl (fun h65 => ?_) (fun h65 => ?_)
    ·refine G.s1 ?_
     refine G.s1 ?_
     refine G.s1 ?_
     refine G.s1 ?_
     refine G.s1 ?_
     refine G.s1 ?_
     refine G.m3 ?_
     refine G.m1 ?_
     refine G.s1 ?_
     refine G.s1 ?_
     refine G.s1 ?_
     refine G.s1 ?_
     refine G.s1 ?_
     refine G.m3 ?_
     refine G.nil ?_
     refine J13 _ _ ⟨.cons rfl (.cons rfl (.cons rfl (.cons rfl (.cons rfl (.cons rfl (.cons rfl (.cons rfl (.cons rfl (.cons rfl (.cons (rfl.trans (congrArg (fun b => some (Value.bool b)) ?_)) .nil)))))))))), rfl⟩
     refine dec_t fun h => ?_
     obtain ⟨v', hv', hok⟩ := h
     rw [hv] at hv'
     cases hv'
     exact hok.1 (of_decide_eq_true h65)
    ·refine G.m5 ?_
     refine G.m5 ?_
     refine G.vg rfl rfl (V.ia (i := want.length) Try.underlying26 Try.sizeOf9 rfl rfl hnv) rfl ?_
     refine G.vg rfl rfl (V.ldC (v := S v) Try.isAgg9 rfl (by rw [Nat.mul_one]; exact hv1) id) rfl ?_
     refine G.vg rfl rfl (V.lenS Try.underlying9 rfl) rfl ?_
     refine G.vg rfl rfl (V.gt rfl rfl) rfl ?_
     refine G.m4 ?_
     refine G.m1 ?_
     refine G.bc 73 rfl (fun h73 => ?_) (fun h73 => ?_)
     ·refine G.s1 ?_
      refine G.s1 ?_
      refine G.s1 ?_
      refine G.s1 ?_
      refine G.s1 ?_
      refine G.m3 ?_
      refine G.nil ?_
      refine J13 _ _ ⟨.cons rfl (.cons rfl (.cons rfl (.cons rfl (.cons rfl (.cons rfl (.cons rfl (.cons rfl (.cons rfl (.cons rfl (.cons (rfl.trans (congrArg (fun b => some (Value.bool b)) ?_)) .nil)))))))))), rfl⟩
      refine dec_t fun h => ?_
      obtain ⟨v', hv', hok⟩ := h
      rw [hv] at hv'
      cases hv'
      have := of_decide_eq_true h73
      have := hok.2.1
      omega
     ·refine G.m5 ?_
      refine G.m5 ?_
      refine G.vg rfl rfl (V.ia (i := want.length) Try.underlying26 Try.sizeOf9 rfl rfl hnv) rfl ?_
      refine G.vg rfl rfl (V.ldC (v := S v) Try.isAgg9 rfl (by rw [Nat.mul_one]; exact hv1) id) rfl ?_
      refine G.gd rfl rfl ?_
      refine G.callP (v := .bool (dec ((47 : UInt8) ∈ v))) Try.call29 rfl rfl (fun w1 hw1 => f29_any w1 v) ?_
      refine G.m4 ?_
      refine G.nil ?_
      refine J13 _ _ ⟨.cons rfl (.cons rfl (.cons rfl (.cons rfl (.cons rfl (.cons rfl (.cons rfl (.cons rfl (.cons rfl (.cons rfl (.cons (rfl.trans (congrArg (fun b => some (Value.bool b)) ?_)) .nil)))))))))), rfl⟩
      refine dec_c ⟨fun hm h => ?_, fun h => Classical.byContradiction fun hm => h ⟨v, hv, of_decide_eq_false h65, by have := of_decide_eq_false h73; omega, hm⟩⟩
      obtain ⟨v', hv', hok⟩ := h
      rw [hv] at hv'
      cases hv'
      exact hok.2.2 hm
  rintro fr' H' ⟨hs13, rfl⟩
  refine GC.weak hs13 ?_
  clear hs13
  refine GC.cond rfl (fun h79 => ?_) (fun h79 => ?_)
  ·refine GC.seq ?_
   refine GC.reg ?_
   refine G.callP (v := .bool true) Try.call14 rfl rfl (fun w1 _ => f14_any w1) ?_
   refine G.m2 ?_
   refine G.nil ?_
   exact GC.ret1 rfl rfl fun w' hw' => ⟨rfl, hw'.sub (List.nil_sublist _)⟩
  refine GC.skip ?_
  refine GC.seq ?_
  obtain ⟨v, hv, hok⟩ : ∃ v, vals[want.length]? = some v ∧ okV v := Classical.byContradiction fun h => dec_false.1 h79 h
  have hnv := (List.getElem?_eq_some_iff.1 hv).1
  obtain ⟨vb, vo, e1, hv1⟩ := hvc _ v hv
  cases e1
  have hv20 := hok.2.1
  refine GC.reg ?_
  refine G.m1 ?_
  refine G.m1 ?_
  refine G.v (V.ia (i := want.length) Try.underlying26 Try.sizeOf9 rfl rfl hnv) rfl ?_
  refine G.v (V.ldC (v := S v) Try.isAgg9 rfl (by rw [Nat.mul_one]; exact hv1) id) rfl ?_
  refine G.m2 ?_
  refine G.nil ?_
  refine GC.seq ?_
  refine GC.reg ?_
  refine G.m1 ?_
  refine G.m1 ?_
  refine G.v (V.cat rfl rfl (by omega)) rfl ?_
  refine G.m2 ?_
  refine G.nil ?_
  refine GC.seq ?_
  refine GC.seq ?_
  refine GC.reg ?_
  refine G.v (V.fa F50_0 rfl) rfl ?_
  refine G.v (V.ld (b := pb) (off := 0 + 0) (wf := true) (l := prV p) (T := 50) (fz := (0, 0)) (v := .int .u8 (p.k.toNat : Int)) Try.isAgg5 rfl (.head _) rfl) rfl ?_
  refine G.v (V.eqI rfl rfl) rfl ?_
  refine G.nil ?_
  refine GC.join (fun fr' H' => Sub [(12, Pt pb 0), (13, S (if p.k.toNat = 2 then 47 :: v else v)), (0, .slice (some ⟨ab, ao, none⟩) l.length cp), (2, .slice (some ⟨vb, vo, none⟩) vals.length vcp), (7, I (k : Nat)), (8, S (path ++ v)), (9, I (want.length : Nat)), (10, kv), (41, .slice (some ⟨b, o, none⟩) a.length pcp), (42, I (a.length : Nat)), (43, I (i : Nat))] fr' ∧ H' = ⟨pb, true, .row (prV p) 50 (0, 0)⟩ :: Hw) (fun J90 => ?_) ?_
  ·refine GC.cond rfl (fun h90 => ?_) (fun h90 => ?_)
   ·refine GC.reg ?_
    refine G.m1 ?_
    refine G.v (V.cat rfl rfl (by simp; omega)) rfl ?_
    refine G.m2 ?_
    refine G.nil ?_
    have h2 : p.k.toNat = 2 := by have := of_decide_eq_true h90; omega
    refine J90 _ _ ⟨?_, rfl⟩
    rw [if_pos h2]
    exact .of rfl
   refine GC.skip ?_
   have h2 : ¬ p.k.toNat = 2 := by have := of_decide_eq_false h90; omega
   refine J90 _ _ ⟨?_, rfl⟩
   rw [if_neg h2]
   exact .of rfl
  rintro fr' H' ⟨hs90, rfl⟩
  refine GC.weak hs90 ?_
  clear hs90
  obtain ⟨u, hu⟩ : ∃ u, u = (if p.k.toNat = 2 then 47 :: v else v) := ⟨_, rfl⟩
  rw [← hu]
  refine GC.seq ?_
  refine GC.reg ?_
  refine G.m1 ?_
  refine G.v (V.fa F50_1 rfl) rfl ?_
  refine G.v (V.ld (b := pb) (off := 0 + 1) (wf := true) (l := prV p) (T := 50) (fz := (0, 0)) (v := S p.nm) Try.isAgg9 rfl (.head _) rfl) rfl ?_
  refine G.m1 ?_
  refine G.v (V.bd (vs := [(0, S p.nm), (1, S u)]) rfl (fun w1 => bd_ip _ _ w1)) rfl ?_
  refine G.bs (BS.two (a := S p.nm) (b := S u) Try.underlying28 Try.sizeOf32 Try.zeroValue32) rfl rfl (fun sb hsb => ?_)
  refine G.app (i := Try.t32) (sz := 2) (by_ := 32) Try.underlying28 rfl rfl rfl rfl rfl rfl rfl hown (H' := [⟨sb, true, .row [S p.nm, S u] 32 (0, 0)⟩, ⟨pb, true, .row (prV p) 50 (0, 0)⟩]) (List.perm_append_comm (l₁ := ([⟨sb, true, .row [S p.nm, S u] 32 (0, 0)⟩, ⟨pb, true, .row (prV p) 50 (0, 0)⟩] : SH))) (src_row (vs := [S p.nm, S u]) (r := []) (.head _)) rfl (by simp [Value.oneCell']) (by omega) (by omega) (by omega) rfl (fun kv2 Hs2 hown2 => ?_)
  refine G.m2 ?_
  refine G.nil ?_
  refine GC.turn (H' := Hs2) (fun w1 h1 => h1.sub (List.sublist_append_right _ _)) ?_
  have hown3 : Own 32 2 kv2 (want ++ [(p.nm, u)]).length (flatP (want ++ [(p.nm, u)])) Hs2 := by
   rw [flatP_snoc1, List.length_append]
   exact hown2
  refine GC.reg ?_
  refine G.m1 ?_
  refine G.v (V.addI (r := ((want.length + 1 : Nat) : Int)) rfl rfl rfl (by omega) (by omega)) rfl ?_
  refine G.m2 ?_
  refine G.nil ?_
  refine GC.inBlock ?_
  refine GC.reg ?_
  refine G.v (V.addI (r := ((i + 1 : Nat) : Int)) rfl rfl rfl (by omega) (by omega)) rfl ?_
  refine G.m1 ?_
  refine G.nil ?_
  refine ih (N - 1) _ _ (by omega) ⟨i + 1, path ++ v, want ++ [(p.nm, u)], kv2, Hs2, by omega, ?_, by rw [List.length_append]; omega, by rw [List.length_append, List.length_singleton]; omega, hown3, ?_, rfl⟩
  ·rw [List.length_append, List.length_singleton, hu]
   exact fill_val hp hk0 hv hok hfl
  ·rw [List.length_append, List.length_singleton]
   exact .of rfl
 refine GC.exit rfl ?_
 refine GC.seq ?_
 refine GC.seq ?_
 have hil : i = a.length := by omega
 have hfill : fillF a vals = some (path, want) := by
  rw [hfl, hil, List.drop_length]
  simp [fillF]
 have hmw := fill_match hca hfill
 have hwl2 : want.length ≤ 12 := by omega
 have hpl2 : path.length ≤ 1440 := by omega
 refine GC.join (fun fr' H' => Sub [(0, .slice (some ⟨ab, ao, none⟩) l.length cp), (7, I (k : Nat)), (8, S path), (10, kv), (110, .bool (dec (¬ FitsN [] path ∨ OpenN l path)))] fr' ∧ H' = Hw) (fun J22 => ?_) ?_
 ·refine GC.reg ?_
  refine G.m1 ?_
  refine G.callP (v := .bool (dec (FitsN [] path))) Try.call19 rfl rfl (fun w1 hw1 => f19_any w1 [] _ (tbl_nil w1) fits4_nil path (by omega)) ?_
  refine G.v (V.not rfl) rfl ?_
  refine G.m1 ?_
  refine G.bc 106 rfl (fun h106 => ?_) (fun h106 => ?_)
  ·refine G.s1 ?_
   refine G.s1 ?_
   refine G.s1 ?_
   refine G.m3 ?_
   refine G.nil ?_
   refine J22 _ _ ⟨.cons rfl (.cons rfl (.cons rfl (.cons rfl (.cons (rfl.trans (congrArg (fun b => some (Value.bool b)) ?_)) .nil)))), rfl⟩
   exact dec_t (.inl (dec_false.1 (by simpa using h106)))
  ·refine G.m5 ?_
   refine G.m5 ?_
   have hft : FitsN l path := fits_both hf1 (dec_true.1 (by simpa using h106))
   refine G.gd rfl rfl ?_
   refine G.callP (v := .bool (dec (OpenN l path))) Try.call30 rfl rfl (fun w1 hw1 => f30_any w1 l _ (hsv0.old hw1) hft.2.1.clean (by have := hft.1; omega) path (by have := hft.2.2.2.2; omega)) ?_
   refine G.m4 ?_
   refine G.nil ?_
   refine J22 _ _ ⟨.cons rfl (.cons rfl (.cons rfl (.cons rfl (.cons (rfl.trans (congrArg (fun b => some (Value.bool b)) ?_)) .nil)))), rfl⟩
   exact dec_c ⟨.inr, fun h => h.resolve_left (fun h => h (dec_true.1 (by simpa using h106)))⟩
 rintro fr' Hw ⟨hs22, rfl⟩
 refine GC.weak hs22 ?_
 clear hs22
 refine GC.cond rfl (fun h110 => ?_) (fun h110 => ?_)
 ·refine GC.seq ?_
  refine GC.reg ?_
  refine G.callP (v := .bool true) Try.call14 rfl rfl (fun w1 _ => f14_any w1) ?_
  refine G.m2 ?_
  refine G.nil ?_
  exact GC.ret1 rfl rfl fun w' hw' => ⟨rfl, hw'.sub (List.nil_sublist _)⟩
 refine GC.skip ?_
 refine GC.seq ?_
 obtain ⟨hft, hno⟩ : FitsN l path ∧ ¬ OpenN l path := by
  have := dec_false.1 h110
  exact ⟨fits_both hf1 (Classical.byContradiction fun h => this (.inl h)), fun h => this (.inr h)⟩
 have hcl := hft.2.1.clean
 have hbd : ∀ r ∈ l, (rtT r).length ≤ 1000000 ∧ r.length ≤ 1000000 := fun r hr => ⟨Nat.le_trans (hcl r hr).txt.1 (by omega), (clean_len (hcl r hr)).2⟩
 have h30 := hft.1
 refine GC.reg ?_
 refine G.m1 ?_
 refine G.callW (fun v H2 => ∃ Hk, Own 9 1 v l.length ((l.map rtT).map S) Hk ∧ H2 = Hk ++ Hw) Try.call23 rfl rfl (fun w1 hw1 => ?_) ?_
 ·refine (f23_any w1 l _ (hsv0.old hw1) hbd (by omega)).mono fun e w' ⟨kv, Hs, h1, h2, h3⟩ => ?_
  exact ⟨_, _, h1, hw1.after0 h3 h2.w, Hs, h2, rfl⟩
 rintro tv H2 ⟨Hs, hot, rfl⟩
 refine G.m1 ?_
 refine G.bs (BS.one Try.underlying26 Try.sizeOf9 Try.zeroValue9 (v := S path) rfl) rfl rfl (fun qb hqb => ?_)
 refine G.callW (fun v H2 => ∃ r fb cap spare pa Ha, v = .tuple #[.slice (some ⟨fb, 0, none⟩) 1 cap, .bool true] ∧ Told l false path r ∧ Own 32 2 pa r.ps.length (flatP r.ps) Ha ∧ H2 = (⟨fb, true, .row (fndV r pa ++ spare) 30 (0, 0)⟩ :: Ha) ++ (⟨qb, true, .row [S path] 9 (0, 0)⟩ :: (Hs ++ Hw))) Try.call15 rfl rfl (fun w1 hw1 => ?_) ?_
 ·refine (f15_fit1 w1 l _ path hft (hot.txts (by simp) hw1 (fun e he => List.mem_cons_of_mem _ (List.mem_append_left _ he))) _ (Txts.row (l := [path]) (z := []) (e := 9) (wf := true) (fz := (0, 0)) hw1 (.head _)) false).mono fun e w' ⟨r, fb, cap, spare, pa, Ha, h1, h2, h3, h4⟩ => ?_
  exact ⟨_, _, h2, hw1.after0 h4 (fun e0 he0 => by
   rcases List.mem_cons.1 he0 with rfl | he0
   ·rfl
   ·exact h3.w e0 he0), r, fb, cap, spare, pa, Ha, rfl, h1, h3, rfl⟩
 rintro v H2 ⟨r, fb, cap, spare, pa, Ha, rfl, ht, ho, rfl⟩
 refine G.m1 ?_
 refine G.v (V.ex rfl rfl) rfl ?_
 refine G.v (V.ex rfl rfl) rfl ?_
 refine G.m2 ?_
 refine G.m2 ?_
 refine G.nil ?_
 have hbest := ht.2.2.2 hno
 obtain ⟨m, hrm, hpw⟩ := found_of hft.2.1 hbest ha hmw
 have hrg : r.h.getD 0 = m + 1 := by rw [hrm]; rfl
 refine GC.seq ?_
 refine GC.seq ?_
 refine GC.reg ?_
 refine G.callP (v := .bool true) Try.call14 rfl rfl (fun w1 _ => f14_any w1) ?_
 refine G.v (V.not rfl) rfl ?_
 refine G.m1 ?_
 refine G.bc 122 rfl (fun h122 => ?_) (fun h122 => ?_)
 ·exact absurd h122 (by decide)
 ·refine G.m5 ?_
  refine G.vg rfl rfl (V.not rfl) rfl ?_
  refine G.m4 ?_
  refine G.m1 ?_
  refine G.bc 126 rfl (fun h126 => ?_) (fun h126 => ?_)
  ·exact absurd h126 (by decide)
  ·refine G.m5 ?_
   refine G.vg rfl rfl (V.lenL Try.underlying23 rfl) rfl ?_
   refine G.vg rfl rfl (V.neI rfl rfl) rfl ?_
   refine G.m4 ?_
   refine G.m1 ?_
   refine G.bc 131 rfl (fun h131 => ?_) (fun h131 => ?_)
   ·exact absurd h131 (by simp)
   ·refine G.m5 ?_
    refine G.vg rfl rfl (V.ia (i := 0) Try.underlying23 Try.sizeOf30 rfl rfl (by decide)) rfl ?_
    refine G.vg rfl rfl (V.fa F30_0 rfl) rfl ?_
    refine G.vg rfl rfl (V.ld (b := fb) (off := 0 + 0 * 4 + 0) (wf := true) (l := fndV r pa ++ spare) (T := 30) (fz := (0, 0)) (v := I (r.h.getD 0 : Nat)) Try.isAgg3 rfl (.head _) rfl) rfl ?_
    refine G.vg rfl rfl (V.eqI rfl rfl) rfl ?_
    refine G.m4 ?_
    refine G.nil ?_
    refine GC.cond rfl (fun h137 => absurd (of_decide_eq_true h137) (by rw [hrg]; omega)) (fun h137 => ?_)
    refine GC.skip ?_
    refine GC.seq ?_
    refine GC.reg ?_
    refine G.m1 ?_
    refine G.v (V.ia (i := 0) Try.underlying23 Try.sizeOf30 rfl rfl (by decide)) rfl ?_
    refine G.v (V.fa F30_0 rfl) rfl ?_
    refine G.v (V.ld (b := fb) (off := 0 + 0 * 4 + 0) (wf := true) (l := fndV r pa ++ spare) (T := 30) (fz := (0, 0)) (v := I (r.h.getD 0 : Nat)) Try.isAgg3 rfl (.head _) rfl) rfl ?_
    refine G.m1 ?_
    refine G.v (V.addI (r := ((k + 1 : Nat) : Int)) rfl rfl rfl (by omega) (by omega)) rfl ?_
    refine G.v (V.neI rfl rfl) rfl ?_
    refine G.m1 ?_
    refine G.bc 145 rfl (fun h145 => ?_) (fun h145 => ?_)
    ·refine G.s1 ?_
     refine G.s1 ?_
     refine G.s1 ?_
     refine G.s1 ?_
     refine G.s1 ?_
     refine G.s1 ?_
     refine G.m3 ?_
     refine G.m2 ?_
     refine G.nil ?_
     exact GC.ret1 rfl rfl fun w' hw' => ⟨rfl, hw'.sub (List.nil_sublist _)⟩
    ·refine G.m5 ?_
     refine G.vg rfl rfl (V.ia (i := 0) Try.underlying23 Try.sizeOf30 rfl rfl (by decide)) rfl ?_
     refine G.vg rfl rfl (V.fa F30_1 rfl) rfl ?_
     refine G.vg rfl rfl (V.ld (b := fb) (off := 0 + 0 * 4 + 1) (wf := true) (l := fndV r pa ++ spare) (T := 30) (fz := (0, 0)) (v := pa) Try.isAgg28 rfl (.head _) rfl) rfl ?_
     refine G.m5 ?_
     have hmk : m = k := by
      have : ¬ ((r.h.getD 0 : Nat) : Int) ≠ ((k + 1 : Nat) : Int) := by simpa using h145
      omega
     refine G.gd rfl rfl ?_
     refine G.callP (v := .bool (decide (r.ps = want))) Try.call27 rfl rfl (fun w1 hw1 => f27_any w1 r.ps want pa kv (Own.prms ho hw1 (fun x hx => List.mem_append_left _ (.tail _ hx))) (Own.prms hown hw1 (fun x hx => List.mem_append_right _ (.tail _ (List.mem_append_right _ hx)))) (by have := ht.2.1; omega) (by omega)) ?_
     rw [decide_eq_true (hpw hmk)]
     refine G.m4 ?_
     refine G.m2 ?_
     refine G.nil ?_
     exact GC.ret1 rfl rfl fun w' hw' => ⟨rfl, hw'.sub (List.nil_sublist _)⟩
end Go.Proofs

/- A law's statement out of its walk: FnGinFilled. -/
set_option maxRecDepth 100000
namespace Go.Proofs.Ytnopecnbpflodaa.ginfilled
open Go Bw Go.ChangeShapes Go.WideShapes Go.ChangeAt Go.RowKit
theorem contract (H : Type) (enc : TypeId × Value → H) (W : World) (base : Nat) (args : Array Value) (ds gs : List (DataW H)) (before : List MemPlace)
  (hval : ∀ (j : Nat) t v, Try.f7.params[j]? = some t → args[j]? = some v → Value.okWide Try.prog W .any base t v)
  (hW : DataW.Whole enc Try.prog Try.f7.params.toList Rows.fnGinFilledSpec.vars false W args.toList ds gs before) :
  Calls Try.prog 7 args W fun e W' => ∃ v, e = .returned v ∧ Rows.fnGinFilledSpec.post enc Try.prog Try.f7 false true false false W args v W' := by
 have hW' := hW
 obtain ⟨p, q, hA0, hV, rfl, hfz, hnd⟩ := hW
 have hA : DataW.TrodAll enc Try.prog W 0 (fun _ => true) true [34, 5, 26] args.toList ds p := hA0
 obtain ⟨v0, vs0, d0, ds0, p0, q0, hargs, rfl, rfl, h0, r0⟩ := trodAll_cons hA
 obtain ⟨v1, vs_1, d1, ds1, p1, q1, rfl, rfl, rfl, h1, r1⟩ := trodAll_cons r0
 obtain ⟨v2, vs_2, d2, ds2, p2, q2, rfl, rfl, rfl, h2, r2⟩ := trodAll_cons r1
 obtain ⟨rfl, rfl, rfl⟩ := trodAll_nil r2
 obtain rfl : args = #[v0, v1, v2] := by cases args; simp_all
 obtain ⟨rs0, hrs0⟩ := open_parts2 (hval 0 34 v0 rfl rfl) h0
 obtain ⟨c1, rfl⟩ := open_u8 (hval 1 5 v1 rfl rfl) h1
 obtain ⟨ad2, cp2, vs2, rfl, hcp2, htx2⟩ := open_txt Try.underlying26 Try.underlying9 try_c9 (hval 2 26 v2 rfl rfl) h2
 refine (f7_any W rs0 v0 hrs0 c1 vs2 _ ⟨ad2, cp2, rfl, htx2⟩).mono fun e W' ⟨he, hf⟩ => ⟨_, he, ?_⟩
 refine post_law hW' rfl rfl ?_ (by kernel_rfl) (below_of hf)
 obtain ⟨rfl, rfl⟩ := trodVars_none hV
 rfl
theorem reads (os : Os) {H : Type} (enc : TypeId × Value → H) : ∃ places, DataW.whole enc Try.prog ((plainWorld os).forCall (fun _ _ => 0) ⟨#[], #[.slice none 0 0, .int .u8 0, .slice none 0 0], []⟩).memory Try.f7.params.toList Rows.fnGinFilledSpec.vars false (#[.slice none 0 0, .int .u8 0, .slice none 0 0] : Array Value).toList 8 = some ([.nil, .lit (.int .u8 0), .nil], [], places) :=
 ⟨[], by kernel_rfl⟩
theorem lifted (os : Os) (started : os.Started) (H : Type) (enc : TypeId × Value → H) (F : Stop.Interp) :
  ReturnsInHanded {} Try.checked os 7 .any ((OpenSpec.ofChange Rows.fnGinFilledSpec).preRow enc Try.prog Try.f7 Rows.fnGinFilledRow.domain false Rows.fnGinFilledRow.laid) (((OpenSpec.ofChange Rows.fnGinFilledSpec).at F).post enc Try.prog Try.f7 false true false false) := by
 obtain ⟨places, hx⟩ := reads os enc
 refine returnsInHanded_of_row (C := Try.checked) (s := OpenSpec.ofChange Rows.fnGinFilledSpec) try_own started (by kernel_rfl) Try.func7
  (witness_row_at (enc := enc) (C := Try.checked) false (plainWorld os) #[.slice none 0 0, .int .u8 0, .slice none 0 0] rfl (by kernel_rfl) (by kernel_rfl) (by kernel_rfl)
   (OpenSpec.preRow_of_cond 8 hx (by kernel_rfl) (fun k hk => by cases hk) (by kernel_rfl) (laid_none _))) ?_
 intro W base args ds gs before hval hW _ _ _ hL _ _
 exact contract H enc W base args ds gs before hval hW
theorem said : Rows.FnGinFilledSaid :=
 OpenClaim.holds_of_cond 7 Try.f7 rfl rfl rfl rfl rfl rfl rfl ⟨rfl, rfl, rfl, rfl, rfl⟩ rfl rfl rfl rfl rfl (by kernel_rfl) Try.func7 (by kernel_rfl)
  (of_decide_eq_true (by kernel_rfl)) (by unfold Func.isWrapper; first | (rw [if_pos (by decide +kernel)]; kernel_rfl) | (rw [if_neg (by decide +kernel)]; exact ⟨rfl, rfl⟩))
  (fun os started H enc _ F => by rw [OpenClaim.pre_eq_preRow]; exact lifted os started H enc F)
end Go.Proofs.Ytnopecnbpflodaa.ginfilled
