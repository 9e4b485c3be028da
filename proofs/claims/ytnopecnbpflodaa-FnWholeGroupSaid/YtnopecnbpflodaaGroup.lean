/- The law FnWholeGroup holds for every input: a table behind one more text in front of all its routes finds behind this text what it found. -/
import Derived.Test.YtnopecnbpflodaaSa
import Derived.Test.YtnopecnbpflodaaKa
import Derived.Test.YtnopecnbpflodaaPq
import Derived.Test.YtnopecnbpflodaaRowb
/- FnGinFind. Printed by wip/mk_gs2x.py. -/
set_option maxRecDepth 20000
namespace Go.Proofs
open Go Bw
open Gt
theorem Prms.none (w : World) : Prms w (.slice none 0 0) [] := ⟨_, _, rfl, fun j x h => by simp at h⟩
theorem cells_of {w0 w : World} {D : Nat → Prop} {H : SH} (hw : HF w0 D H w) {b : Nat} {wf : Bool} {l : List Value} {T : TypeId} {fz : Nat × Nat} (off : Nat) (cs : List Value) (hm : (⟨b, wf, .row l T fz⟩ : Ent) ∈ H) (hc : ∀ (j : Nat) v, cs[j]? = some v → l[off + j]? = some v) : ∀ (j : Nat) v, cs[j]? = some v → w.cell? ⟨b, off + j, none⟩ = some v := fun j v hj =>
 cell_row hw hm (by rw [nth_eq]; exact hc j v hj)
theorem fnd_at (r : Res) (pa : Value) (sp : List Value) (j : Nat) (v : Value) (h : (fndV r pa)[j]? = some v) : (fndV r pa ++ sp)[0 + 0 * 4 + j]? = some v := by
 have hl := (List.getElem?_eq_some_iff.1 h).1
 have e : 0 + 0 * 4 + j = j := by omega
 rw [e, List.getElem?_append_left hl]; exact h
end Go.Proofs

/- FnGinMany. Printed by wip/mk_gs3x.py. -/
set_option maxRecDepth 20000
namespace Go.Proofs
open Go Bw
open Gt
theorem Fnds.at {rr : List Res} {cells : List Value} {Hq : SH} (h : Fnds rr cells Hq) : cells.length = rr.length * 4 ∧ ∀ (j : Nat) r, rr[j]? = some r → ∃ pa Ha, Own 32 2 pa r.ps.length (flatP r.ps) Ha ∧ (∀ x ∈ Ha, x ∈ Hq) ∧ ∀ (k : Nat) v, (fndV r pa)[k]? = some v → cells[j * 4 + k]? = some v := by
 induction h with
 | nil => exact ⟨rfl, fun j r hj => by simp at hj⟩
 | @snoc rs cells H Hq r pv h ho ih =>
  obtain ⟨h1, h2⟩ := ih
  have hf : (fndV r pv).length = 4 := rfl
  refine ⟨by rw [List.length_append, List.length_append, h1, hf, List.length_singleton]; omega, fun j x hj => ?_⟩
  by_cases hl : j < rs.length
  ·rw [List.getElem?_append_left hl] at hj
   obtain ⟨pa, Ha, h3, h4, h5⟩ := h2 j x hj
   refine ⟨pa, Ha, h3, fun y hy => List.mem_append_left _ (h4 y hy), fun k v hk => ?_⟩
   have h6 := h5 k v hk
   rw [List.getElem?_append_left (List.getElem?_eq_some_iff.1 h6).1]; exact h6
  ·rw [List.getElem?_append_right (by omega)] at hj
   have hj0 : j - rs.length = 0 := by
    have := (List.getElem?_eq_some_iff.1 hj).1
    rw [List.length_singleton] at this; omega
   rw [hj0] at hj
   cases hj
   refine ⟨pv, Hq, ho, fun y hy => List.mem_append_right _ hy, fun k v hk => ?_⟩
   have e : j * 4 + k = cells.length + k := by rw [h1]; omega
   rw [e, List.getElem?_append_right (by omega), Nat.add_sub_cancel_left]; exact hk
end Go.Proofs

/- A table behind one more text. No program in sight. -/
namespace Gt
open Gs Tr
/-- a route behind a text -/
def grpR (pre : List UInt8) : List Prt → List Prt
  | [] => []
  | p :: l => ⟨p.k, pre ++ p.nm⟩ :: l
theorem grp_len (pre : List UInt8) (a : List Prt) : (grpR pre a).length = a.length := by cases a <;> rfl
theorem grp_tok (pre : List UInt8) {a : List Prt} (h : Clean a) : tokT (grpR pre a) = bs pre ++ tokT a := by
  cases a with
  | nil => exact absurd rfl h.1
  | cons p l =>
    have hk : p.k.toNat = 0 := (h.2.2.1 p rfl).1
    have e1 : tokT (p :: l) = tokP p ++ tokT l := by simp [tokT]
    have e2 : tokT (grpR pre (p :: l)) = tokP ⟨p.k, pre ++ p.nm⟩ ++ tokT l := by simp [tokT, grpR]
    rw [e1, e2, tokP, tokP, if_pos hk, if_pos hk, ← List.append_assoc, ← bs_app]
theorem BT_pre (t : List UInt8) (x y : List Tok) : BT (bs t ++ x) (bs t ++ y) ↔ BT x y := by
  induction t with
  | nil => exact Iff.rfl
  | cons c t ih =>
    show (Tok.b c = Tok.b c ∧ BT (bs t ++ x) (bs t ++ y)) ∨ (Tok.b c ≠ Tok.b c ∧ _) ↔ _
    constructor
    · rintro (⟨_, h⟩ | ⟨h, _⟩)
      · exact ih.1 h
      · exact absurd rfl h
    · intro h; exact .inl ⟨rfl, ih.2 h⟩
theorem grp_match (pre : List UInt8) {a : List Prt} (h : Clean a) (h2 : Clean (grpR pre a)) (path : List UInt8) : matchN (grpR pre a) (pre ++ path) = matchN a path := by
  rw [h.match, h2.match, grp_tok pre h, MT_bs, if_pos (by simp), List.drop_left]
theorem grp_better (pre : List UInt8) {a b : List Prt} (ha : Clean a) (ha2 : Clean (grpR pre a)) (hb : Clean b) (hb2 : Clean (grpR pre b)) : BetterN (tks (grpR pre a)) (tks (grpR pre b)) ↔ BetterN (tks a) (tks b) := by
  rw [ha.better hb, ha2.better hb2, grp_tok pre ha, grp_tok pre hb, BT_pre]
theorem grp_best (pre : List UInt8) {l : List (List Prt)} (path : List UInt8) (h : ∀ a ∈ l, Clean a) (h2 : ∀ a ∈ l, Clean (grpR pre a)) : ∀ n, bestN (l.map (grpR pre)) (pre ++ path) n = bestN l path n
  | 0 => rfl
  | n + 1 => by
    have ih := grp_best pre path h h2 n
    rw [bestN, bestN, List.getElem?_map]
    cases ha : l[n]? with
    | none => exact ih
    | some a =>
      have hal := List.mem_of_getElem? ha
      show (match matchN (grpR pre a) (pre ++ path), bestN (l.map (grpR pre)) (pre ++ path) n with
        | none, b => b
        | some _, none => some n
        | some _, some m => match (l.map (grpR pre))[m]? with
          | none => some m
          | some b => if dec (BetterN (tks (grpR pre a)) (tks b)) then some n else some m) = (match matchN a path, bestN l path n with
        | none, b => b
        | some _, none => some n
        | some _, some m => match l[m]? with
          | none => some m
          | some b => if dec (BetterN (tks a) (tks b)) then some n else some m)
      rw [grp_match pre (h a hal) (h2 a hal), ih]
      cases matchN a path with
      | none => rfl
      | some v =>
        cases bestN l path n with
        | none => rfl
        | some m =>
          show (match (l.map (grpR pre))[m]? with
            | none => some m
            | some b => if dec (BetterN (tks (grpR pre a)) (tks b)) then some n else some m) = (match l[m]? with
            | none => some m
            | some b => if dec (BetterN (tks a) (tks b)) then some n else some m)
          rw [List.getElem?_map]
          cases hb : l[m]? with
          | none => rfl
          | some b =>
            have hbl := List.mem_of_getElem? hb
            show (if dec (BetterN (tks (grpR pre a)) (tks (grpR pre b))) then some n else some m) = (if dec (BetterN (tks a) (tks b)) then some n else some m)
            rw [dec_c (grp_better pre (h a hal) (h2 a hal) (h b hbl) (h2 b hbl))]
/-- what is found behind the text is what was found -/
theorem grp_found {pre : List UInt8} {l : List (List Prt)} {path : List UInt8} {u : List UInt8 → List UInt8} {r r2 : Res} (h : ∀ a ∈ l, Clean a) (h2 : ∀ a ∈ l, Clean (grpR pre a)) (f : FoundN l path u r) (f2 : FoundN (l.map (grpR pre)) (pre ++ path) u r2) : r.h = r2.h ∧ (r.h.getD 0 ≠ 0 → r.ps = r2.ps) := by
  have hb := grp_best pre path h h2 l.length
  rcases f with ⟨g1, g2, _⟩ | ⟨m, a, v, g1, g2, g3, g4, _, g6⟩
  · refine ⟨?_, fun hh => absurd (by rw [g2]; rfl) hh⟩
    rcases f2 with ⟨q1, q2, _⟩ | ⟨m2, b, v2, q1, _⟩
    · rw [g2, q2]
    · rw [List.length_map, hb, g1] at q1; cases q1
  · rcases f2 with ⟨q1, _⟩ | ⟨m2, b, v2, q1, q2, q3, q4, _, q6⟩
    · rw [List.length_map, hb, g1] at q1; cases q1
    · rw [List.length_map, hb, g1] at q1
      cases q1
      rw [List.getElem?_map, g2] at q2
      cases q2
      have hal := List.mem_of_getElem? g2
      rw [grp_match pre (h a hal) (h2 a hal), g3] at q3
      cases q3
      exact ⟨by rw [g4, q4], fun _ => by rw [g6, q6]⟩
end Gt

/- FnWholeGroup. Printed by wip/mk_gv3.py. -/
set_option maxRecDepth 20000
namespace Go.Proofs
open Go Bw
open Gt
theorem own_tbl2 {w0 w : World} {D : Nat → Prop} {H Hs : SH} {kv : Value} {xs : List Value} {l : List (List Prt)} (hw : HF w0 D H w) (ho : Own 35 1 kv l.length xs Hs) (hsub : ∀ x ∈ Hs, x ∈ H) (hx : ∀ (j : Nat) r, l[j]? = some r → ∃ v, xs[j]? = some v ∧ Prts w v r) : Tbl w kv l := by
 generalize hn : l.length = n at ho
 cases ho with
 | nil => exact ⟨none, 0, by rw [hn], by omega, fun j r hj => by have := (List.getElem?_eq_some_iff.1 hj).1; omega⟩
 | @row b n cap xs2 spare h1 h2 h3 =>
  refine ⟨some ⟨b, 0, none⟩, cap, by rw [hn], by omega, fun j r hj => ?_⟩
  obtain ⟨v, g1, g2⟩ := hx j r hj
  refine ⟨b, 0, v, rfl, ?_, g2⟩
  exact cell_row hw (hsub _ (.head _)) (by rw [nth_eq, Nat.zero_add, List.getElem?_append_left (List.getElem?_eq_some_iff.1 g1).1]; exact g1)
/-- parts as cells -/
def prF : List Prt → List Value
 | [] => []
 | p :: l => prV p ++ prF l
theorem prF_len : ∀ r : List Prt, (prF r).length = r.length * 2
 | [] => rfl
 | p :: l => by
  rw [prF, List.length_append, prF_len l, List.length_cons]
  show 2 + _ = _
  omega
theorem prF_get : ∀ {r : List Prt} {j : Nat} {p : Prt}, r[j]? = some p → (prF r)[j * 2]? = some (.int .u8 (p.k.toNat : Int)) ∧ (prF r)[j * 2 + 1]? = some (S p.nm)
 | [], _, _, h => by simp at h
 | q :: l, 0, p, h => by
  have e : q = p := by simpa using h
  subst e
  exact ⟨rfl, rfl⟩
 | q :: l, j + 1, p, h => by
  obtain ⟨h1, h2⟩ := prF_get (r := l) (j := j) (p := p) (by simpa using h)
  constructor
  ·rw [prF, List.getElem?_append_right (by show 2 ≤ _; omega), show (j + 1) * 2 - (prV q).length = j * 2 by show _ - 2 = _; omega]; exact h1
  ·rw [prF, List.getElem?_append_right (by show 2 ≤ _; omega), show (j + 1) * 2 + 1 - (prV q).length = j * 2 + 1 by show _ - 2 = _; omega]; exact h2
theorem prF_of : ∀ {r : List Prt} {k : Nat} {u : Value}, (prF r)[k]? = some u → ∃ j p, r[j]? = some p ∧ ((k = j * 2 ∧ u = .int .u8 (p.k.toNat : Int)) ∨ (k = j * 2 + 1 ∧ u = S p.nm))
 | [], _, _, h => by simp [prF] at h
 | q :: l, 0, u, h => by
  have e : (prF (q :: l))[0]? = some (.int .u8 (q.k.toNat : Int)) := rfl
  rw [e] at h
  cases h
  exact ⟨0, q, rfl, .inl ⟨rfl, rfl⟩⟩
 | q :: l, 1, u, h => by
  have e : (prF (q :: l))[1]? = some (S q.nm) := rfl
  rw [e] at h
  cases h
  exact ⟨0, q, rfl, .inr ⟨rfl, rfl⟩⟩
 | q :: l, k + 2, u, h => by
  have e : (prF (q :: l))[k + 2]? = (prF l)[k]? := rfl
  rw [e] at h
  obtain ⟨j, p, h1, h2⟩ := prF_of h
  exact ⟨j + 1, p, by simpa using h1, h2.imp (fun h => ⟨by omega, h.2⟩) (fun h => ⟨by omega, h.2⟩)⟩
theorem prF_one (r : List Prt) : ∀ u ∈ prF r, u.oneCell' = true := fun u hu => by
 obtain ⟨k, hk⟩ := List.mem_iff_getElem?.1 hu
 obtain ⟨_, _, _, h | h⟩ := prF_of hk <;> rw [h.2] <;> rfl
/-- a route in a row of its own -/
def PX (Hx : SH) (v : Value) (r : List Prt) : Prop := ∃ b cap spare, v = .slice (some ⟨b, 0, none⟩) r.length cap ∧ r.length ≤ cap ∧ (⟨b, true, .row (prF r ++ spare) 50 (0, 0)⟩ : Ent) ∈ Hx
theorem PX.prts {w0 w : World} {D : Nat → Prop} {H Hx : SH} {v : Value} {r : List Prt} (h : PX Hx v r) (hw : HF w0 D H w) (hs : ∀ e ∈ Hx, e ∈ H) : Prts w v r := by
 obtain ⟨b, cap, spare, rfl, hc, hm⟩ := h
 refine ⟨some ⟨b, 0, none⟩, cap, rfl, hc, fun j p hj => ⟨b, 0, rfl, ?_, ?_⟩⟩
 ·refine cell_row hw (hs _ hm) ?_
  have := (prF_get hj).1
  rw [nth_eq, Nat.zero_add, List.getElem?_append_left (List.getElem?_eq_some_iff.1 this).1]; exact this
 ·refine cell_row hw (hs _ hm) ?_
  have := (prF_get hj).2
  rw [nth_eq, Nat.zero_add, List.getElem?_append_left (List.getElem?_eq_some_iff.1 this).1]; exact this
theorem PX.mono {Hx Hy : SH} {v : Value} {r : List Prt} (h : PX Hx v r) (hs : ∀ e ∈ Hx, e ∈ Hy) : PX Hy v r := by
 obtain ⟨b, cap, spare, h1, h2, h3⟩ := h
 exact ⟨b, cap, spare, h1, h2, hs _ h3⟩
theorem prF_grp (pre : List UInt8) (p : Prt) (l : List Prt) (sp : List Value) : (prF (p :: l) ++ sp).set 1 (S (pre ++ p.nm)) = prF (grpR pre (p :: l)) ++ sp := rfl
theorem f10_any (w : World) (l : List (List Prt)) (sv : Value) (hsv : Tbl w sv l) (path pfx : List UInt8) : Calls Try.prog 10 #[sv, S path, S pfx] w fun e w' => e = .returned (.bool true) ∧ HF w (fun _ => False) [] w' := by
 refine enter (fun _ => False) [] Try.func10 rfl Try.ntmps10 rfl rfl (HF.start w _) fun c hc => ?_
 subst hc
 have hsv0 := hsv
 obtain ⟨sad, scp, hse, hscp, hsc⟩ := hsv
 subst hse
 have hsv := hsv0
 refine GC.seq ?_
 refine GC.reg ?_
 refine G.m2 ?_
 refine G.nil ?_
 refine GC.seq ?_
 refine GC.seq ?_
 refine GC.join (fun fr' H' => Sub [(0, .slice sad l.length scp), (1, S path), (2, S pfx), (28, .bool (dec (¬ Fits4 l ∨ (2147483647 : Int) < (path.length : Int) ∨ (2147483647 : Int) < (pfx.length : Int))))] fr' ∧ H' = []) (fun J1 => ?_) ?_
 ·refine GC.reg ?_
  refine G.m1 ?_
  refine G.callP (v := .bool (dec (Fits4 l))) Try.call17 rfl rfl (fun w1 hw1 => f17_any w1 l _ (hsv.old hw1)) ?_
  refine G.v (V.not rfl) rfl ?_
  refine G.m1 ?_
  refine G.bc 19 rfl (fun h19 => ?_) (fun h19 => ?_)
  ·refine G.s1 ?_
   refine G.s1 ?_
   refine G.s1 ?_
   refine G.m3 ?_
   refine G.m1 ?_
   refine G.s1 ?_
   refine G.s1 ?_
   refine G.s1 ?_
   refine G.m3 ?_
   refine G.nil ?_
   refine J1 _ _ ⟨.cons rfl (.cons rfl (.cons rfl (.cons (rfl.trans (congrArg (fun b => some (Value.bool b)) ?_)) .nil))), rfl⟩
   exact dec_t (.inl (dec_false.1 (by simpa using h19)))
  ·refine G.m5 ?_
   refine G.vg rfl rfl (V.lenS Try.underlying9 rfl) rfl ?_
   refine G.vg rfl rfl (V.gt rfl rfl) rfl ?_
   refine G.m4 ?_
   refine G.m1 ?_
   refine G.bc 24 rfl (fun h24 => ?_) (fun h24 => ?_)
   ·refine G.s1 ?_
    refine G.s1 ?_
    refine G.s1 ?_
    refine G.m3 ?_
    refine G.nil ?_
    refine J1 _ _ ⟨.cons rfl (.cons rfl (.cons rfl (.cons (rfl.trans (congrArg (fun b => some (Value.bool b)) ?_)) .nil))), rfl⟩
    exact dec_t (.inr (.inl (of_decide_eq_true h24)))
   ·refine G.m5 ?_
    refine G.vg rfl rfl (V.lenS Try.underlying9 rfl) rfl ?_
    refine G.vg rfl rfl (V.gt rfl rfl) rfl ?_
    refine G.m4 ?_
    refine G.nil ?_
    refine J1 _ _ ⟨.cons rfl (.cons rfl (.cons rfl (.cons (rfl.trans (congrArg (fun b => some (Value.bool b)) ?_)) .nil))), rfl⟩
    exact dec_d ⟨fun h => .inr (.inr h), fun h => (h.resolve_left (fun h => h (dec_true.1 (by simpa using h19)))).resolve_left (of_decide_eq_false h24)⟩
 rintro fr' H' ⟨hs1, rfl⟩
 refine GC.weak hs1 ?_
 clear hs1
 refine GC.cond rfl (fun h28 => ?_) (fun h28 => ?_)
 ·refine GC.seq ?_
  refine GC.reg ?_
  refine G.m2 ?_
  refine G.nil ?_
  exact GC.ret1 rfl rfl fun w' hw' => ⟨rfl, hw'.sub (List.nil_sublist _)⟩
 refine GC.skip ?_
 refine GC.seq ?_
 refine GC.seq ?_
 obtain ⟨h4, hpl, hql⟩ : Fits4 l ∧ path.length ≤ 2147483647 ∧ pfx.length ≤ 2147483647 := by
  have := dec_false.1 h28
  exact ⟨Classical.byContradiction fun h => this (.inl h), by omega, by omega⟩
 refine GC.join (fun fr' H' => Sub [(0, .slice sad l.length scp), (1, S path), (2, S pfx), (46, .bool (dec (¬ FitsN l path ∨ OpenN l path ∨ (10 : Int) < (pfx.length : Int) ∨ pfx = [])))] fr' ∧ H' = []) (fun J3 => ?_) ?_
 ·refine GC.reg ?_
  refine G.m1 ?_
  refine G.m1 ?_
  refine G.callP (v := .bool (dec (FitsN l path))) Try.call19 rfl rfl (fun w1 hw1 => f19_any w1 l _ (hsv.old hw1) h4 path (by omega)) ?_
  refine G.v (V.not rfl) rfl ?_
  refine G.m1 ?_
  refine G.bc 33 rfl (fun h33 => ?_) (fun h33 => ?_)
  ·refine G.s1 ?_
   refine G.s1 ?_
   refine G.s1 ?_
   refine G.m3 ?_
   refine G.m1 ?_
   refine G.s1 ?_
   refine G.s1 ?_
   refine G.s1 ?_
   refine G.m3 ?_
   refine G.m1 ?_
   refine G.s1 ?_
   refine G.s1 ?_
   refine G.m3 ?_
   refine G.nil ?_
   refine J3 _ _ ⟨.cons rfl (.cons rfl (.cons rfl (.cons (rfl.trans (congrArg (fun b => some (Value.bool b)) ?_)) .nil))), rfl⟩
   exact dec_t (.inl (dec_false.1 (by simpa using h33)))
  ·refine G.m5 ?_
   refine G.m5 ?_
   have hft : FitsN l path := dec_true.1 (by simpa using h33)
   refine G.gd rfl rfl ?_
   refine G.callP (v := .bool (dec (OpenN l path))) Try.call30 rfl rfl (fun w1 hw1 => f30_any w1 l _ (hsv.old hw1) hft.2.1.clean (by have := hft.1; omega) path (by have := hft.2.2.2.2; omega)) ?_
   refine G.m4 ?_
   refine G.m1 ?_
   refine G.bc 38 rfl (fun h38 => ?_) (fun h38 => ?_)
   ·refine G.s1 ?_
    refine G.s1 ?_
    refine G.s1 ?_
    refine G.m3 ?_
    refine G.m1 ?_
    refine G.s1 ?_
    refine G.s1 ?_
    refine G.m3 ?_
    refine G.nil ?_
    refine J3 _ _ ⟨.cons rfl (.cons rfl (.cons rfl (.cons (rfl.trans (congrArg (fun b => some (Value.bool b)) ?_)) .nil))), rfl⟩
    exact dec_t (.inr (.inl (dec_true.1 h38)))
   ·refine G.m5 ?_
    refine G.vg rfl rfl (V.lenS Try.underlying9 rfl) rfl ?_
    refine G.vg rfl rfl (V.gt rfl rfl) rfl ?_
    refine G.m4 ?_
    refine G.m1 ?_
    refine G.bc 43 rfl (fun h43 => ?_) (fun h43 => ?_)
    ·refine G.s1 ?_
     refine G.s1 ?_
     refine G.m3 ?_
     refine G.nil ?_
     refine J3 _ _ ⟨.cons rfl (.cons rfl (.cons rfl (.cons (rfl.trans (congrArg (fun b => some (Value.bool b)) ?_)) .nil))), rfl⟩
     exact dec_t (.inr (.inr (.inl (of_decide_eq_true h43))))
    ·refine G.m5 ?_
     refine G.vg rfl rfl (V.eqS rfl rfl) rfl ?_
     refine G.m4 ?_
     refine G.nil ?_
     refine J3 _ _ ⟨.cons rfl (.cons rfl (.cons rfl (.cons (rfl.trans (congrArg (fun b => some (Value.bool b)) ?_)) .nil))), rfl⟩
     exact dec_d ⟨fun h => .inr (.inr (.inr h)), fun h => ((h.resolve_left (fun h => h (dec_true.1 (by simpa using h33)))).resolve_left (dec_false.1 h38)).resolve_left (of_decide_eq_false h43)⟩
 rintro fr' H' ⟨hs3, rfl⟩
 refine GC.weak hs3 ?_
 clear hs3
 refine GC.cond rfl (fun h46 => ?_) (fun h46 => ?_)
 ·refine GC.seq ?_
  refine GC.reg ?_
  refine G.callP (v := .bool true) Try.call14 rfl rfl (fun w1 _ => f14_any w1) ?_
  refine G.m2 ?_
  refine G.nil ?_
  exact GC.ret1 rfl rfl fun w' hw' => ⟨rfl, hw'.sub (List.nil_sublist _)⟩
 refine GC.skip ?_
 refine GC.seq ?_
 refine GC.seq ?_
 obtain ⟨hft, hno, hp10, hp0⟩ : FitsN l path ∧ ¬ OpenN l path ∧ pfx.length ≤ 10 ∧ pfx ≠ [] := by
  have := dec_false.1 h46
  exact ⟨Classical.byContradiction fun h => this (.inl h), fun h => this (.inr (.inl h)), Nat.not_lt.1 fun h => this (.inr (.inr (.inl (by omega)))), fun h => this (.inr (.inr (.inr h)))⟩
 have hcl := hft.2.1.clean
 have hbd : ∀ r ∈ l, (rtT r).length ≤ 1000000 ∧ r.length ≤ 1000000 := fun r hr => ⟨Nat.le_trans (hcl r hr).txt.1 (by omega), (clean_len (hcl r hr)).2⟩
 have h30 := hft.1
 refine GC.reg ?_
 refine G.m1 ?_
 refine G.v (V.lenS Try.underlying9 rfl) rfl ?_
 refine G.m1 ?_
 refine G.nil ?_
 refine GC.block ?_
 refine GC.loopJ (fun N fr' H' => ∃ i, i + N = pfx.length ∧ Sub [(0, .slice sad l.length scp), (1, S path), (2, S pfx), (49, I (pfx.length : Nat)), (50, I (i : Nat))] fr' ∧ H' = []) pfx.length
  ⟨0, by omega, .of rfl, rfl⟩ ?_
 rintro N fr' H' ⟨i, hi, hs2, rfl⟩ ih
 refine GC.weak hs2 ?_
 clear hs2
 refine GC.seq ?_
 refine GC.reg ?_
 refine G.v (V.lt rfl rfl) rfl ?_
 refine G.nil ?_
 refine GC.seq ?_
 refine GC.condD rfl (fun h51 => ?_) (fun h51 => ?_)
 ·refine GC.skip ?_
  refine GC.seq ?_
  refine GC.block ?_
  refine GC.seq ?_
  refine GC.reg ?_
  refine G.m1 ?_
  refine G.m2 ?_
  refine G.nil ?_
  refine GC.seq ?_
  have hil : i < pfx.length := by omega
  obtain ⟨x, hx⟩ : ∃ x, pfx[i]? = some x := ⟨_, List.getElem?_eq_getElem hil⟩
  refine GC.join (fun fr' H' => Sub [(0, .slice sad l.length scp), (1, S path), (2, S pfx), (49, I (pfx.length : Nat)), (50, I (i : Nat)), (62, .bool (dec ((x.toNat : Int) < 97 ∨ (122 : Int) < (x.toNat : Int))))] fr' ∧ H' = []) (fun J8 => ?_) ?_
  ·refine GC.reg ?_
   refine G.m1 ?_
   refine G.m1 ?_
   refine G.v (V.idx (i := i) (b := x) Try.underlying9 rfl rfl hx) rfl ?_
   refine G.v (V.lt rfl rfl) rfl ?_
   refine G.m1 ?_
   refine G.bc 57 rfl (fun h57 => ?_) (fun h57 => ?_)
   ·refine G.s1 ?_
    refine G.s1 ?_
    refine G.s1 ?_
    refine G.s1 ?_
    refine G.m3 ?_
    refine G.nil ?_
    refine J8 _ _ ⟨.cons rfl (.cons rfl (.cons rfl (.cons rfl (.cons rfl (.cons (rfl.trans (congrArg (fun b => some (Value.bool b)) ?_)) .nil))))), rfl⟩
    exact dec_t (.inl (of_decide_eq_true h57))
   ·refine G.m5 ?_
    refine G.m5 ?_
    refine G.vg rfl rfl (V.idx (i := i) (b := x) Try.underlying9 rfl rfl hx) rfl ?_
    refine G.vg rfl rfl (V.gt rfl rfl) rfl ?_
    refine G.m4 ?_
    refine G.nil ?_
    refine J8 _ _ ⟨.cons rfl (.cons rfl (.cons rfl (.cons rfl (.cons rfl (.cons (rfl.trans (congrArg (fun b => some (Value.bool b)) ?_)) .nil))))), rfl⟩
    exact dec_d ⟨.inr, fun h => h.resolve_left (of_decide_eq_false h57)⟩
  rintro fr' H' ⟨hs8, rfl⟩
  refine GC.weak hs8 ?_
  clear hs8
  refine GC.cond rfl (fun h62 => ?_) (fun h62 => ?_)
  ·refine GC.seq ?_
   refine GC.reg ?_
   refine G.callP (v := .bool true) Try.call14 rfl rfl (fun w1 _ => f14_any w1) ?_
   refine G.m2 ?_
   refine G.nil ?_
   exact GC.ret1 rfl rfl fun w' hw' => ⟨rfl, hw'.sub (List.nil_sublist _)⟩
  refine GC.skip ?_
  refine GC.inBlock ?_
  refine GC.reg ?_
  refine G.v (V.addI (r := ((i + 1 : Nat) : Int)) rfl rfl rfl (by omega) (by omega)) rfl ?_
  refine G.m1 ?_
  refine G.nil ?_
  exact ih (N - 1) _ _ (by omega) ⟨i + 1, by omega, .of rfl, rfl⟩
 refine GC.exit rfl ?_
 refine GC.seq ?_
 refine GC.reg ?_
 refine G.m2 ?_
 refine G.nil ?_
 refine GC.seq ?_
 refine GC.seq ?_
 obtain ⟨pre, hpre⟩ : ∃ pre, pre = 47 :: pfx := ⟨_, rfl⟩
 have hprl : pre.length ≤ 11 := by rw [hpre, List.length_cons]; omega
 refine GC.reg ?_
 refine G.m1 ?_
 refine G.v (V.lenL Try.underlying34 rfl) rfl ?_
 refine G.m1 ?_
 refine G.nil ?_
 refine GC.block ?_
 refine GC.loopJ (fun N fr' H' => ∃ (j : Nat) (gv : Value) (xs : List Value) (Hg Hx : SH), j + N = l.length ∧ xs.length = j ∧ (∀ u ∈ xs, u.oneCell' = true) ∧ Own 35 1 gv j xs Hg ∧ (∀ (i : Nat) r, i < j → l[i]? = some r → ∃ v, xs[i]? = some v ∧ PX Hx v (grpR pre r)) ∧ (∀ e ∈ Hx, e.w = true) ∧ Sub [(0, .slice sad l.length scp), (1, S path), (2, S pfx), (8, gv), (65, .slice sad l.length scp), (66, I (l.length : Nat)), (67, I (j : Nat))] fr' ∧ H' = Hg ++ Hx) l.length
  ⟨0, .slice none 0 0, [], [], [], by omega, rfl, by simp, Own.nil, fun i r h => by omega, by simp, .of rfl, rfl⟩ ?_
 rintro N fr' H' ⟨j, gv, xs, Hg, Hx, hj, hxl, hx1, hown, hpx, hxw, hs2, rfl⟩ ih
 refine GC.weak hs2 ?_
 clear hs2
 refine GC.seq ?_
 refine GC.reg ?_
 refine G.v (V.lt rfl rfl) rfl ?_
 refine G.nil ?_
 refine GC.seq ?_
 refine GC.condD rfl (fun h68 => ?_) (fun h68 => ?_)
 ·refine GC.skip ?_
  refine GC.seq ?_
  refine GC.block ?_
  refine GC.seq ?_
  have hjl : j < l.length := by omega
  obtain ⟨a, ha⟩ : ∃ p, l[j]? = some p := ⟨_, List.getElem?_eq_getElem hjl⟩
  have hal := List.mem_of_getElem? ha
  have hca := hcl a hal
  have h12 := hca.2.1
  obtain ⟨p, al, hae⟩ : ∃ p al, a = p :: al := List.exists_cons_of_ne_nil hca.1
  have hpn : p.nm.length ≤ 101 := by
   have h1 := (hca.part p (by rw [hae]; exact .head _)).2
   have h2 : p.nm.length ≤ (rtP p).length := by unfold rtP; rw [List.length_append]; omega
   omega
  obtain ⟨b, o, av, e0, hc1, pad, pcp, rfl, hpcp, hpc⟩ := hsc j a ha
  cases e0
  refine GC.reg ?_
  refine G.v (V.ia (i := j) Try.underlying34 Try.sizeOf35 rfl rfl hjl) rfl ?_
  refine G.v (V.ldC (v := .slice pad a.length pcp) Try.isAgg35 rfl (by rw [Nat.mul_one]; exact hc1) id) rfl ?_
  refine G.m2 ?_
  refine G.nil ?_
  refine GC.seq ?_
  refine GC.reg ?_
  refine G.bs0 Try.underlying35 Try.sizeOf50 Try.zeroValue50 rfl (fun eb heb => ?_)
  refine G.m1 ?_
  refine G.appZ (i := Try.t50) (sz := 2) (by_ := 24) (vs := prF a) Try.underlying35 rfl rfl rfl rfl rfl rfl rfl (Own.row (b := eb) (n := 0) (cap := 0) (xs := []) (spare := []) rfl rfl (Nat.le_refl _)) (H' := Hg ++ Hx) (.of_eq rfl) (fun h0 => ?_) (prF_len a) (prF_one a) (by omega) (by omega) rfl (fun xv Hx1 hox => ?_)
  ·obtain ⟨qb, qo, e0, _⟩ := hpc 0 p (by rw [hae]; rfl)
   cases e0
   refine ⟨_, rfl, fun w1 h2 k u hk => ?_⟩
   obtain ⟨i, q, h3, h4⟩ := prF_of hk
   obtain ⟨qb', qo', e0, h5, h6⟩ := hpc i q h3
   cases e0
   have hcell : w.cell? ⟨qb, qo + k, none⟩ = some u := by
    rcases h4 with ⟨rfl, rfl⟩ | ⟨rfl, rfl⟩
    ·exact h5
    ·rw [← Nat.add_assoc]; exact h6
   have := h2.cellOld hcell id
   by_cases h00 : k = 0 <;> simpa [Addr.add, h00] using this
  rw [Nat.zero_add, List.nil_append] at hox
  obtain ⟨xb, xcap, xsp, rfl, rfl⟩ := hox.at (i := 0) (by rw [hae]; simp)
  have hxcap : a.length ≤ xcap := hox.le
  refine G.m2 ?_
  refine G.nil ?_
  refine GC.turn (H' := ⟨xb, true, .row (prF a ++ xsp) 50 (0, 0)⟩ :: (Hg ++ Hx)) (fun w1 h1 => h1.perm (List.perm_append_singleton _ _)) ?_
  refine GC.seq ?_
  refine GC.reg ?_
  refine G.m1 ?_
  refine G.m1 ?_
  refine G.v (V.cat (l := [47]) (m := pfx) rfl rfl (by simp; omega)) rfl ?_
  rw [show [47] ++ pfx = pre from hpre.symm]
  refine G.m1 ?_
  refine G.v (V.ia (i := 0) Try.underlying35 Try.sizeOf50 rfl rfl (by rw [hae]; simp)) rfl ?_
  refine G.v (V.fa F50_1 rfl) rfl ?_
  refine G.v (V.ld (b := xb) (off := 0 + 0 * 2 + 1) (wf := true) (l := prF a ++ xsp) (T := 50) (fz := (0, 0)) (v := S p.nm) Try.isAgg9 rfl (.head _) (by rw [hae]; rfl)) rfl ?_
  refine G.v (V.cat rfl rfl (by omega)) rfl ?_
  refine G.v (V.ia (i := 0) Try.underlying35 Try.sizeOf50 rfl rfl (by rw [hae]; simp)) rfl ?_
  refine G.v (V.fa F50_1 rfl) rfl ?_
  refine G.st (b := xb) (off := 0 + 0 * 2 + 1) (l := prF a ++ xsp) (T := 50) (fz := (0, 0)) (v := S (pre ++ p.nm)) Try.sizeOf9 rfl rfl rfl .z (by rw [hae]; rfl) rfl ?_
  have erow : setL (prF a ++ xsp) (0 + 0 * 2 + 1) (S (pre ++ p.nm)) = prF (grpR pre a) ++ xsp := by rw [setL_eq, hae]; exact prF_grp pre p al xsp
  refine G.turn (H' := ⟨xb, true, .row (prF (grpR pre a) ++ xsp) 50 (0, 0)⟩ :: (Hg ++ Hx)) (fun w1 h1 => by rw [← erow]; exact h1) ?_
  refine G.nil ?_
  refine GC.reg ?_
  refine G.m1 ?_
  refine G.m1 ?_
  refine G.bs (BS.one Try.underlying34 Try.sizeOf35 Try.zeroValue35 (v := .slice (some ⟨xb, 0, none⟩) a.length xcap) rfl) rfl rfl (fun sb hsb => ?_)
  refine G.app (i := Try.t35) (sz := 1) (by_ := 24) Try.underlying34 rfl rfl rfl rfl rfl rfl rfl hown (H' := ⟨sb, true, .row [.slice (some ⟨xb, 0, none⟩) a.length xcap] 35 (0, 0)⟩ :: ⟨xb, true, .row (prF (grpR pre a) ++ xsp) 50 (0, 0)⟩ :: Hx) ?_ (src_row (vs := [.slice (some ⟨xb, 0, none⟩) a.length xcap]) (r := []) (.head _)) rfl (by simp [Value.oneCell']) (by omega) (by omega) (by omega) rfl (fun gv2 Hg2 hown2 => ?_)
  ·have p1 := perm_idx [[⟨sb, true, .row [.slice (some ⟨xb, 0, none⟩) a.length xcap] 35 (0, 0)⟩], [⟨xb, true, .row (prF (grpR pre a) ++ xsp) 50 (0, 0)⟩], Hg, Hx] [0, 1, 2, 3] [2, 0, 1, 3] (by decide)
   simpa using p1
  refine G.m2 ?_
  refine G.nil ?_
  refine GC.turn (H' := Hg2 ++ (⟨xb, true, .row (prF (grpR pre a) ++ xsp) 50 (0, 0)⟩ :: Hx)) (fun w1 h1 => (h1.perm List.perm_append_comm).sub ?_) ?_
  ·exact List.Sublist.append (List.Sublist.refl _) (List.sublist_cons_self _ _)
  refine GC.inBlock ?_
  refine GC.reg ?_
  refine G.v (V.addI (r := ((j + 1 : Nat) : Int)) rfl rfl rfl (by omega) (by omega)) rfl ?_
  refine G.m1 ?_
  refine G.nil ?_
  refine ih (N - 1) _ _ (by omega) ⟨j + 1, gv2, xs ++ [.slice (some ⟨xb, 0, none⟩) a.length xcap], Hg2, ⟨xb, true, .row (prF (grpR pre a) ++ xsp) 50 (0, 0)⟩ :: Hx, by omega, by rw [List.length_append, hxl]; rfl, fun u hu => ?_, hown2, fun i r hi hr => ?_, fun e he => ?_, .of rfl, rfl⟩
  ·rcases List.mem_append.1 hu with hu | hu
   ·exact hx1 u hu
   ·rw [List.mem_singleton.1 hu]; rfl
  ·by_cases hij : i = j
   ·subst hij
    rw [ha] at hr
    cases hr
    exact ⟨_, by rw [List.getElem?_append_right (by omega), hxl, Nat.sub_self]; rfl, xb, xcap, xsp, by rw [grp_len], by rw [grp_len]; exact hxcap, .head _⟩
   ·obtain ⟨v, g1, g2⟩ := hpx i r (by omega) hr
    exact ⟨v, by rw [List.getElem?_append_left (by omega)]; exact g1, g2.mono (fun e he => .tail _ he)⟩
  ·rcases List.mem_cons.1 he with rfl | he
   ·rfl
   ·exact hxw e he
 refine GC.exit rfl ?_
 refine GC.seq ?_
 refine GC.seq ?_
 have hjl : j = l.length := by omega
 have hgl : (l.map (grpR pre)).length = l.length := List.length_map _
 have hgt : ∀ w1 H1, HF w (fun _ => False) H1 w1 → (∀ e ∈ Hg ++ Hx, e ∈ H1) → Tbl w1 gv (l.map (grpR pre)) := fun w1 H1 hw1 hs1 => by
  refine own_tbl2 hw1 (by rw [hgl, ← hjl]; exact hown) (fun e he => hs1 e (List.mem_append_left _ he)) (fun i r hr => ?_)
  rw [List.getElem?_map] at hr
  obtain ⟨r0, hr0, rfl⟩ := Option.map_eq_some_iff.1 hr
  obtain ⟨v, g1, g2⟩ := hpx i r0 (by have := (List.getElem?_eq_some_iff.1 hr0).1; omega) hr0
  exact ⟨v, g1, g2.prts hw1 (fun e he => hs1 e (List.mem_append_right _ he))⟩
 have hg4 : Fits4 (l.map (grpR pre)) := by
  refine ⟨by omega, fun r hr => ?_⟩
  obtain ⟨r0, hr0, rfl⟩ := List.mem_map.1 hr
  have hc0 := hcl r0 hr0
  refine ⟨by rw [grp_len]; have := hc0.2.1; omega, fun p hp => ?_⟩
  have hq : ∀ p ∈ r0, p.nm.length ≤ 101 := fun p hp => by
   have h1 := (hc0.part p hp).2
   have h2 : p.nm.length ≤ (rtP p).length := by unfold rtP; rw [List.length_append]; omega
   omega
  show p.nm.length ≤ 2147483647
  cases r0 with
  | nil => cases hp
  | cons p0 l0 =>
   rcases List.mem_cons.1 hp with rfl | hp
   ·have := hq p0 (.head _)
    show (pre ++ p0.nm).length ≤ _
    rw [List.length_append]; omega
   ·have := hq p (.tail _ hp)
    omega
 have hpl3 := hft.2.2.2.2
 refine GC.join (fun fr' H' => Sub [(0, .slice sad l.length scp), (1, S path), (2, S pfx), (8, gv), (103, .bool (dec (¬ FitsN (l.map (grpR pre)) (pre ++ path) ∨ OpenN (l.map (grpR pre)) (pre ++ path))))] fr' ∧ H' = Hg ++ Hx) (fun J19 => ?_) ?_
 ·refine GC.reg ?_
  refine G.m1 ?_
  refine G.m1 ?_
  refine G.v (V.cat (l := [47]) (m := pfx) rfl rfl (by simp; omega)) rfl ?_
  rw [show [47] ++ pfx = pre from hpre.symm]
  refine G.m1 ?_
  refine G.v (V.cat rfl rfl (by omega)) rfl ?_
  refine G.callP (v := .bool (dec (FitsN (l.map (grpR pre)) (pre ++ path)))) Try.call19 rfl rfl (fun w1 hw1 => f19_any w1 (l.map (grpR pre)) gv (hgt w1 _ hw1 (fun e he => he)) hg4 (pre ++ path) (by rw [List.length_append]; omega)) ?_
  refine G.v (V.not rfl) rfl ?_
  refine G.m1 ?_
  refine G.bc 96 rfl (fun h96 => ?_) (fun h96 => ?_)
  ·refine G.s1 ?_
   refine G.s1 ?_
   refine G.s1 ?_
   refine G.s1 ?_
   refine G.s1 ?_
   refine G.s1 ?_
   refine G.m3 ?_
   refine G.nil ?_
   refine J19 _ _ ⟨.cons rfl (.cons rfl (.cons rfl (.cons rfl (.cons (rfl.trans (congrArg (fun b => some (Value.bool b)) ?_)) .nil)))), rfl⟩
   exact dec_t (.inl (dec_false.1 (by simpa using h96)))
  ·refine G.m5 ?_
   refine G.m5 ?_
   refine G.vg rfl rfl (V.cat (l := [47]) (m := pfx) rfl rfl (by simp; omega)) rfl ?_
   rw [show [47] ++ pfx = pre from hpre.symm]
   refine G.m5 ?_
   refine G.vg rfl rfl (V.cat rfl rfl (by omega)) rfl ?_
   have hfg : FitsN (l.map (grpR pre)) (pre ++ path) := dec_true.1 (by simpa using h96)
   refine G.gd rfl rfl ?_
   refine G.callP (v := .bool (dec (OpenN (l.map (grpR pre)) (pre ++ path)))) Try.call30 rfl rfl (fun w1 hw1 => f30_any w1 (l.map (grpR pre)) gv (hgt w1 _ hw1 (fun e he => he)) hfg.2.1.clean (by omega) (pre ++ path) (by have := hfg.2.2.2.2; omega)) ?_
   refine G.m4 ?_
   refine G.nil ?_
   refine J19 _ _ ⟨.cons rfl (.cons rfl (.cons rfl (.cons rfl (.cons (rfl.trans (congrArg (fun b => some (Value.bool b)) ?_)) .nil)))), rfl⟩
   exact dec_c ⟨.inr, fun h => h.resolve_left (fun h => h (dec_true.1 (by simpa using h96)))⟩
 rintro fr' H' ⟨hs19, rfl⟩
 refine GC.weak hs19 ?_
 clear hs19
 refine GC.cond rfl (fun h103 => ?_) (fun h103 => ?_)
 ·refine GC.seq ?_
  refine GC.reg ?_
  refine G.callP (v := .bool true) Try.call14 rfl rfl (fun w1 _ => f14_any w1) ?_
  refine G.m2 ?_
  refine G.nil ?_
  exact GC.ret1 rfl rfl fun w' hw' => ⟨rfl, hw'.sub (List.nil_sublist _)⟩
 refine GC.skip ?_
 refine GC.seq ?_
 obtain ⟨hfg, hng⟩ : FitsN (l.map (grpR pre)) (pre ++ path) ∧ ¬ OpenN (l.map (grpR pre)) (pre ++ path) := by
  have := dec_false.1 h103
  exact ⟨Classical.byContradiction fun h => this (.inl h), fun h => this (.inr h)⟩
 have hcg := hfg.2.1.clean
 have hcl2 : ∀ a ∈ l, Gt.Clean (grpR pre a) := fun a ha => hcg _ (List.mem_map.2 ⟨a, ha, rfl⟩)
 have hbg : ∀ r ∈ (l.map (grpR pre)), (rtT r).length ≤ 1000000 ∧ r.length ≤ 1000000 := fun r hr => ⟨Nat.le_trans (hcg r hr).txt.1 (by omega), (clean_len (hcg r hr)).2⟩
 refine GC.reg ?_
 refine G.m1 ?_
 refine G.callW (fun v H2 => ∃ Hk, Own 9 1 v l.length ((l.map rtT).map S) Hk ∧ H2 = Hk ++ (Hg ++ Hx)) Try.call23 rfl rfl (fun w1 hw1 => ?_) ?_
 ·refine (f23_any w1 l _ (hsv.old hw1) hbd (by omega)).mono fun e w' ⟨kv, Hs, h1, h2, h3⟩ => ?_
  exact ⟨_, _, h1, hw1.after0 h3 h2.w, Hs, h2, rfl⟩
 rintro tv H2 ⟨Hs, hot, rfl⟩
 refine G.m1 ?_
 refine G.bs (BS.one Try.underlying26 Try.sizeOf9 Try.zeroValue9 (v := S path) rfl) rfl rfl (fun qb hqb => ?_)
 refine G.callW (fun v H2 => ∃ r fb cap spare pa Ha, v = .tuple #[.slice (some ⟨fb, 0, none⟩) 1 cap, .bool true] ∧ Told l false path r ∧ Own 32 2 pa r.ps.length (flatP r.ps) Ha ∧ H2 = (⟨fb, true, .row (fndV r pa ++ spare) 30 (0, 0)⟩ :: Ha) ++ (⟨qb, true, .row [S path] 9 (0, 0)⟩ :: (Hs ++ (Hg ++ Hx)))) Try.call15 rfl rfl (fun w1 hw1 => ?_) ?_
 ·refine (f15_fit1 w1 l _ path hft (hot.txts (by simp) hw1 (fun e he => List.mem_cons_of_mem _ (List.mem_append_left _ he))) _ (Txts.row (l := [path]) (z := []) (e := 9) (wf := true) (fz := (0, 0)) hw1 (.head _)) false).mono fun e w' ⟨r, fb, cap, spare, pa, Ha, h1, h2, h3, h4⟩ => ?_
  exact ⟨_, _, h2, hw1.after0 h4 (fun e0 he0 => by
   rcases List.mem_cons.1 he0 with rfl | he0
   ·rfl
   ·exact h3.w e0 he0), r, fb, cap, spare, pa, Ha, rfl, h1, h3, rfl⟩
 rintro v H2 ⟨r, fb, cap, spare, pa, Ha, rfl, ht, ho, rfl⟩
 refine G.m1 ?_
 refine G.v (V.ex rfl rfl) rfl ?_
 refine G.v (V.ex rfl rfl) rfl ?_
 refine G.m2 ?_
 refine G.m2 ?_
 refine G.nil ?_
 refine GC.seq ?_
 refine GC.reg ?_
 refine G.m1 ?_
 refine G.callW (fun v H2 => ∃ Hk, Own 9 1 v (l.map (grpR pre)).length (((l.map (grpR pre)).map rtT).map S) Hk ∧ H2 = Hk ++ ((⟨fb, true, .row (fndV r pa ++ spare) 30 (0, 0)⟩ :: Ha) ++ (⟨qb, true, .row [S path] 9 (0, 0)⟩ :: (Hs ++ (Hg ++ Hx))))) Try.call23 rfl rfl (fun w1 hw1 => ?_) ?_
 ·refine (f23_any w1 (l.map (grpR pre)) gv (hgt w1 _ hw1 (fun e he => List.mem_append_right _ (.tail _ (List.mem_append_right _ he)))) hbg (by omega)).mono fun e w' ⟨kv, Hs, h1, h2, h3⟩ => ?_
  exact ⟨_, _, h1, hw1.after0 h3 h2.w, Hs, h2, rfl⟩
 rintro tv2 H2 ⟨Hs2, hot2, rfl⟩
 refine G.m1 ?_
 refine G.v (V.cat (l := [47]) (m := pfx) rfl rfl (by simp; omega)) rfl ?_
 rw [show [47] ++ pfx = pre from hpre.symm]
 refine G.m1 ?_
 refine G.v (V.cat rfl rfl (by omega)) rfl ?_
 refine G.bs (BS.one Try.underlying26 Try.sizeOf9 Try.zeroValue9 (v := S (pre ++ path)) rfl) rfl rfl (fun qb2 hqb2 => ?_)
 refine G.callW (fun v H2 => ∃ r2 fb2 cap2 spare2 pa2 Ha2, v = .tuple #[.slice (some ⟨fb2, 0, none⟩) 1 cap2, .bool true] ∧ Told (l.map (grpR pre)) false (pre ++ path) r2 ∧ Own 32 2 pa2 r2.ps.length (flatP r2.ps) Ha2 ∧ H2 = (⟨fb2, true, .row (fndV r2 pa2 ++ spare2) 30 (0, 0)⟩ :: Ha2) ++ (⟨qb2, true, .row [S (pre ++ path)] 9 (0, 0)⟩ :: (Hs2 ++ ((⟨fb, true, .row (fndV r pa ++ spare) 30 (0, 0)⟩ :: Ha) ++ (⟨qb, true, .row [S path] 9 (0, 0)⟩ :: (Hs ++ (Hg ++ Hx))))))) Try.call15 rfl rfl (fun w1 hw1 => ?_) ?_
 ·refine (f15_fit1 w1 (l.map (grpR pre)) _ (pre ++ path) hfg (hot2.txts (by simp) hw1 (fun e he => List.mem_cons_of_mem _ (List.mem_append_left _ he))) _ (Txts.row (l := [(pre ++ path)]) (z := []) (e := 9) (wf := true) (fz := (0, 0)) hw1 (.head _)) false).mono fun e w' ⟨r2, fb2, cap2, spare2, pa2, Ha2, h1, h2, h3, h4⟩ => ?_
  exact ⟨_, _, h2, hw1.after0 h4 (fun e0 he0 => by
   rcases List.mem_cons.1 he0 with rfl | he0
   ·rfl
   ·exact h3.w e0 he0), r2, fb2, cap2, spare2, pa2, Ha2, rfl, h1, h3, rfl⟩
 rintro v H2 ⟨r2, fb2, cap2, spare2, pa2, Ha2, rfl, ht2, ho2, rfl⟩
 refine G.m1 ?_
 refine G.v (V.ex rfl rfl) rfl ?_
 refine G.v (V.ex rfl rfl) rfl ?_
 refine G.m2 ?_
 refine G.m2 ?_
 refine G.nil ?_
 obtain ⟨hrh, hpar⟩ := grp_found hcl hcl2 (ht.2.2.2 hno) (ht2.2.2.2 hng)
 obtain ⟨SW, hSW⟩ : ∃ SW : World → Prop, SW = fun w1 => (∀ (j : Nat) v, (fndV r pa)[j]? = some v → w1.cell? ⟨fb, 0 + 0 * 4 + j, none⟩ = some v) ∧ ∀ (j : Nat) v, (fndV r2 pa2)[j]? = some v → w1.cell? ⟨fb2, 0 + 0 * 4 + j, none⟩ = some v := ⟨_, rfl⟩
 have hS : ∀ (H' : SH), ⟨fb, true, .row (fndV r pa ++ spare) 30 (0, 0)⟩ ∈ H' → ⟨fb2, true, .row (fndV r2 pa2 ++ spare2) 30 (0, 0)⟩ ∈ H' → ∀ w1, HF w (fun _ => False) H' w1 → SW w1 := fun H' hm hm2 w1 h1 => by
  rw [hSW]
  exact ⟨cells_of h1 (0 + 0 * 4) _ hm (fun j v hj => fnd_at r pa spare j v hj), cells_of h1 (0 + 0 * 4) _ hm2 (fun j v hj => fnd_at r2 pa2 spare2 j v hj)⟩
 refine GC.seq ?_
 refine GC.seq ?_
 refine GC.regA (SW) mixed ?_
 refine GA.one 0 rfl (by kernel_rfl) ?_
 refine GB.callP (v := .bool true) Try.call14 rfl rfl (hS _ (List.mem_append_right _ (.tail _ (List.mem_append_right _ (.head _)))) (.head _)) (fun w1 _ => f14_any w1) ?_
 refine GA.p 1 rfl (by kernel_rfl) (hS _ (List.mem_append_right _ (.tail _ (List.mem_append_right _ (.head _)))) (.head _)) (fun _ => V.not rfl) rfl ?_
 refine GA.p 2 rfl (by kernel_rfl) (hS _ (List.mem_append_right _ (.tail _ (List.mem_append_right _ (.head _)))) (.head _)) (fun _ => V.mv rfl) rfl ?_
 refine GA.pg 3 rfl rfl rfl (by kernel_rfl) (hS _ (List.mem_append_right _ (.tail _ (List.mem_append_right _ (.head _)))) (.head _)) (fun _ => V.mv rfl) rfl ?_
 refine GA.pg 4 rfl rfl rfl (by kernel_rfl) (hS _ (List.mem_append_right _ (.tail _ (List.mem_append_right _ (.head _)))) (.head _)) (fun _ => V.not rfl) rfl ?_
 refine GA.p 5 rfl (by kernel_rfl) (hS _ (List.mem_append_right _ (.tail _ (List.mem_append_right _ (.head _)))) (.head _)) (fun _ => V.pickF rfl rfl) rfl ?_
 refine GA.p 6 rfl (by kernel_rfl) (hS _ (List.mem_append_right _ (.tail _ (List.mem_append_right _ (.head _)))) (.head _)) (fun _ => V.mv rfl) rfl ?_
 refine GA.pg 7 rfl rfl rfl (by kernel_rfl) (hS _ (List.mem_append_right _ (.tail _ (List.mem_append_right _ (.head _)))) (.head _)) (fun _ => V.mv rfl) rfl ?_
 refine GA.pg 8 rfl rfl rfl (by kernel_rfl) (hS _ (List.mem_append_right _ (.tail _ (List.mem_append_right _ (.head _)))) (.head _)) (fun _ => V.not rfl) rfl ?_
 refine GA.p 9 rfl (by kernel_rfl) (hS _ (List.mem_append_right _ (.tail _ (List.mem_append_right _ (.head _)))) (.head _)) (fun _ => V.pickF rfl rfl) rfl ?_
 refine GA.p 10 rfl (by kernel_rfl) (hS _ (List.mem_append_right _ (.tail _ (List.mem_append_right _ (.head _)))) (.head _)) (fun _ => V.mv rfl) rfl ?_
 refine GA.pg 11 rfl rfl rfl (by kernel_rfl) (hS _ (List.mem_append_right _ (.tail _ (List.mem_append_right _ (.head _)))) (.head _)) (fun _ => V.mv rfl) rfl ?_
 refine GA.pg 12 rfl rfl rfl (by kernel_rfl) (hS _ (List.mem_append_right _ (.tail _ (List.mem_append_right _ (.head _)))) (.head _)) (fun _ => V.lenL Try.underlying23 rfl) rfl ?_
 refine GA.pg 13 rfl rfl rfl (by kernel_rfl) (hS _ (List.mem_append_right _ (.tail _ (List.mem_append_right _ (.head _)))) (.head _)) (fun _ => V.neI rfl rfl) rfl ?_
 refine GA.p 14 rfl (by kernel_rfl) (hS _ (List.mem_append_right _ (.tail _ (List.mem_append_right _ (.head _)))) (.head _)) (fun _ => V.pickF rfl rfl) rfl ?_
 refine GA.p 15 rfl (by kernel_rfl) (hS _ (List.mem_append_right _ (.tail _ (List.mem_append_right _ (.head _)))) (.head _)) (fun _ => V.mv rfl) rfl ?_
 refine GA.pg 16 rfl rfl rfl (by kernel_rfl) (hS _ (List.mem_append_right _ (.tail _ (List.mem_append_right _ (.head _)))) (.head _)) (fun _ => V.mv rfl) rfl ?_
 refine GA.pg 17 rfl rfl rfl (by kernel_rfl) (hS _ (List.mem_append_right _ (.tail _ (List.mem_append_right _ (.head _)))) (.head _)) (fun _ => V.lenL Try.underlying23 rfl) rfl ?_
 refine GA.pg 18 rfl rfl rfl (by kernel_rfl) (hS _ (List.mem_append_right _ (.tail _ (List.mem_append_right _ (.head _)))) (.head _)) (fun _ => V.neI rfl rfl) rfl ?_
 refine GA.p 19 rfl (by kernel_rfl) (hS _ (List.mem_append_right _ (.tail _ (List.mem_append_right _ (.head _)))) (.head _)) (fun _ => V.pickF rfl rfl) rfl ?_
 refine GA.p 20 rfl (by kernel_rfl) (hS _ (List.mem_append_right _ (.tail _ (List.mem_append_right _ (.head _)))) (.head _)) (fun _ => V.mv rfl) rfl ?_
 refine GA.pg 21 rfl rfl rfl (by kernel_rfl) (hS _ (List.mem_append_right _ (.tail _ (List.mem_append_right _ (.head _)))) (.head _)) (fun _ => V.mv rfl) rfl ?_
 refine GA.pg 22 rfl rfl rfl (by kernel_rfl) (hS _ (List.mem_append_right _ (.tail _ (List.mem_append_right _ (.head _)))) (.head _)) (fun _ => V.ia (i := 0) Try.underlying23 Try.sizeOf30 rfl rfl (by decide)) rfl ?_
 refine GA.pg 23 rfl rfl rfl (by kernel_rfl) (hS _ (List.mem_append_right _ (.tail _ (List.mem_append_right _ (.head _)))) (.head _)) (fun _ => V.fa F30_0 rfl) rfl ?_
 refine GA.ldg  24 rfl rfl rfl (by kernel_rfl) (hS _ (List.mem_append_right _ (.tail _ (List.mem_append_right _ (.head _)))) (.head _)) Try.isAgg3 rfl (fun w1 h1 => by rw [hSW] at h1; exact h1.1 0 _ rfl) rfl ?_
 refine GA.pg 25 rfl rfl rfl (by kernel_rfl) (hS _ (List.mem_append_right _ (.tail _ (List.mem_append_right _ (.head _)))) (.head _)) (fun _ => V.mv rfl) rfl ?_
 refine GA.pg 26 rfl rfl rfl (by kernel_rfl) (hS _ (List.mem_append_right _ (.tail _ (List.mem_append_right _ (.head _)))) (.head _)) (fun _ => V.ia (i := 0) Try.underlying23 Try.sizeOf30 rfl rfl (by decide)) rfl ?_
 refine GA.pg 27 rfl rfl rfl (by kernel_rfl) (hS _ (List.mem_append_right _ (.tail _ (List.mem_append_right _ (.head _)))) (.head _)) (fun _ => V.fa F30_0 rfl) rfl ?_
 refine GA.ldg  28 rfl rfl rfl (by kernel_rfl) (hS _ (List.mem_append_right _ (.tail _ (List.mem_append_right _ (.head _)))) (.head _)) Try.isAgg3 rfl (fun w1 h1 => by rw [hSW] at h1; exact h1.2 0 _ rfl) rfl ?_
 refine GA.pg 29 rfl rfl rfl (by kernel_rfl) (hS _ (List.mem_append_right _ (.tail _ (List.mem_append_right _ (.head _)))) (.head _)) (fun _ => neI_false (by rw [hrh]) (V.neI rfl rfl)) rfl ?_
 refine GA.p 30 rfl (by kernel_rfl) (hS _ (List.mem_append_right _ (.tail _ (List.mem_append_right _ (.head _)))) (.head _)) (fun _ => V.pickF rfl rfl) rfl ?_
 refine GA.done (by kernel_rfl) ?_
 refine GC.condF rfl ?_
 refine GC.skip ?_
 refine GC.seq ?_
 refine GC.regA (SW) mixed ?_
 refine GA.p 0 rfl (by kernel_rfl) (hS _ (List.mem_append_right _ (.tail _ (List.mem_append_right _ (.head _)))) (.head _)) (fun _ => V.mv rfl) rfl ?_
 refine GA.p 1 rfl (by kernel_rfl) (hS _ (List.mem_append_right _ (.tail _ (List.mem_append_right _ (.head _)))) (.head _)) (fun _ => V.ia (i := 0) Try.underlying23 Try.sizeOf30 rfl rfl (by decide)) rfl ?_
 refine GA.p 2 rfl (by kernel_rfl) (hS _ (List.mem_append_right _ (.tail _ (List.mem_append_right _ (.head _)))) (.head _)) (fun _ => V.fa F30_0 rfl) rfl ?_
 refine GA.ld  3 rfl (by kernel_rfl) (hS _ (List.mem_append_right _ (.tail _ (List.mem_append_right _ (.head _)))) (.head _)) Try.isAgg3 rfl (fun w1 h1 => by rw [hSW] at h1; exact h1.1 0 _ rfl) rfl ?_
 refine GA.p 4 rfl (by kernel_rfl) (hS _ (List.mem_append_right _ (.tail _ (List.mem_append_right _ (.head _)))) (.head _)) (fun _ => V.eqI rfl rfl) rfl ?_
 refine GA.p 5 rfl (by kernel_rfl) (hS _ (List.mem_append_right _ (.tail _ (List.mem_append_right _ (.head _)))) (.head _)) (fun _ => V.mv rfl) rfl ?_
 refine GA.bc 160 rfl (fun h160 => ?_) (fun h160 => ?_)
 ·refine GA.un 6 rfl rfl rfl rfl rfl rfl (by kernel_rfl) (hS _ (List.mem_append_right _ (.tail _ (List.mem_append_right _ (.head _)))) (.head _)) rfl ?_
  refine GA.un 7 rfl rfl rfl rfl rfl rfl (by kernel_rfl) (hS _ (List.mem_append_right _ (.tail _ (List.mem_append_right _ (.head _)))) (.head _)) rfl ?_
  refine GA.un 8 rfl rfl rfl rfl rfl rfl (by kernel_rfl) (hS _ (List.mem_append_right _ (.tail _ (List.mem_append_right _ (.head _)))) (.head _)) rfl ?_
  refine GA.un 9 rfl rfl rfl rfl rfl rfl (by kernel_rfl) (hS _ (List.mem_append_right _ (.tail _ (List.mem_append_right _ (.head _)))) (.head _)) rfl ?_
  refine GA.un 10 rfl rfl rfl rfl rfl rfl (by kernel_rfl) (hS _ (List.mem_append_right _ (.tail _ (List.mem_append_right _ (.head _)))) (.head _)) rfl ?_
  refine GA.un 11 rfl rfl rfl rfl rfl rfl (by kernel_rfl) (hS _ (List.mem_append_right _ (.tail _ (List.mem_append_right _ (.head _)))) (.head _)) rfl ?_
  refine GA.un 12 rfl rfl rfl rfl rfl rfl (by kernel_rfl) (hS _ (List.mem_append_right _ (.tail _ (List.mem_append_right _ (.head _)))) (.head _)) rfl ?_
  refine GA.un 13 rfl rfl rfl rfl rfl rfl (by kernel_rfl) (hS _ (List.mem_append_right _ (.tail _ (List.mem_append_right _ (.head _)))) (.head _)) rfl ?_
  refine GA.un 14 rfl rfl rfl rfl rfl rfl (by kernel_rfl) (hS _ (List.mem_append_right _ (.tail _ (List.mem_append_right _ (.head _)))) (.head _)) rfl ?_
  refine GA.p 15 rfl (by kernel_rfl) (hS _ (List.mem_append_right _ (.tail _ (List.mem_append_right _ (.head _)))) (.head _)) (fun _ => V.pickT rfl rfl) rfl ?_
  refine GA.p 16 rfl (by kernel_rfl) (hS _ (List.mem_append_right _ (.tail _ (List.mem_append_right _ (.head _)))) (.head _)) (fun _ => V.asg rfl) rfl ?_
  refine GA.done (by kernel_rfl) ?_
  exact GC.ret1 rfl rfl fun w' hw' => ⟨rfl, hw'.sub (List.nil_sublist _)⟩
 ·refine GA.pg 6 rfl rfl rfl (by kernel_rfl) (hS _ (List.mem_append_right _ (.tail _ (List.mem_append_right _ (.head _)))) (.head _)) (fun _ => V.mv rfl) rfl ?_
  refine GA.pg 7 rfl rfl rfl (by kernel_rfl) (hS _ (List.mem_append_right _ (.tail _ (List.mem_append_right _ (.head _)))) (.head _)) (fun _ => V.ia (i := 0) Try.underlying23 Try.sizeOf30 rfl rfl (by decide)) rfl ?_
  refine GA.pg 8 rfl rfl rfl (by kernel_rfl) (hS _ (List.mem_append_right _ (.tail _ (List.mem_append_right _ (.head _)))) (.head _)) (fun _ => V.fa F30_1 rfl) rfl ?_
  refine GA.ldg  9 rfl rfl rfl (by kernel_rfl) (hS _ (List.mem_append_right _ (.tail _ (List.mem_append_right _ (.head _)))) (.head _)) Try.isAgg28 rfl (fun w1 h1 => by rw [hSW] at h1; exact h1.1 1 _ rfl) rfl ?_
  refine GA.pg 10 rfl rfl rfl (by kernel_rfl) (hS _ (List.mem_append_right _ (.tail _ (List.mem_append_right _ (.head _)))) (.head _)) (fun _ => V.mv rfl) rfl ?_
  refine GA.pg 11 rfl rfl rfl (by kernel_rfl) (hS _ (List.mem_append_right _ (.tail _ (List.mem_append_right _ (.head _)))) (.head _)) (fun _ => V.ia (i := 0) Try.underlying23 Try.sizeOf30 rfl rfl (by decide)) rfl ?_
  refine GA.pg 12 rfl rfl rfl (by kernel_rfl) (hS _ (List.mem_append_right _ (.tail _ (List.mem_append_right _ (.head _)))) (.head _)) (fun _ => V.fa F30_1 rfl) rfl ?_
  refine GA.ldg  13 rfl rfl rfl (by kernel_rfl) (hS _ (List.mem_append_right _ (.tail _ (List.mem_append_right _ (.head _)))) (.head _)) Try.isAgg28 rfl (fun w1 h1 => by rw [hSW] at h1; exact h1.2 1 _ rfl) rfl ?_
  refine GA.one 14 rfl (by kernel_rfl) ?_
  refine GB.gd rfl rfl ?_
  have hr0 : r.h.getD 0 ≠ 0 := fun h => by rw [h] at h160; simp at h160
  refine GB.callP (v := .bool (decide (r.ps = r2.ps))) Try.call27 rfl rfl (hS _ (List.mem_append_right _ (.tail _ (List.mem_append_right _ (.head _)))) (.head _)) (fun w1 hw1 => f27_any w1 r.ps r2.ps pa pa2 (Own.prms ho hw1 (fun x hx => List.mem_append_right _ (.tail _ (List.mem_append_right _ (List.mem_append_left _ (.tail _ hx)))))) (Own.prms ho2 hw1 (fun x hx => List.mem_append_left _ (.tail _ hx))) (by have := ht.2.1; omega) (by have := ht2.2.1; omega)) ?_
  rw [decide_eq_true (hpar hr0)]
  refine GA.p 15 rfl (by kernel_rfl) (hS _ (List.mem_append_right _ (.tail _ (List.mem_append_right _ (.head _)))) (.head _)) (fun _ => V.pickF rfl rfl) rfl ?_
  refine GA.p 16 rfl (by kernel_rfl) (hS _ (List.mem_append_right _ (.tail _ (List.mem_append_right _ (.head _)))) (.head _)) (fun _ => V.asg rfl) rfl ?_
  refine GA.done (by kernel_rfl) ?_
  exact GC.ret1 rfl rfl fun w' hw' => ⟨rfl, hw'.sub (List.nil_sublist _)⟩
end Go.Proofs

/- A law's statement out of its walk: FnWholeGroup. -/
set_option maxRecDepth 100000
namespace Go.Proofs.Ytnopecnbpflodaa.wholegroup
open Go Bw Go.ChangeShapes Go.WideShapes Go.ChangeAt Go.RowKit
theorem contract (H : Type) (enc : TypeId × Value → H) (W : World) (base : Nat) (args : Array Value) (ds gs : List (DataW H)) (before : List MemPlace)
  (hval : ∀ (j : Nat) t v, Try.f10.params[j]? = some t → args[j]? = some v → Value.okWide Try.prog W .any base t v)
  (hW : DataW.Whole enc Try.prog Try.f10.params.toList Rows.fnWholeGroupSpec.vars false W args.toList ds gs before) :
  Calls Try.prog 10 args W fun e W' => ∃ v, e = .returned v ∧ Rows.fnWholeGroupSpec.post enc Try.prog Try.f10 false true false false W args v W' := by
 have hW' := hW
 obtain ⟨p, q, hA0, hV, rfl, hfz, hnd⟩ := hW
 have hA : DataW.TrodAll enc Try.prog W 0 (fun _ => true) true [34, 9, 9] args.toList ds p := hA0
 obtain ⟨v0, vs0, d0, ds0, p0, q0, hargs, rfl, rfl, h0, r0⟩ := trodAll_cons hA
 obtain ⟨v1, vs_1, d1, ds1, p1, q1, rfl, rfl, rfl, h1, r1⟩ := trodAll_cons r0
 obtain ⟨v2, vs_2, d2, ds2, p2, q2, rfl, rfl, rfl, h2, r2⟩ := trodAll_cons r1
 obtain ⟨rfl, rfl, rfl⟩ := trodAll_nil r2
 obtain rfl : args = #[v0, v1, v2] := by cases args; simp_all
 obtain ⟨rs0, hrs0⟩ := open_parts2 (hval 0 34 v0 rfl rfl) h0
 obtain ⟨l1, rfl⟩ := open_str Try.underlying9 (hval 1 9 v1 rfl rfl)
 obtain ⟨l2, rfl⟩ := open_str Try.underlying9 (hval 2 9 v2 rfl rfl)
 refine (f10_any W rs0 v0 hrs0 l1 l2).mono fun e W' ⟨he, hf⟩ => ⟨_, he, ?_⟩
 refine post_law hW' rfl rfl ?_ (by kernel_rfl) (below_of hf)
 obtain ⟨rfl, rfl⟩ := trodVars_none hV
 rfl
theorem reads (os : Os) {H : Type} (enc : TypeId × Value → H) : ∃ places, DataW.whole enc Try.prog ((plainWorld os).forCall (fun _ _ => 0) ⟨#[], #[.slice none 0 0, .string ⟨#[]⟩, .string ⟨#[]⟩], []⟩).memory Try.f10.params.toList Rows.fnWholeGroupSpec.vars false (#[.slice none 0 0, .string ⟨#[]⟩, .string ⟨#[]⟩] : Array Value).toList 8 = some ([.nil, .lit (.string []), .lit (.string [])], [], places) :=
 ⟨[], by kernel_rfl⟩
theorem lifted (os : Os) (started : os.Started) (H : Type) (enc : TypeId × Value → H) (F : Stop.Interp) :
  ReturnsInHanded {} Try.checked os 10 .any ((OpenSpec.ofChange Rows.fnWholeGroupSpec).preRow enc Try.prog Try.f10 Rows.fnWholeGroupRow.domain false Rows.fnWholeGroupRow.laid) (((OpenSpec.ofChange Rows.fnWholeGroupSpec).at F).post enc Try.prog Try.f10 false true false false) := by
 obtain ⟨places, hx⟩ := reads os enc
 refine returnsInHanded_of_row (C := Try.checked) (s := OpenSpec.ofChange Rows.fnWholeGroupSpec) try_own started (by kernel_rfl) Try.func10
  (witness_row_at (enc := enc) (C := Try.checked) false (plainWorld os) #[.slice none 0 0, .string ⟨#[]⟩, .string ⟨#[]⟩] rfl (by kernel_rfl) (by kernel_rfl) (by kernel_rfl)
   (OpenSpec.preRow_of_cond 8 hx (by kernel_rfl) (fun k hk => by cases hk) (by kernel_rfl) (laid_none _))) ?_
 intro W base args ds gs before hval hW _ _ _ hL _ _
 exact contract H enc W base args ds gs before hval hW
theorem said : Rows.FnWholeGroupSaid :=
 OpenClaim.holds_of_cond 10 Try.f10 rfl rfl rfl rfl rfl rfl rfl ⟨rfl, rfl, rfl, rfl, rfl⟩ rfl rfl rfl rfl rfl (by kernel_rfl) Try.func10 (by kernel_rfl)
  (of_decide_eq_true (by kernel_rfl)) (by unfold Func.isWrapper; first | (rw [if_pos (by decide +kernel)]; kernel_rfl) | (rw [if_neg (by decide +kernel)]; exact ⟨rfl, rfl⟩))
  (fun os started H enc _ F => by rw [OpenClaim.pre_eq_preRow]; exact lifted os started H enc F)
end Go.Proofs.Ytnopecnbpflodaa.wholegroup
