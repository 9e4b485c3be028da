/- Routes as texts, copied and turned round; tables put into a tree. -/
import Derived.Test.YtnopecnbpflodaaNa
import Derived.Test.YtnopecnbpflodaaKa
/- Routes as texts. Printed by wip/mk_gn7.py. -/
set_option maxRecDepth 20000
namespace Go.Proofs
open Go Bw
open Gt
theorem _root_.Bw.G.appZ {P : Program} {c : Cx} {n : Nat} {k : List Item} {fr : SF} {H : SH} {ops : Array Oper} {rest : List Oper} {ty : TypeId} {pos : String} {aft : Array Edge} {T e sz by_ : Nat} {i : TypeInfo} {z : Value} {x y : Operand} {sv : Value} {n0 : Nat} {xs vs : List Value} {Hs H' : SH} {ad : Option Addr} {m1 mc d : Nat}
  (hT : P.underlying T = some (.slice e)) (hi : P.info? e = some i) (hz : i.zero = some z) (hsz : i.size = sz) (hby : i.bytes = by_) (hzs : z.cells.size = sz)
  (hx : ev fr x = some sv) (hy : ev fr y = some (.slice ad m1 mc)) (hown : Own e sz sv n0 xs Hs) (hperm : H.Perm (Hs ++ H'))
  (hsrc : 0 < m1 → ∃ a, ad = some a ∧ ∀ w, HF c.w0 c.D H w → ∀ j u, vs[j]? = some u → w.cell? (a.add j) = some u) (hvl : vs.length = m1 * sz) (h1 : ∀ u ∈ vs, u.oneCell' = true) (hbd : (n0 + m1) * by_ ≤ 140737488355328) (h63 : n0 + m1 ≤ 9223372036854775807)
  (hd : Nat.blt d n = true)
  (hk : ∀ sv' Hs', Own e sz sv' (n0 + m1) (xs ++ vs) Hs' → G P c n k ops rest ((d, sv') :: fr) (H' ++ Hs')) :
  G P c n k ops (⟨some d, .call ⟨.builtin .append, #[x, y], #[T, T]⟩, ty, pos, aft, none⟩ :: rest) fr H := by
 rcases Nat.eq_zero_or_pos m1 with h0 | h0
 ·subst h0
  have hv : vs = [] := List.length_eq_zero_iff.1 (by omega)
  subst hv
  obtain ⟨ad1, cp1, rfl, hle⟩ : ∃ ad1 cp1, sv = .slice ad1 n0 cp1 ∧ n0 ≤ cp1 := by
   cases hown with
   | nil => exact ⟨none, 0, rfl, Nat.le_refl _⟩
   | row hn hc hle => exact ⟨_, _, rfl, hle⟩
  have hk' := hk _ _ (by rw [Nat.add_zero, List.append_nil]; exact hown)
  refine G.v (V.app0 hT hi hz hx hy hle) hd ?_
  intro hf a w ha hw
  exact hk' hf a w ha (hw.perm (hperm.trans List.perm_append_comm))
 ·obtain ⟨a, rfl, hs⟩ := hsrc h0
  exact G.app hT hi hz hsz hby hzs hx hy hown hperm hs hvl h1 h0 hbd h63 hd hk
theorem rtT_snoc {l : List Prt} {j : Nat} {p : Prt} (h : l[j]? = some p) : rtT (l.take (j + 1)) = rtT (l.take j) ++ rtP p := by
 rw [take_snoc h]; simp [rtT]
theorem rtT_take_le {l : List Prt} (j : Nat) : (rtT (l.take j)).length ≤ (rtT l).length := by
 have : rtT l = rtT (l.take j) ++ rtT (l.drop j) := by unfold rtT; rw [← List.flatMap_append, List.take_append_drop]
 rw [this, List.length_append]; omega
theorem f24_any (w : World) (l : List Prt) (sv : Value) (hsv : Prts w sv l) (hlen : (rtT l).length ≤ 1000000) (hll : l.length ≤ 1000000) : Calls Try.prog 24 #[sv] w fun e w' => e = .returned (S (rtT l)) ∧ HF w (fun _ => False) [] w' := by
 refine enter (fun _ => False) [] Try.func24 rfl Try.ntmps24 rfl rfl (HF.start w _) fun c hc => ?_
 subst hc
 obtain ⟨ad, cp, rfl, hcp, hc⟩ := hsv
 refine GC.seq ?_
 refine GC.reg ?_
 refine G.m2 ?_
 refine G.nil ?_
 refine GC.seq ?_
 refine GC.reg ?_
 refine G.m2 ?_
 refine G.nil ?_
 refine GC.seq ?_
 refine GC.seq ?_
 refine GC.reg ?_
 refine G.m1 ?_
 refine G.v (V.lenL Try.underlying35 rfl) rfl ?_
 refine G.m1 ?_
 refine G.nil ?_
 refine GC.block ?_
 refine GC.loopJ (fun N fr' H' => ∃ j, j + N = l.length ∧ Sub [(3, S (rtT (l.take j))), (6, .slice ad l.length cp), (7, I (l.length : Nat)), (8, I (j : Nat))] fr' ∧ H' = []) l.length
  ⟨0, by omega, .of rfl, rfl⟩ ?_
 rintro N fr' H' ⟨j, hj, hs2, rfl⟩ ih
 refine GC.weak hs2 ?_
 clear hs2
 refine GC.seq ?_
 refine GC.reg ?_
 refine G.v (V.lt rfl rfl) rfl ?_
 refine G.nil ?_
 refine GC.seq ?_
 refine GC.condD rfl (fun h9 => ?_) (fun h9 => ?_)
 ·refine GC.skip ?_
  refine GC.seq ?_
  refine GC.block ?_
  refine GC.seq ?_
  have hjl : j < l.length := by omega
  obtain ⟨p, hp⟩ : ∃ p, l[j]? = some p := ⟨_, List.getElem?_eq_getElem hjl⟩
  obtain ⟨b, o, rfl, hc1, hc2⟩ := hc j p hp
  have hsn := rtT_snoc hp
  have hle := rtT_take_le (l := l) (j + 1)
  rw [hsn, List.length_append] at hle
  unfold rtP at hsn hle
  rw [List.length_append] at hle
  refine GC.reg ?_
  refine G.v (V.ia (i := j) Try.underlying35 Try.sizeOf50 rfl rfl hjl) rfl ?_
  refine G.v (V.ldAC (s := 2) (cs := prV p) Try.isAgg50 Try.sizeOf50 rfl (cells2 hc1 hc2) rfl id) rfl ?_
  refine G.al Try.zeroValue50 rfl rfl (fun pb hpb => ?_)
  refine G.stA (cs := prV p) Try.sizeOf50 rfl rfl (by simp [prV, Value.oneCell']) .z rfl ?_
  refine G.nil ?_
  refine GC.seq ?_
  refine GC.seq ?_
  refine GC.reg ?_
  refine G.v (V.fa F50_0 rfl) rfl ?_
  refine G.v (V.ld (b := pb) (off := 0 + 0) (wf := true) (l := prV p) (T := 50) (fz := (0, 0)) (v := .int .u8 (p.k.toNat : Int)) Try.isAgg5 rfl (.head _) rfl) rfl ?_
  refine G.nil ?_
  refine GC.block ?_
  refine GC.seq ?_
  refine GC.reg ?_
  refine G.v (V.eqI rfl rfl) rfl ?_
  refine G.m2 ?_
  refine G.nil ?_
  refine GC.join (fun fr' H' => Sub [(3, S (rtT (l.take j) ++ (if p.k.toNat = 1 then [58] else if p.k.toNat = 2 then [42] else []))), (5, Pt pb 0), (6, .slice (some ⟨b, o, none⟩) l.length cp), (7, I (l.length : Nat)), (8, I (j : Nat))] fr' ∧ H' = [⟨pb, true, .row (prV p) 50 (0, 0)⟩]) (fun J14 => ?_) ?_
  ·refine GC.condD rfl (fun h14 => ?_) (fun h14 => ?_)
   ·refine GC.reg ?_
    refine G.m1 ?_
    refine G.v (V.cat rfl rfl (by simp; omega)) rfl ?_
    refine G.m2 ?_
    refine G.nil ?_
    refine J14 _ _ ⟨?_, rfl⟩
    rw [if_pos (by omega)]
    exact .of rfl
   refine GC.seq ?_
   refine GC.reg ?_
   refine G.v (V.eqI rfl rfl) rfl ?_
   refine G.m2 ?_
   refine G.nil ?_
   refine GC.condD rfl (fun h18 => ?_) (fun h18 => ?_)
   ·refine GC.reg ?_
    refine G.m1 ?_
    refine G.v (V.cat rfl rfl (by simp; omega)) rfl ?_
    refine G.m2 ?_
    refine G.nil ?_
    refine J14 _ _ ⟨?_, rfl⟩
    rw [if_neg (by omega), if_pos (by omega)]
    exact .of rfl
   refine GC.skip ?_
   refine J14 _ _ ⟨?_, rfl⟩
   rw [if_neg (by omega), if_neg (by omega), List.append_nil]
   exact .of rfl
  rintro fr' H' ⟨hs4, rfl⟩
  refine GC.weak hs4 ?_
  clear hs4
  refine GC.inBlock ?_
  refine GC.reg ?_
  refine G.m1 ?_
  refine G.v (V.fa F50_1 rfl) rfl ?_
  refine G.v (V.ld (b := pb) (off := 0 + 1) (wf := true) (l := prV p) (T := 50) (fz := (0, 0)) (v := S p.nm) Try.isAgg9 rfl (.head _) rfl) rfl ?_
  refine G.v (V.cat rfl rfl (by rw [List.length_append]; omega)) rfl ?_
  refine G.m2 ?_
  refine G.nil ?_
  refine GC.inBlock ?_
  refine GC.reg ?_
  refine G.v (V.addI (r := ((j + 1 : Nat) : Int)) rfl rfl rfl (by omega) (by omega)) rfl ?_
  refine G.m1 ?_
  refine G.nil ?_
  refine GC.turn (H' := []) (fun w1 h1 => h1.sub (List.nil_sublist _)) ?_
  refine ih (N - 1) _ _ (by omega) ⟨j + 1, by omega, ?_, rfl⟩
  rw [hsn, ← List.append_assoc]
  exact .of rfl
 refine GC.exit rfl ?_
 refine GC.seq ?_
 refine GC.reg ?_
 refine G.m1 ?_
 refine G.m2 ?_
 refine G.nil ?_
 have hje : j = l.length := by omega
 refine GC.ret1 rfl rfl fun w' hw' => ⟨?_, hw'⟩
 rw [hje, List.take_length]
theorem f23_any (w : World) (l : List (List Prt)) (sv : Value) (hsv : Tbl w sv l) (hlen : ∀ r ∈ l, (rtT r).length ≤ 1000000 ∧ r.length ≤ 1000000) (hll : l.length ≤ 1000000) : Calls Try.prog 23 #[sv] w fun e w' => ∃ kv Hs, e = .returned kv ∧ Own 9 1 kv l.length ((l.map rtT).map S) Hs ∧ HF w (fun _ => False) Hs w' := by
 refine enter (fun _ => False) [] Try.func23 rfl Try.ntmps23 rfl rfl (HF.start w _) fun c hc => ?_
 subst hc
 obtain ⟨ad, cp, rfl, hcp, hc⟩ := hsv
 refine GC.seq ?_
 refine GC.reg ?_
 refine G.m2 ?_
 refine G.nil ?_
 refine GC.seq ?_
 refine GC.reg ?_
 refine G.m2 ?_
 refine G.nil ?_
 refine GC.seq ?_
 refine GC.seq ?_
 refine GC.reg ?_
 refine G.m1 ?_
 refine G.v (V.lenL Try.underlying34 rfl) rfl ?_
 refine G.m1 ?_
 refine G.nil ?_
 refine GC.block ?_
 refine GC.loopJ (fun N fr' H' => ∃ j kv Hs, j + N = l.length ∧ Own 9 1 kv j (((l.take j).map rtT).map S) Hs ∧ Sub [(3, kv), (6, .slice ad l.length cp), (7, I (l.length : Nat)), (8, I (j : Nat))] fr' ∧ Hs = H') l.length
  ⟨0, .slice none 0 0, [], by omega, Own.nil, .of rfl, rfl⟩ ?_
 rintro N fr' H' ⟨j, kv, Hs, hj, hown, hs2, rfl⟩ ih
 refine GC.weak hs2 ?_
 clear hs2
 refine GC.seq ?_
 refine GC.reg ?_
 refine G.v (V.lt rfl rfl) rfl ?_
 refine G.nil ?_
 refine GC.seq ?_
 refine GC.condD rfl (fun h9 => ?_) (fun h9 => ?_)
 ·refine GC.skip ?_
  refine GC.seq ?_
  refine GC.block ?_
  refine GC.seq ?_
  have hjl : j < l.length := by omega
  obtain ⟨r, hr⟩ : ∃ p, l[j]? = some p := ⟨_, List.getElem?_eq_getElem hjl⟩
  obtain ⟨b, o, rv, rfl, hc1, hc2⟩ := hc j r hr
  obtain ⟨hrl, hrl2⟩ := hlen r (List.mem_of_getElem? hr)
  refine GC.reg ?_
  refine G.v (V.ia (i := j) Try.underlying34 Try.sizeOf35 rfl rfl hjl) rfl ?_
  refine G.v (V.ldC (v := rv) Try.isAgg35 rfl (by rw [Nat.mul_one]; exact hc1) id) rfl ?_
  refine G.m2 ?_
  refine G.nil ?_
  refine GC.reg ?_
  refine G.m1 ?_
  refine G.m1 ?_
  refine G.callP (v := S (rtT r)) Try.call24 rfl rfl (fun w1 hw1 => f24_any w1 r rv (hc2.old hw1) hrl hrl2) ?_
  refine G.bs (BS.one Try.underlying26 Try.sizeOf9 Try.zeroValue9 (v := S (rtT r)) rfl) rfl rfl (fun sb hsb => ?_)
  refine G.app (i := Try.t9) (sz := 1) (by_ := 16) Try.underlying26 rfl rfl rfl rfl rfl rfl rfl hown (H' := [⟨sb, true, .row [S (rtT r)] 9 (0, 0)⟩]) (List.perm_append_comm (l₁ := ([⟨sb, true, .row [S (rtT r)] 9 (0, 0)⟩] : SH))) (src_row (vs := [S (rtT r)]) (r := []) (.head _)) rfl (by simp [Value.oneCell']) (by omega) (by omega) (by omega) rfl (fun kv2 Hs2 hown2 => ?_)
  refine G.m2 ?_
  refine G.nil ?_
  refine GC.inBlock ?_
  refine GC.reg ?_
  refine G.v (V.addI (r := ((j + 1 : Nat) : Int)) rfl rfl rfl (by omega) (by omega)) rfl ?_
  refine G.m1 ?_
  refine G.nil ?_
  refine GC.turn (H' := Hs2) (fun w1 h1 => h1.sub (List.sublist_cons_self _ _)) ?_
  refine ih (N - 1) _ _ (by omega) ⟨j + 1, kv2, Hs2, by omega, ?_, .of rfl, rfl⟩
  rw [take_snoc hr, List.map_append, List.map_append]
  exact hown2
 refine GC.exit rfl ?_
 refine GC.seq ?_
 refine GC.reg ?_
 refine G.m1 ?_
 refine G.m2 ?_
 refine G.nil ?_
 have hje : j = l.length := by omega
 subst hje
 rw [List.take_length] at hown
 exact GC.ret1 rfl rfl fun w' hw' => ⟨_, _, rfl, hown, hw'⟩
end Go.Proofs

/- A row of texts turned round. Printed by wip/mk_gn8.py. -/
set_option maxRecDepth 20000
namespace Go.Proofs
open Go Bw
open Gt
/-- a row turned round up to a place -/
def Half (xs zs : List Value) (i : Nat) : Prop := zs.length = xs.length ∧ ∀ k : Nat, zs[k]? = if k < i ∨ xs.length - 1 - i < k then xs.reverse[k]? else xs[k]?
theorem Half.start (xs : List Value) : Half xs xs 0 := ⟨rfl, fun k => by
 split
 ·rename_i h
  rw [List.getElem?_eq_none (by omega), List.getElem?_eq_none (by rw [List.length_reverse]; omega)]
 ·rfl⟩
theorem Half.step {xs zs : List Value} {i : Nat} (h : Half xs zs i) (hi : (i : Int) < (xs.length : Int) - 1 - i) : ∃ u v, zs[i]? = some u ∧ zs[xs.length - 1 - i]? = some v ∧ Half xs ((zs.set i v).set (xs.length - 1 - i) u) (i + 1) := by
 obtain ⟨u, hu⟩ : ∃ u, xs[i]? = some u := ⟨_, List.getElem?_eq_getElem (by omega)⟩
 obtain ⟨v, hv⟩ : ∃ v, xs[xs.length - 1 - i]? = some v := ⟨_, List.getElem?_eq_getElem (by omega)⟩
 refine ⟨u, v, by rw [h.2, if_neg (by omega)]; exact hu, by rw [h.2, if_neg (by omega)]; exact hv, by simp [h.1], fun k => ?_⟩
 have hl := h.1
 rw [List.getElem?_set, List.getElem?_set, List.length_set]
 by_cases h1 : xs.length - 1 - i = k
 ·subst h1
  rw [if_pos rfl, if_pos (by omega), if_pos (.inr (by omega)), List.getElem?_reverse (by omega)]
  have : xs.length - 1 - (xs.length - 1 - i) = i := by omega
  rw [this]; exact hu.symm
 ·rw [if_neg h1]
  by_cases h2 : i = k
  ·subst h2
   rw [if_pos rfl, if_pos (by omega), if_pos (.inl (by omega)), List.getElem?_reverse (by omega)]
   exact hv.symm
  ·rw [if_neg h2, h.2 k]
   by_cases h3 : k < i ∨ xs.length - 1 - i < k
   ·rw [if_pos h3, if_pos (by omega)]
   ·rw [if_neg h3, if_neg (by omega)]
end Go.Proofs

/- Clean routes as tokens of the tree. No program in sight. -/
namespace Gt
open Gs Tr
def tokP (p : Prt) : List Tok := if p.k.toNat = 0 then bs p.nm else if p.k.toNat = 1 then [.P p.nm] else [.A p.nm]
def tokT (l : List Prt) : List Tok := l.flatMap tokP
theorem txt_tokP {p : Prt} (h : p.k.toNat ≤ 2) : txt (tokP p) = rtP p := by
  unfold tokP rtP
  by_cases h0 : p.k.toNat = 0
  · rw [if_pos h0, if_neg (by omega), if_neg (by omega), txt_bs]; rfl
  · rw [if_neg h0]
    by_cases h1 : p.k.toNat = 1
    · rw [if_pos h1, if_pos h1]; simp [txt]
    · rw [if_neg h1, if_neg h1, if_pos (by omega)]; simp [txt]
theorem txt_tokT : ∀ {l : List Prt}, (∀ p ∈ l, p.k.toNat ≤ 2) → txt (tokT l) = rtT l
  | [], _ => rfl
  | p :: l, h => by
    have e1 : tokT (p :: l) = tokP p ++ tokT l := by simp [tokT]
    have e2 : rtT (p :: l) = rtP p ++ rtT l := by simp [rtT]
    rw [e1, e2, txt_app, txt_tokP (h p (.head _)), txt_tokT fun q hq => h q (.tail _ hq)]
theorem Clean.k2 {l : List Prt} (h : Clean l) : ∀ p ∈ l, p.k.toNat ≤ 2 := fun p hp => by
  obtain ⟨j, hj⟩ := List.getElem?_of_mem hp
  exact (h.2.2.2 j p hj).2.1
theorem plain_of {c : UInt8} (h : plainN c) : plainB c ∧ c ≠ 92 := by
  refine ⟨⟨fun e => h.1 (by rw [e]; rfl), fun e => h.2.1 (by rw [e]; rfl)⟩, fun e => h.2.2 (by rw [e]; rfl)⟩
theorem wordc_of {c : UInt8} (h : wordc c) : c ≠ 47 ∧ c ≠ 58 ∧ c ≠ 42 ∧ c ≠ 92 := by
  refine ⟨fun e => ?_, fun e => ?_, fun e => ?_, fun e => ?_⟩ <;> subst e <;> revert h <;> unfold wordc <;> decide
theorem word_of {s : List UInt8} (h : wordN s) : word s := ⟨h.2.1, fun c hc => ⟨(wordc_of (h.1 c hc)).1, (wordc_of (h.1 c hc)).2.1, (wordc_of (h.1 c hc)).2.2.1⟩⟩
theorem Ok_text : ∀ (t : List UInt8) (s : List Tok), (∀ c ∈ t, plainB c) → t ≠ [] → (Ok (t.getLast? == some 47) s) → ∀ sl, Ok sl (bs t ++ s)
  | [], s, _, h, _ => absurd rfl h
  | [c], s, hp, _, hs => fun sl => by
    refine ⟨hp c (.head _), ?_⟩
    have e : ([c].getLast? == some 47) = (c == 47) := by
      simp only [List.getLast?_singleton]
      by_cases h : c = 47 <;> simp [h]
    rw [e] at hs
    exact hs
  | c :: d :: t, s, hp, _, hs => fun sl => ⟨hp c (.head _), Ok_text (d :: t) s (fun x hx => hp x (.tail _ hx)) (by simp) (by rw [List.getLast?_cons_cons] at hs; exact hs) _⟩
theorem Ok_true {s : List Tok} : ∀ {b : Bool}, b = true → Ok true s → Ok b s := fun h hs => h ▸ hs
theorem drop_at {l : List Prt} {j : Nat} {p : Prt} (h : l[j]? = some p) : l.drop j = p :: l.drop (j + 1) := by
  rw [List.drop_eq_getElem_cons (List.getElem?_eq_some_iff.1 h).1]
  congr 1
  exact (List.getElem?_eq_some_iff.1 h).2
theorem Clean.ok {l : List Prt} (h : Clean l) : ∀ (n j : Nat), n + j = l.length → (j % 2 = 0 → ∀ sl, Ok sl (tokT (l.drop j))) ∧ (j % 2 = 1 → Ok true (tokT (l.drop j)))
  | 0, j, hj => by
    rw [List.drop_of_length_le (by omega)]
    exact ⟨fun _ sl => by cases sl <;> trivial, fun _ => trivial⟩
  | n + 1, j, hj => by
    obtain ⟨p, hp⟩ : ∃ p, l[j]? = some p := ⟨_, List.getElem?_eq_getElem (by omega)⟩
    have hop := h.2.2.2 j p hp
    have ih := Clean.ok h n (j + 1) (by omega)
    have e1 : tokT (l.drop j) = tokP p ++ tokT (l.drop (j + 1)) := by rw [drop_at hp]; simp [tokT]
    refine ⟨fun h0 => ?_, fun h0 => ?_⟩
    · have hk : p.k.toNat = 0 := hop.1.2 h0
      have ht := hop.2.2.2.1 hk
      have e2 : tokP p = bs p.nm := if_pos hk
      rw [e1, e2]
      refine Ok_text _ _ (fun c hc => (plain_of (ht.2.2.2.2 c hc)).1) ht.1 ?_
      by_cases hn : j + 1 < l.length
      · obtain ⟨q, hq⟩ : ∃ q, l[j + 1]? = some q := ⟨_, List.getElem?_eq_getElem hn⟩
        have hoq := h.2.2.2 (j + 1) q hq
        have hkq : q.k.toNat ≠ 0 := fun e => by have := hoq.1.1 e; omega
        obtain ⟨t, ht2⟩ := (hoq.2.2.2.2 hkq).2.1 p (by rw [Nat.add_sub_cancel]; exact hp)
        refine Ok_true ?_ (ih.2 (by omega))
        rw [← ht2, List.getLast?_append]
        rfl
      · rw [List.drop_of_length_le (by omega)]
        cases (p.nm.getLast? == some 47) <;> trivial
    · have hk : p.k.toNat ≠ 0 := fun e => by have := hop.1.1 e; omega
      have hw := hop.2.2.2.2 hk
      rw [e1]
      by_cases hk1 : p.k.toNat = 1
      · have e2 : tokP p = [.P p.nm] := by unfold tokP; rw [if_neg hk, if_pos hk1]
        rw [e2]
        refine ⟨rfl, word_of hw.1, ?_, ih.1 (by omega) false⟩
        by_cases hn : j + 1 < l.length
        · obtain ⟨q, hq⟩ : ∃ q, l[j + 1]? = some q := ⟨_, List.getElem?_eq_getElem hn⟩
          have hoq := h.2.2.2 (j + 1) q hq
          have hkq : q.k.toNat = 0 := hoq.1.2 (by omega)
          have hhd := (hoq.2.2.2.1 hkq).2.2.2.1 (by omega)
          have e3 : tokP q = bs q.nm := if_pos hkq
          have e4 : tokT (l.drop (j + 1)) = tokP q ++ tokT (l.drop (j + 1 + 1)) := by rw [drop_at hq]; simp [tokT]
          refine .inr ?_
          rw [e4, e3]
          cases hqn : q.nm with
          | nil => rw [hqn] at hhd; cases hhd
          | cons c r => rw [hqn] at hhd; cases hhd; exact ⟨bs r ++ tokT (l.drop (j + 1 + 1)), rfl⟩
        · rw [List.drop_of_length_le (by omega)]; exact .inl rfl
      · have e2 : tokP p = [.A p.nm] := by unfold tokP; rw [if_neg hk, if_neg hk1]
        have hend := hop.2.2.1 (by have := hop.2.1; omega)
        rw [e2, List.drop_of_length_le (by omega)]
        exact ⟨rfl, word_of hw.1, rfl⟩
theorem Clean.good {l : List Prt} (h : Clean l) : Good (tokT l) := by
  have h0 := (Clean.ok h l.length 0 (by omega)).1 rfl false
  rw [List.drop_zero] at h0
  refine ⟨h0, ?_⟩
  obtain ⟨p, hp⟩ : ∃ p, l[0]? = some p := ⟨_, List.getElem?_eq_getElem (List.length_pos_iff.2 h.1)⟩
  obtain ⟨hk, r, hr⟩ := h.2.2.1 p hp
  have e1 : tokT (l.drop 0) = tokP p ++ tokT (l.drop (0 + 1)) := by rw [drop_at hp]; simp [tokT]
  have e2 : tokP p = bs p.nm := if_pos hk
  rw [List.drop_zero, e2, ← hr] at e1
  exact ⟨_, e1⟩
theorem Clean.part {l : List Prt} (h : Clean l) : ∀ p ∈ l, (∀ c ∈ rtP p, c ≠ 92) ∧ (rtP p).length ≤ 101 := fun p hp => by
  obtain ⟨j, hj⟩ := List.getElem?_of_mem hp
  have hop := h.2.2.2 j p hj
  unfold rtP
  by_cases hk : p.k.toNat = 0
  · have ht := hop.2.2.2.1 hk
    rw [if_neg (by omega), if_neg (by omega), List.nil_append]
    exact ⟨fun c hc => (plain_of (ht.2.2.2.2 c hc)).2, by omega⟩
  · have hw := (hop.2.2.2.2 hk).1
    refine ⟨fun c hc => ?_, ?_⟩
    · rcases List.mem_append.1 hc with hc | hc
      · split at hc
        · rw [List.mem_singleton.1 hc]; decide
        · split at hc
          · rw [List.mem_singleton.1 hc]; decide
          · cases hc
      · exact (wordc_of (hw.1 c hc)).2.2.2
    · rw [List.length_append]
      have := hw.2.2
      split
      · simp; omega
      · split <;> simp <;> omega
theorem Clean.txt {l : List Prt} (h : Clean l) : (rtT l).length ≤ 20000 ∧ ∀ c ∈ rtT l, c ≠ 92 := by
  have key : ∀ m : List Prt, (∀ p ∈ m, p ∈ l) → (rtT m).length ≤ 101 * m.length ∧ ∀ c ∈ rtT m, c ≠ 92 := by
    intro m
    induction m with
    | nil => intro _; exact ⟨by simp [rtT], fun c hc => by cases hc⟩
    | cons p m ih =>
      intro hm
      obtain ⟨h1, h2⟩ := ih fun q hq => hm q (.tail _ hq)
      obtain ⟨h3, h4⟩ := h.part p (hm p (.head _))
      have e2 : rtT (p :: m) = rtP p ++ rtT m := by simp [rtT]
      rw [e2, List.length_append, List.length_cons]
      exact ⟨by omega, fun c hc => (List.mem_append.1 hc).elim (h3 c) (h2 c)⟩
  obtain ⟨h1, h2⟩ := key l fun p hp => hp
  have := h.2.1
  exact ⟨by omega, h2⟩
/-! ### apart -/
def tk1 (t : Tk) : Tok := if t.k.toNat = 0 then .b t.c else if t.k.toNat = 1 then .P t.nm else .A t.nm
def TkV (t : Tk) : Prop := (t.k.toNat = 0 ∧ t.nm = []) ∨ (t.k.toNat ≠ 0 ∧ t.k.toNat ≤ 2 ∧ t.c = 0)
theorem tk1_inj {x y : Tk} (hx : TkV x) (hy : TkV y) (h : tk1 x = tk1 y) : x = y := by
  obtain ⟨k, c, n⟩ := x
  obtain ⟨k2, c2, n2⟩ := y
  unfold tk1 at h
  unfold TkV at hx hy
  simp only at h hx hy
  have hkk : k.toNat = k2.toNat → k = k2 := fun e => UInt8.toNat_inj.1 e
  by_cases h0 : k.toNat = 0
  · rw [if_pos h0] at h
    by_cases h02 : k2.toNat = 0
    · rw [if_pos h02] at h
      cases h
      rcases hx with hx | hx
      · rcases hy with hy | hy
        · rw [hkk (by omega), hx.2, hy.2]
        · exact absurd h02 hy.1
      · exact absurd h0 hx.1
    · rw [if_neg h02] at h
      split at h <;> cases h
  · rw [if_neg h0] at h
    by_cases h02 : k2.toNat = 0
    · rw [if_pos h02] at h
      split at h <;> cases h
    · rw [if_neg h02] at h
      rcases hx with hx | hx
      · exact absurd hx.1 h0
      rcases hy with hy | hy
      · exact absurd hy.1 h02
      by_cases h1 : k.toNat = 1
      · rw [if_pos h1] at h
        split at h
        · rename_i h12
          cases h; rw [hkk (by omega), hx.2.2, hy.2.2]
        · cases h
      · rw [if_neg h1] at h
        split at h
        · cases h
        · cases h; rw [hkk (by omega), hx.2.2, hy.2.2]
theorem parts_tk {x y : Tk} (hx : TkV x) (hy : TkV y) (_hne : x ≠ y) : parts (tk1 x) (tk1 y) = true ↔ x.k.toNat ≠ 2 ∧ y.k.toNat ≠ 2 ∧ ¬ (x.k.toNat = 1 ∧ y.k.toNat = 1) := by
  have ux : x.k.toNat ≤ 2 := by rcases hx with h | h <;> omega
  have uy : y.k.toNat ≤ 2 := by rcases hy with h | h <;> omega
  unfold tk1
  by_cases h0 : x.k.toNat = 0
  · rw [if_pos h0]
    by_cases h2 : y.k.toNat = 0
    · rw [if_pos h2]; simp [parts]; omega
    · rw [if_neg h2]
      by_cases h3 : y.k.toNat = 1
      · rw [if_pos h3]; simp [parts]; omega
      · rw [if_neg h3]; simp [parts]; omega
  · rw [if_neg h0]
    by_cases h1 : x.k.toNat = 1
    · rw [if_pos h1]
      by_cases h2 : y.k.toNat = 0
      · rw [if_pos h2]; simp [parts]; omega
      · rw [if_neg h2]
        by_cases h3 : y.k.toNat = 1
        · rw [if_pos h3]; simp [parts]; omega
        · rw [if_neg h3]; simp [parts]; omega
    · rw [if_neg h1]; simp [parts]; omega
theorem noA_tk {x : Tk} (hx : TkV x) (s : List Tok) : noA (tk1 x :: s) = true ↔ x.k.toNat ≠ 2 := by
  have ux : x.k.toNat ≤ 2 := by rcases hx with h | h <;> omega
  unfold tk1
  by_cases h0 : x.k.toNat = 0
  · rw [if_pos h0]; simp [noA]; omega
  · rw [if_neg h0]
    by_cases h1 : x.k.toNat = 1
    · rw [if_pos h1]; simp [noA]; omega
    · rw [if_neg h1]; simp [noA]; omega
theorem apart_tk : ∀ {x y : List Tk}, (∀ t ∈ x, TkV t) → (∀ t ∈ y, TkV t) → (ApartN x y ↔ apart (x.map tk1) (y.map tk1) = true)
  | [], [], _, _ => by simp [ApartN, apart]
  | [], b :: r, _, hy => by
    show _ ↔ noA (tk1 b :: r.map tk1) = true
    rw [noA_tk (hy b (.head _))]; rfl
  | a :: s, [], hx, _ => by
    show _ ↔ noA (tk1 a :: s.map tk1) = true
    rw [noA_tk (hx a (.head _))]; rfl
  | a :: s, b :: r, hx, hy => by
    have ih := apart_tk (x := s) (y := r) (fun t ht => hx t (.tail _ ht)) (fun t ht => hy t (.tail _ ht))
    show ((a = b ∧ ApartN s r) ∨ (a ≠ b ∧ _)) ↔ (if tk1 a = tk1 b then apart (s.map tk1) (r.map tk1) else parts (tk1 a) (tk1 b)) = true
    by_cases hab : a = b
    · rw [if_pos (by rw [hab]), ← ih]
      exact ⟨fun h => h.elim (fun h => h.2) (fun h => absurd hab h.1), fun h => .inl ⟨hab, h⟩⟩
    · rw [if_neg fun e => hab (tk1_inj (hx a (.head _)) (hy b (.head _)) e), parts_tk (hx a (.head _)) (hy b (.head _)) hab]
      exact ⟨fun h => h.elim (fun h => absurd h.1 hab) (fun h => h.2), fun h => .inr ⟨hab, h⟩⟩
theorem tokP_tk {p : Prt} : tokP p = (tkP p).map tk1 := by
  unfold tokP tkP
  by_cases h0 : p.k.toNat = 0
  · rw [if_pos h0, if_pos h0]
    simp [bs, tk1]
  · rw [if_neg h0, if_neg h0]
    simp [tk1, h0]
    split <;> rfl
theorem tokT_tk (l : List Prt) : tokT l = (tks l).map tk1 := by
  unfold tokT tks
  rw [List.map_flatMap]
  congr 1
  funext p
  exact tokP_tk
theorem tks_V {l : List Prt} (h : ∀ p ∈ l, p.k.toNat ≤ 2) : ∀ t ∈ tks l, TkV t := fun t ht => by
  obtain ⟨p, hp, htp⟩ := List.mem_flatMap.1 ht
  unfold tkP at htp
  split at htp
  · obtain ⟨c, _, rfl⟩ := List.mem_map.1 htp
    exact .inl ⟨rfl, rfl⟩
  · rw [List.mem_singleton.1 htp]
    rename_i h0
    exact .inr ⟨h0, h p hp, rfl⟩
theorem Clean.apart {a b : List Prt} (ha : Clean a) (hb : Clean b) : ApartN (tks a) (tks b) ↔ apart (tokT a) (tokT b) = true := by
  rw [tokT_tk, tokT_tk]
  exact apart_tk (tks_V ha.k2) (tks_V hb.k2)
/-! ### tables -/
theorem TableN.clean {l : List (List Prt)} (h : TableN l) : ∀ r ∈ l, Clean r := fun r hr => by
  obtain ⟨j, hj⟩ := List.getElem?_of_mem hr
  exact (h j r hj).1
theorem TableN.pw {l : List (List Prt)} (h : TableN l) : (l.map tokT).Pairwise (fun a b => Gt.apart a b = true) := by
  rw [List.pairwise_map, List.pairwise_iff_getElem]
  intro i j hi hj hij
  have h1 := h j l[j] (List.getElem?_eq_getElem hj)
  have h2 := h i l[i] (List.getElem?_eq_getElem hi)
  rw [apart_comm]
  exact (h1.1.apart h2.1).1 (h1.2 l[i] (List.mem_of_getElem? (i := i) (by rw [List.getElem?_take_of_lt hij]; exact List.getElem?_eq_getElem hi)))
theorem addAll_perm {rs ts : List (List Tok)} (hg : ∀ r ∈ rs, Good r) (hp : rs.Pairwise (fun a b => Gt.apart a b = true)) (h : ts.Perm rs) : ∃ t, addAll new (ts.map Gt.txt) 0 = .inl t := by
  have hp2 : ts.Pairwise (fun a b => Gt.apart a b = true) := (h.pairwise_iff (fun {x y} hxy => by rw [apart_comm]; exact hxy)).2 hp
  obtain ⟨t, h1, _⟩ := addAll_ok ts new (fun _ => none) 0 (.inl ⟨rfl, rfl⟩) (fun r hr => hg r (h.mem_iff.1 hr)) (fun r _ s v hs => by cases hs) hp2
  exact ⟨t, h1⟩
end Gt

/- FnGinAdd. Printed by wip/mk_gn9.py. -/
set_option maxRecDepth 20000
namespace Go.Proofs
open Go Bw
open Gt
theorem _root_.Bw.Own.txts {w0 w : World} {D : Nat → Prop} {H Hs : SH} {sv : Value} {l : List (List UInt8)} {n : Nat} (ho : Own 9 1 sv n (l.map S) Hs) (hn : n = l.length) (hw : HF w0 D H w) (hsub : ∀ x ∈ Hs, x ∈ H) : Txts w sv l := by
 subst hn
 generalize hn : l.length = n at ho
 generalize hx : l.map S = xs at ho
 cases ho with
 | nil => exact ⟨none, 0, by rw [hn], fun j x hj => by have := (List.getElem?_eq_some_iff.1 hj).1; omega⟩
 | @row b n cap xs spare h1 h2 h3 =>
  subst hx
  refine ⟨some ⟨b, 0, none⟩, cap, by rw [hn], fun j x hj => ⟨b, 0, rfl, ?_⟩⟩
  exact cell_row hw (hsub _ (.head _)) (by rw [nth_eq, Nat.zero_add, List.getElem?_append_left (by rw [List.length_map]; exact (List.getElem?_eq_some_iff.1 hj).1), List.getElem?_map, hj]; rfl)
theorem _root_.Bw.Own.head {e sz n : Nat} {v : Value} {xs : List Value} {Hs : SH} (h : Own e sz v n xs Hs) {ad : Option Addr} {cp : Nat} (hv : v = .slice ad n cp) (k : Nat) (hk : 0 < k) (hkn : k ≤ n) (w0 : World) (D : Nat → Prop) (H : SH) (hsub : ∀ x ∈ Hs, x ∈ H) : ∃ a, ad = some a ∧ ∀ w, HF w0 D H w → ∀ (j : Nat) u, (xs.take k)[j]? = some u → w.cell? (a.add j) = some u := by
 cases h with
 | nil => omega
 | @row b n cap xs spare hn hc hle =>
  cases hv
  refine ⟨_, rfl, fun w hw j u hj => ?_⟩
  have hjx : xs[j]? = some u := by
   rw [List.getElem?_take] at hj
   split at hj
   ·exact hj
   ·cases hj
  have := cell_row hw (hsub _ (.head _)) (off := j) (v := u) (by rw [nth_eq, List.getElem?_append_left (List.getElem?_eq_some_iff.1 hjx).1]; exact hjx)
  by_cases h0 : j = 0
  ·subst h0; simpa [Addr.add] using this
  ·simpa [Addr.add, h0] using this
end Go.Proofs

/- FnGinRefused. Printed by wip/mk_gn10.py. -/
set_option maxRecDepth 20000
namespace Go.Proofs
open Go Bw
open Gt
end Go.Proofs
