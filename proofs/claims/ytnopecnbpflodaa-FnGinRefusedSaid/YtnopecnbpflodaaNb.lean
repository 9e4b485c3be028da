/- Routes as texts, copied and turned round; tables in any order, and one route more, put into a tree. -/
import Derived.Test.YtnopecnbpflodaaNa
/- Routes as texts. Printed by wip/mk_gn7.py. -/
set_option maxRecDepth 20000
namespace Go.Proofs
open Go Bw

open Gt
theorem _root_.Bw.G.appZ {P : Program} {c : Cx} {n : Nat} {k : List Item} {fr : SF} {H : SH} {ops : Array Oper} {rest : List Oper} {ty : TypeId} {pos : String} {aft : Array Edge} {T e sz by_ : Nat} {i : TypeInfo} {z : Value} {x y : Operand} {sv : Value} {n0 : Nat} {xs vs : List Value} {Hs H' : SH} {ad : Option Addr} {m1 mc d : Nat}
    (hT : P.underlying T = some (.slice e)) (hi : P.info? e = some i) (hz : i.zero = some z) (hsz : i.size = sz) (hby : i.bytes = by_) (hzs : z.cells.size = sz)
    (hx : ev fr x = some sv) (hy : ev fr y = some (.slice ad m1 mc)) (hown : Own e sz sv n0 xs Hs) (hperm : H.Perm (Hs ++ H'))
    (hsrc : 0 < m1 → ∃ a, ad = some a ∧ ∀ w, HF c.w0 c.D H w → ∀ j u, vs[j]? = some u → w.cell? (a.add j) = some u) (hvl : vs.length = m1 * sz) (h1 : ∀ u ∈ vs, u.oneCell' = true) (hbd : (n0 + m1) * by_ ≤ 140737488355328) (h63 : n0 + m1 ≤ 9223372036854775807)
    (hd : Nat.blt d n = true)
    (hk : ∀ sv' Hs', Own e sz sv' (n0 + m1) (xs ++ vs) Hs' → G P c n k ops rest ((d, sv') :: fr) (H' ++ Hs')) :
    G P c n k ops (⟨some d, .call ⟨.builtin .append, #[x, y], #[T, T]⟩, ty, pos, aft, none⟩ :: rest) fr H := by
  rcases Nat.eq_zero_or_pos m1 with h0 | h0
  · subst h0
    have hv : vs = [] := List.length_eq_zero_iff.1 (by omega)
    subst hv
    obtain ⟨ad1, cp1, rfl, hle⟩ : ∃ ad1 cp1, sv = .slice ad1 n0 cp1 ∧ n0 ≤ cp1 := by
      cases hown with
      | nil => exact ⟨none, 0, rfl, Nat.le_refl _⟩
      | row hn hc hle => exact ⟨_, _, rfl, hle⟩
    have hk' := hk _ _ (by rw [Nat.add_zero, List.append_nil]; exact hown)
    refine G.v (V.app0 hT hi hz hx hy hle) hd ?_
    intro hf a w ha hw
    exact hk' hf a w ha (hw.perm (hperm.trans List.perm_append_comm))
  · obtain ⟨a, rfl, hs⟩ := hsrc h0
    exact G.app hT hi hz hsz hby hzs hx hy hown hperm hs hvl h1 h0 hbd h63 hd hk
theorem rtT_snoc {l : List Prt} {j : Nat} {p : Prt} (h : l[j]? = some p) : rtT (l.take (j + 1)) = rtT (l.take j) ++ rtP p := by
  rw [take_snoc h]; simp [rtT]
theorem rtT_take_le {l : List Prt} (j : Nat) : (rtT (l.take j)).length ≤ (rtT l).length := by
  have : rtT l = rtT (l.take j) ++ rtT (l.drop j) := by unfold rtT; rw [← List.flatMap_append, List.take_append_drop]
  rw [this, List.length_append]; omega
theorem f24_any (w : World) (l : List Prt) (sv : Value) (hsv : Prts w sv l) (hlen : (rtT l).length ≤ 1000000) (hll : l.length ≤ 1000000) : Calls Try.prog 24 #[sv] w fun e w' => e = .returned (S (rtT l)) ∧ HF w (fun _ => False) [] w' := by
  refine enter (fun _ => False) [] Try.func24 rfl Try.ntmps24 rfl rfl (HF.start w _) fun c hc => ?_
  subst hc
  obtain ⟨ad, cp, rfl, hcp, hc⟩ := hsv
  refine GC.seq ?_
  refine GC.reg ?_  -- region 0, gin.go:64
  refine G.v (V.asg rfl) rfl ?_
  refine G.nil ?_
  refine GC.seq ?_
  refine GC.reg ?_  -- region 1, gin.go:65
  refine G.v (V.asg rfl) rfl ?_
  refine G.nil ?_
  refine GC.seq ?_
  refine GC.seq ?_
  refine GC.reg ?_  -- region 2, gin.go:66
  refine G.v (V.mv rfl) rfl ?_
  refine G.v (V.lenL Try.underlying35 rfl) rfl ?_
  refine G.v (V.mv rfl) rfl ?_
  refine G.nil ?_
  refine GC.block ?_
  refine GC.loopJ (fun N fr' H' => ∃ j, j + N = l.length ∧ Sub [(3, S (rtT (l.take j))), (6, .slice ad l.length cp), (7, I (l.length : Nat)), (8, I (j : Nat))] fr' ∧ H' = []) l.length
    ⟨0, by omega, .cons rfl (.cons rfl (.cons rfl (.cons rfl .nil))), rfl⟩ ?_
  rintro N fr' H' ⟨j, hj, hs2, rfl⟩ ih
  refine GC.weak hs2 ?_
  clear hs2
  refine GC.seq ?_
  refine GC.reg ?_  -- region 3, gin.go:66
  refine G.v (V.lt rfl rfl) rfl ?_
  refine G.nil ?_
  refine GC.seq ?_
  refine GC.condD rfl (fun h9 => ?_) (fun h9 => ?_)
  · refine GC.skip ?_
    refine GC.seq ?_
    refine GC.block ?_
    refine GC.seq ?_
    have hjl : j < l.length := by omega
    obtain ⟨p, hp⟩ : ∃ p, l[j]? = some p := ⟨_, List.getElem?_eq_getElem hjl⟩
    obtain ⟨b, o, rfl, hc1, hc2⟩ := hc j p hp
    have hsn := rtT_snoc hp
    have hle := rtT_take_le (l := l) (j + 1)
    rw [hsn, List.length_append] at hle
    unfold rtP at hsn hle
    rw [List.length_append] at hle
    refine GC.reg ?_  -- region 4, gin.go:66
    refine G.v (V.ia (i := j) Try.underlying35 Try.sizeOf50 rfl rfl hjl) rfl ?_
    refine G.v (V.ldAC (s := 2) (cs := prV p) Try.isAgg50 Try.sizeOf50 rfl (cells2 hc1 hc2) rfl id) rfl ?_
    refine G.al Try.zeroValue50 rfl rfl (fun pb hpb => ?_)
    refine G.stA (cs := prV p) Try.sizeOf50 rfl rfl (by simp [prV, Value.oneCell']) .z rfl ?_
    refine G.nil ?_
    refine GC.seq ?_
    refine GC.seq ?_
    refine GC.reg ?_  -- region 5, gin.go:67
    refine G.v (V.fa F50_0 rfl) rfl ?_
    refine G.v (V.ld (b := pb) (off := 0 + 0) (wf := true) (l := prV p) (T := 50) (fz := (0, 0)) (v := .int .u8 (p.k.toNat : Int)) Try.isAgg5 rfl (.head _) rfl) rfl ?_
    refine G.nil ?_
    refine GC.block ?_
    refine GC.seq ?_
    refine GC.reg ?_  -- region 6, gin.go:68
    refine G.v (V.eqI rfl rfl) rfl ?_
    refine G.v (V.asg rfl) rfl ?_
    refine G.nil ?_
    refine GC.join (fun fr' H' => Sub [(3, S (rtT (l.take j) ++ (if p.k.toNat = 1 then [58] else if p.k.toNat = 2 then [42] else []))), (5, Pt pb 0), (6, .slice (some ⟨b, o, none⟩) l.length cp), (7, I (l.length : Nat)), (8, I (j : Nat))] fr' ∧ H' = [⟨pb, true, .row (prV p) 50 (0, 0)⟩]) (fun J14 => ?_) ?_
    · refine GC.condD rfl (fun h14 => ?_) (fun h14 => ?_)
      · refine GC.reg ?_  -- region 7, gin.go:69
        refine G.v (V.mv rfl) rfl ?_
        refine G.v (V.cat rfl rfl (by simp; omega)) rfl ?_
        refine G.v (V.asg rfl) rfl ?_
        refine G.nil ?_
        refine J14 _ _ ⟨?_, rfl⟩
        rw [if_pos (by omega)]
        exact .cons rfl (.cons rfl (.cons rfl (.cons rfl (.cons rfl .nil))))
      refine GC.seq ?_
      refine GC.reg ?_  -- region 8, gin.go:70
      refine G.v (V.eqI rfl rfl) rfl ?_
      refine G.v (V.asg rfl) rfl ?_
      refine G.nil ?_
      refine GC.condD rfl (fun h18 => ?_) (fun h18 => ?_)
      · refine GC.reg ?_  -- region 9, gin.go:71
        refine G.v (V.mv rfl) rfl ?_
        refine G.v (V.cat rfl rfl (by simp; omega)) rfl ?_
        refine G.v (V.asg rfl) rfl ?_
        refine G.nil ?_
        refine J14 _ _ ⟨?_, rfl⟩
        rw [if_neg (by omega), if_pos (by omega)]
        exact .cons rfl (.cons rfl (.cons rfl (.cons rfl (.cons rfl .nil))))
      refine GC.skip ?_
      refine J14 _ _ ⟨?_, rfl⟩
      rw [if_neg (by omega), if_neg (by omega), List.append_nil]
      exact .cons rfl (.cons rfl (.cons rfl (.cons rfl (.cons rfl .nil))))
    rintro fr' H' ⟨hs4, rfl⟩
    refine GC.weak hs4 ?_
    clear hs4
    refine GC.inBlock ?_
    refine GC.reg ?_  -- region 10, gin.go:73
    refine G.v (V.mv rfl) rfl ?_
    refine G.v (V.fa F50_1 rfl) rfl ?_
    refine G.v (V.ld (b := pb) (off := 0 + 1) (wf := true) (l := prV p) (T := 50) (fz := (0, 0)) (v := S p.nm) Try.isAgg9 rfl (.head _) rfl) rfl ?_
    refine G.v (V.cat rfl rfl (by rw [List.length_append]; omega)) rfl ?_
    refine G.v (V.asg rfl) rfl ?_
    refine G.nil ?_
    refine GC.inBlock ?_
    refine GC.reg ?_  -- region 11, gin.go:66
    refine G.v (V.addI (r := ((j + 1 : Nat) : Int)) rfl rfl rfl (by omega) (by omega)) rfl ?_
    refine G.v (V.mv rfl) rfl ?_
    refine G.nil ?_
    refine GC.turn (H' := []) (fun w1 h1 => h1.sub (List.nil_sublist _)) ?_
    refine ih (N - 1) _ _ (by omega) ⟨j + 1, by omega, ?_, rfl⟩
    rw [hsn, ← List.append_assoc]
    exact .cons rfl (.cons rfl (.cons rfl (.cons rfl .nil)))
  refine GC.exit rfl ?_
  refine GC.seq ?_
  refine GC.reg ?_  -- region 12, gin.go:75
  refine G.v (V.mv rfl) rfl ?_
  refine G.v (V.asg rfl) rfl ?_
  refine G.nil ?_
  have hje : j = l.length := by omega
  refine GC.ret1 rfl rfl fun w' hw' => ⟨?_, hw'⟩
  rw [hje, List.take_length]

theorem f23_any (w : World) (l : List (List Prt)) (sv : Value) (hsv : Tbl w sv l) (hlen : ∀ r ∈ l, (rtT r).length ≤ 1000000 ∧ r.length ≤ 1000000) (hll : l.length ≤ 1000000) : Calls Try.prog 23 #[sv] w fun e w' => ∃ kv Hs, e = .returned kv ∧ Own 9 1 kv l.length ((l.map rtT).map S) Hs ∧ HF w (fun _ => False) Hs w' := by
  refine enter (fun _ => False) [] Try.func23 rfl Try.ntmps23 rfl rfl (HF.start w _) fun c hc => ?_
  subst hc
  obtain ⟨ad, cp, rfl, hcp, hc⟩ := hsv
  refine GC.seq ?_
  refine GC.reg ?_  -- region 0, gin.go:12
  refine G.v (V.asg rfl) rfl ?_
  refine G.nil ?_
  refine GC.seq ?_
  refine GC.reg ?_  -- region 1, gin.go:13
  refine G.v (V.asg rfl) rfl ?_
  refine G.nil ?_
  refine GC.seq ?_
  refine GC.seq ?_
  refine GC.reg ?_  -- region 2, gin.go:14
  refine G.v (V.mv rfl) rfl ?_
  refine G.v (V.lenL Try.underlying34 rfl) rfl ?_
  refine G.v (V.mv rfl) rfl ?_
  refine G.nil ?_
  refine GC.block ?_
  refine GC.loopJ (fun N fr' H' => ∃ j kv Hs, j + N = l.length ∧ Own 9 1 kv j (((l.take j).map rtT).map S) Hs ∧ Sub [(3, kv), (6, .slice ad l.length cp), (7, I (l.length : Nat)), (8, I (j : Nat))] fr' ∧ Hs = H') l.length
    ⟨0, .slice none 0 0, [], by omega, Own.nil, .cons rfl (.cons rfl (.cons rfl (.cons rfl .nil))), rfl⟩ ?_
  rintro N fr' H' ⟨j, kv, Hs, hj, hown, hs2, rfl⟩ ih
  refine GC.weak hs2 ?_
  clear hs2
  refine GC.seq ?_
  refine GC.reg ?_  -- region 3, gin.go:14
  refine G.v (V.lt rfl rfl) rfl ?_
  refine G.nil ?_
  refine GC.seq ?_
  refine GC.condD rfl (fun h9 => ?_) (fun h9 => ?_)
  · refine GC.skip ?_
    refine GC.seq ?_
    refine GC.block ?_
    refine GC.seq ?_
    have hjl : j < l.length := by omega
    obtain ⟨r, hr⟩ : ∃ p, l[j]? = some p := ⟨_, List.getElem?_eq_getElem hjl⟩
    obtain ⟨b, o, rv, rfl, hc1, hc2⟩ := hc j r hr
    obtain ⟨hrl, hrl2⟩ := hlen r (List.mem_of_getElem? hr)
    refine GC.reg ?_  -- region 4, gin.go:14
    refine G.v (V.ia (i := j) Try.underlying34 Try.sizeOf35 rfl rfl hjl) rfl ?_
    refine G.v (V.ldC (v := rv) Try.isAgg35 rfl (by rw [Nat.mul_one]; exact hc1) id) rfl ?_
    refine G.v (V.asg rfl) rfl ?_
    refine G.nil ?_
    refine GC.reg ?_  -- region 5, gin.go:15
    refine G.v (V.mv rfl) rfl ?_
    refine G.v (V.mv rfl) rfl ?_
    refine G.callP (v := S (rtT r)) Try.call24 rfl rfl (fun w1 hw1 => f24_any w1 r rv (hc2.old hw1) hrl hrl2) ?_
    refine G.bs (BS.one Try.underlying26 Try.sizeOf9 Try.zeroValue9 (v := S (rtT r)) rfl) rfl rfl (fun sb hsb => ?_)
    refine G.app (i := Try.t9) (sz := 1) (by_ := 16) Try.underlying26 rfl rfl rfl rfl rfl rfl rfl hown (H' := [⟨sb, true, .row [S (rtT r)] 9 (0, 0)⟩]) (List.perm_append_comm (l₁ := ([⟨sb, true, .row [S (rtT r)] 9 (0, 0)⟩] : SH))) (src_row (vs := [S (rtT r)]) (r := []) (.head _)) rfl (by simp [Value.oneCell']) (by omega) (by omega) (by omega) rfl (fun kv2 Hs2 hown2 => ?_)
    refine G.v (V.asg rfl) rfl ?_
    refine G.nil ?_
    refine GC.inBlock ?_
    refine GC.reg ?_  -- region 6, gin.go:14
    refine G.v (V.addI (r := ((j + 1 : Nat) : Int)) rfl rfl rfl (by omega) (by omega)) rfl ?_
    refine G.v (V.mv rfl) rfl ?_
    refine G.nil ?_
    refine GC.turn (H' := Hs2) (fun w1 h1 => h1.sub (List.sublist_cons_self _ _)) ?_
    refine ih (N - 1) _ _ (by omega) ⟨j + 1, kv2, Hs2, by omega, ?_, .cons rfl (.cons rfl (.cons rfl (.cons rfl .nil))), rfl⟩
    rw [take_snoc hr, List.map_append, List.map_append]
    exact hown2
  refine GC.exit rfl ?_
  refine GC.seq ?_
  refine GC.reg ?_  -- region 7, gin.go:17
  refine G.v (V.mv rfl) rfl ?_
  refine G.v (V.asg rfl) rfl ?_
  refine G.nil ?_
  have hje : j = l.length := by omega
  subst hje
  rw [List.take_length] at hown
  exact GC.ret1 rfl rfl fun w' hw' => ⟨_, _, rfl, hown, hw'⟩

theorem f25_any (w : World) (l : List (List UInt8)) (sv : Value) (hsv : Txts w sv l) (hll : l.length ≤ 1000000) : Calls Try.prog 25 #[sv] w fun e w' => ∃ kv Hs, e = .returned kv ∧ Own 9 1 kv l.length (l.map S) Hs ∧ HF w (fun _ => False) Hs w' := by
  refine enter (fun _ => False) [] Try.func25 rfl Try.ntmps25 rfl rfl (HF.start w _) fun c hc => ?_
  subst hc
  obtain ⟨ad, cp, rfl, hc⟩ := hsv
  refine GC.seq ?_
  refine GC.reg ?_  -- region 0, slices.go:355
  refine G.v (V.asg rfl) rfl ?_
  refine G.nil ?_
  refine GC.seq ?_
  refine GC.seq ?_
  refine GC.reg ?_  -- region 1, slices.go:357
  refine G.v (V.mv rfl) rfl ?_
  refine G.v (V.eqL Try.underlying26 rfl) rfl ?_
  refine G.nil ?_
  refine GC.cond rfl (fun h4 => ?_) (fun h4 => ?_)
  · refine GC.seq ?_
    refine GC.reg ?_  -- region 2, slices.go:358
    refine G.v (V.asg rfl) rfl ?_
    refine G.nil ?_
    have hl0 : l = [] := by
      cases l with
      | nil => rfl
      | cons x r => obtain ⟨b, o, e0, _⟩ := hc 0 x rfl; rw [e0] at h4; cases h4
    subst hl0
    exact GC.ret1 rfl rfl fun w' hw' => ⟨_, _, rfl, Own.nil, hw'⟩
  refine GC.skip ?_
  refine GC.seq ?_
  refine GC.reg ?_  -- region 3, slices.go:362
  refine G.bs0 Try.underlying26 Try.sizeOf9 Try.zeroValue9 rfl (fun eb heb => ?_)
  refine G.v (V.mv rfl) rfl ?_
  refine G.appZ (i := Try.t9) (sz := 1) (by_ := 16) (vs := l.map S) Try.underlying26 rfl rfl rfl rfl rfl rfl rfl (Own.row (b := eb) (n := 0) (cap := 0) (xs := []) (spare := []) rfl rfl (Nat.le_refl _)) (H' := []) (.of_eq rfl) (fun h0 => ?_) (by simp) (fun u hu => by obtain ⟨x, _, rfl⟩ := List.mem_map.1 hu; rfl) (by omega) (by omega) rfl (fun kv2 Hs2 hown2 => ?_)
  · obtain ⟨x0, hx0⟩ : ∃ x, l[0]? = some x := ⟨_, List.getElem?_eq_getElem h0⟩
    obtain ⟨b, o, rfl, _⟩ := hc 0 x0 hx0
    refine ⟨_, rfl, fun w1 h2 j u hj => ?_⟩
    rw [List.getElem?_map] at hj
    obtain ⟨x, hx, rfl⟩ := Option.map_eq_some_iff.1 hj
    obtain ⟨b', o', e0, h3⟩ := hc j x hx
    cases e0
    have := h2.cellOld h3 id
    by_cases h00 : j = 0 <;> simpa [Addr.add, h00] using this
  refine G.v (V.asg rfl) rfl ?_
  refine G.nil ?_
  rw [Nat.zero_add] at hown2
  exact GC.ret1 rfl rfl fun w' hw' => ⟨_, _, rfl, hown2, hw'⟩

end Go.Proofs

/- A row of texts turned round. Printed by wip/mk_gn8.py. -/
set_option maxRecDepth 20000
namespace Go.Proofs
open Go Bw

open Gt
/-- a row turned round up to a place -/
def Half (xs zs : List Value) (i : Nat) : Prop := zs.length = xs.length ∧ ∀ k : Nat, zs[k]? = if k < i ∨ xs.length - 1 - i < k then xs.reverse[k]? else xs[k]?
theorem Half.start (xs : List Value) : Half xs xs 0 := ⟨rfl, fun k => by
  split
  · rename_i h
    rw [List.getElem?_eq_none (by omega), List.getElem?_eq_none (by rw [List.length_reverse]; omega)]
  · rfl⟩
theorem Half.stop {xs zs : List Value} {i : Nat} (h : Half xs zs i) (hi : ¬ ((i : Int) < (xs.length : Int) - 1 - i)) : zs = xs.reverse := by
  refine List.ext_getElem? fun k => ?_
  rw [h.2 k]
  split
  · rfl
  · rename_i hk
    by_cases hkn : k < xs.length
    · rw [List.getElem?_reverse hkn]
      have : xs.length - 1 - k = k := by omega
      rw [this]
    · rw [List.getElem?_eq_none (by omega), List.getElem?_eq_none (by rw [List.length_reverse]; omega)]
theorem Half.step {xs zs : List Value} {i : Nat} (h : Half xs zs i) (hi : (i : Int) < (xs.length : Int) - 1 - i) : ∃ u v, zs[i]? = some u ∧ zs[xs.length - 1 - i]? = some v ∧ Half xs ((zs.set i v).set (xs.length - 1 - i) u) (i + 1) := by
  obtain ⟨u, hu⟩ : ∃ u, xs[i]? = some u := ⟨_, List.getElem?_eq_getElem (by omega)⟩
  obtain ⟨v, hv⟩ : ∃ v, xs[xs.length - 1 - i]? = some v := ⟨_, List.getElem?_eq_getElem (by omega)⟩
  refine ⟨u, v, by rw [h.2, if_neg (by omega)]; exact hu, by rw [h.2, if_neg (by omega)]; exact hv, by simp [h.1], fun k => ?_⟩
  have hl := h.1
  rw [List.getElem?_set, List.getElem?_set, List.length_set]
  by_cases h1 : xs.length - 1 - i = k
  · subst h1
    rw [if_pos rfl, if_pos (by omega), if_pos (.inr (by omega)), List.getElem?_reverse (by omega)]
    have : xs.length - 1 - (xs.length - 1 - i) = i := by omega
    rw [this]; exact hu.symm
  · rw [if_neg h1]
    by_cases h2 : i = k
    · subst h2
      rw [if_pos rfl, if_pos (by omega), if_pos (.inl (by omega)), List.getElem?_reverse (by omega)]
      exact hv.symm
    · rw [if_neg h2, h.2 k]
      by_cases h3 : k < i ∨ xs.length - 1 - i < k
      · rw [if_pos h3, if_pos (by omega)]
      · rw [if_neg h3, if_neg (by omega)]
theorem f26_any (w : World) (D : Nat → Prop) {b cap : Nat} {xs sp : List Value} {H0 : SH} (h1 : ∀ u ∈ xs, u.oneCell' = true) (hn : xs.length ≤ 1000000) (hH : HF w D (⟨b, true, .row (xs ++ sp) 9 (0, 0)⟩ :: H0) w) : Calls Try.prog 26 #[.slice (some ⟨b, 0, none⟩) xs.length cap] w fun e w' => e = .returned (.tuple #[]) ∧ HF w D (⟨b, true, .row (xs.reverse ++ sp) 9 (0, 0)⟩ :: H0) w' := by
  refine enter D (⟨b, true, .row (xs ++ sp) 9 (0, 0)⟩ :: H0) Try.func26 rfl Try.ntmps26 rfl rfl hH fun c hc => ?_
  subst hc
  refine GC.seq ?_
  refine GC.reg ?_  -- region 0, slices.go:484
  refine G.v (V.mv rfl) rfl ?_
  refine G.v (V.lenL Try.underlying26 rfl) rfl ?_
  refine G.v (V.subI (r := (xs.length : Int) - 1 - ((0 : Nat) : Int)) rfl rfl (by omega) (by omega) (by omega)) rfl ?_
  refine G.v (V.asg rfl) rfl ?_
  refine G.v (V.asg rfl) rfl ?_
  refine G.nil ?_
  refine GC.block ?_
  refine GC.loopJ (fun N fr' H' => ∃ i zs, i + N = xs.length ∧ Half xs zs i ∧ Sub [(0, .slice (some ⟨b, 0, none⟩) xs.length cap), (2, I (i : Nat)), (3, I ((xs.length : Int) - 1 - (i : Int)))] fr' ∧ H' = ⟨b, true, .row (zs ++ sp) 9 (0, 0)⟩ :: H0) xs.length
    ⟨0, xs, by omega, Half.start xs, .cons rfl (.cons rfl (.cons rfl .nil)), rfl⟩ ?_
  rintro N fr' H' ⟨i, zs, hi, hhf, hs2, rfl⟩ ih
  refine GC.weak hs2 ?_
  clear hs2
  refine GC.seq ?_
  refine GC.seq ?_
  refine GC.reg ?_  -- region 1, slices.go:484
  refine G.v (V.mv rfl) rfl ?_
  refine G.v (V.mv rfl) rfl ?_
  refine G.v (V.lt rfl rfl) rfl ?_
  refine G.nil ?_
  refine GC.condD rfl (fun h9 => ?_) (fun h9 => ?_)
  · refine GC.skip ?_
    refine GC.seq ?_
    refine GC.block ?_
    obtain ⟨u, v, hu, hv, hst⟩ := hhf.step h9
    have hzl := hhf.1
    have ejj : (xs.length : Int) - 1 - (i : Int) = ((xs.length - 1 - i : Nat) : Int) := by omega
    rw [ejj]
    obtain ⟨j, hj⟩ : ∃ j, j = xs.length - 1 - i := ⟨_, rfl⟩
    rw [← hj] at hv hst ⊢
    have hrev : ∀ x ∈ zs, x.oneCell' = true := fun x hx => by
      obtain ⟨k, hk⟩ := List.getElem?_of_mem hx
      rw [hhf.2 k] at hk
      split at hk
      · exact h1 x (List.mem_reverse.1 (List.mem_of_getElem? hk))
      · exact h1 x (List.mem_of_getElem? hk)
    have h1v := hrev v (List.mem_of_getElem? hv)
    have h1u := hrev u (List.mem_of_getElem? hu)
    refine GC.regM 14 (fun _ => True) mixed (by kernel_rfl) ?_
    refine GM.p 0 rfl (by kernel_rfl) (by kernel_rfl) (fun _ _ => trivial) (fun _ => V.mv rfl) rfl ?_
    refine GM.p 1 rfl (by kernel_rfl) (by kernel_rfl) (fun _ _ => trivial) (fun _ => V.mv rfl) rfl ?_
    refine GM.p 2 rfl (by kernel_rfl) (by kernel_rfl) (fun _ _ => trivial) (fun _ => V.mv rfl) rfl ?_
    refine GM.p 3 rfl (by kernel_rfl) (by kernel_rfl) (fun _ _ => trivial) (fun _ => V.mv rfl) rfl ?_
    refine GM.p 4 rfl (by kernel_rfl) (by kernel_rfl) (fun _ _ => trivial) (fun _ => V.mv rfl) rfl ?_
    refine GM.p 5 rfl (by kernel_rfl) (by kernel_rfl) (fun _ _ => trivial) (fun _ => V.mv rfl) rfl ?_
    refine GM.p 8 rfl (by kernel_rfl) (by kernel_rfl) (fun _ _ => trivial) (fun _ => V.mv rfl) rfl ?_
    refine GM.p 9 rfl (by kernel_rfl) (by kernel_rfl) (fun _ _ => trivial) (fun _ => V.mv rfl) rfl ?_
    refine GM.p 6 rfl (by kernel_rfl) (by kernel_rfl) (fun _ _ => trivial) (fun _ => V.ia (i := j) Try.underlying26 Try.sizeOf9 rfl rfl (by omega)) rfl ?_
    refine GM.p 10 rfl (by kernel_rfl) (by kernel_rfl) (fun _ _ => trivial) (fun _ => V.ia (i := i) Try.underlying26 Try.sizeOf9 rfl rfl (by omega)) rfl ?_
    refine GM.two 7 11 rfl rfl (by kernel_rfl) ?_ ?_
    · refine GMB.v (V.ld (b := b) (off := 0 + j * 1) (wf := true) (l := zs ++ sp) (T := 9) (fz := (0, 0)) (v := v) Try.isAgg9 rfl (.head _) (by rw [nth_eq, List.getElem?_append_left (by omega)]; simpa using hv)) (fun _ _ => trivial) rfl ?_
      refine GM.one 11 rfl (by kernel_rfl) ?_
      refine GMB.v (V.ld (b := b) (off := 0 + i * 1) (wf := true) (l := zs ++ sp) (T := 9) (fz := (0, 0)) (v := u) Try.isAgg9 rfl (.head _) (by rw [nth_eq, List.getElem?_append_left (by omega)]; simpa using hu)) (fun _ _ => trivial) rfl ?_
      refine GM.one 12 rfl (by kernel_rfl) ?_
      refine GMB.v (V.ia (i := i) Try.underlying26 Try.sizeOf9 rfl rfl (by omega)) (fun _ _ => trivial) rfl ?_
      refine GM.one 13 rfl (by kernel_rfl) ?_
      refine GMB.st (b := b) (off := 0 + i * 1) (l := zs ++ sp) (T := 9) (fz := (0, 0)) (v := v) Try.sizeOf9 rfl rfl h1v .z (by rw [nth_eq, List.getElem?_append_left (by omega)]; simp [List.getElem?_eq_getElem (show i < zs.length by omega)]) rfl (fun _ => trivial) ?_
      refine GM.tl (by kernel_rfl) ?_
      refine G.v (V.ia (i := j) Try.underlying26 Try.sizeOf9 rfl rfl (by omega)) rfl ?_
      refine G.st (b := b) (off := 0 + j * 1) (l := setL (zs ++ sp) (0 + i * 1) v) (T := 9) (fz := (0, 0)) (v := u) Try.sizeOf9 rfl rfl h1u .z (by rw [nth_eq, setL_eq, List.getElem?_set]; rw [if_neg (by omega), List.getElem?_append_left (by omega)]; simp [List.getElem?_eq_getElem (show j < zs.length by omega)]) rfl ?_
      refine G.nil ?_
      have erow : setL (setL (zs ++ sp) (0 + i * 1) v) (0 + j * 1) u = ((zs.set i v).set j u) ++ sp := by
        rw [setL_eq, setL_eq, Nat.zero_add, Nat.zero_add, Nat.mul_one, Nat.mul_one, List.set_append_left _ _ (by omega), List.set_append_left _ _ (by rw [List.length_set]; omega)]
      refine GC.turn (H' := ⟨b, true, .row (((zs.set i v).set j u) ++ sp) 9 (0, 0)⟩ :: H0) (fun w1 hw1 => ?_) ?_
      · rw [← erow]; exact hw1
      refine GC.inBlock ?_
      refine GC.reg ?_
      refine G.v (V.mv rfl) rfl ?_
      refine G.v (V.addI (r := ((i + 1 : Nat) : Int)) rfl rfl (by omega) (by omega) (by omega)) rfl ?_
      refine G.v (V.mv rfl) rfl ?_
      refine G.v (V.subI (r := (xs.length : Int) - 1 - ((i + 1 : Nat) : Int)) rfl rfl (by omega) (by omega) (by omega)) rfl ?_
      refine G.v (V.asg rfl) rfl ?_
      refine G.v (V.asg rfl) rfl ?_
      refine G.nil ?_
      exact ih (N - 1) _ _ (by omega) ⟨i + 1, _, by omega, hst, .cons rfl (.cons rfl (.cons rfl .nil)), rfl⟩
    · refine GMB.v (V.ld (b := b) (off := 0 + i * 1) (wf := true) (l := zs ++ sp) (T := 9) (fz := (0, 0)) (v := u) Try.isAgg9 rfl (.head _) (by rw [nth_eq, List.getElem?_append_left (by omega)]; simpa using hu)) (fun _ _ => trivial) rfl ?_
      refine GM.one 7 rfl (by kernel_rfl) ?_
      refine GMB.v (V.ld (b := b) (off := 0 + j * 1) (wf := true) (l := zs ++ sp) (T := 9) (fz := (0, 0)) (v := v) Try.isAgg9 rfl (.head _) (by rw [nth_eq, List.getElem?_append_left (by omega)]; simpa using hv)) (fun _ _ => trivial) rfl ?_
      refine GM.one 12 rfl (by kernel_rfl) ?_
      refine GMB.v (V.ia (i := i) Try.underlying26 Try.sizeOf9 rfl rfl (by omega)) (fun _ _ => trivial) rfl ?_
      refine GM.one 13 rfl (by kernel_rfl) ?_
      refine GMB.st (b := b) (off := 0 + i * 1) (l := zs ++ sp) (T := 9) (fz := (0, 0)) (v := v) Try.sizeOf9 rfl rfl h1v .z (by rw [nth_eq, List.getElem?_append_left (by omega)]; simp [List.getElem?_eq_getElem (show i < zs.length by omega)]) rfl (fun _ => trivial) ?_
      refine GM.tl (by kernel_rfl) ?_
      refine G.v (V.ia (i := j) Try.underlying26 Try.sizeOf9 rfl rfl (by omega)) rfl ?_
      refine G.st (b := b) (off := 0 + j * 1) (l := setL (zs ++ sp) (0 + i * 1) v) (T := 9) (fz := (0, 0)) (v := u) Try.sizeOf9 rfl rfl h1u .z (by rw [nth_eq, setL_eq, List.getElem?_set]; rw [if_neg (by omega), List.getElem?_append_left (by omega)]; simp [List.getElem?_eq_getElem (show j < zs.length by omega)]) rfl ?_
      refine G.nil ?_
      have erow : setL (setL (zs ++ sp) (0 + i * 1) v) (0 + j * 1) u = ((zs.set i v).set j u) ++ sp := by
        rw [setL_eq, setL_eq, Nat.zero_add, Nat.zero_add, Nat.mul_one, Nat.mul_one, List.set_append_left _ _ (by omega), List.set_append_left _ _ (by rw [List.length_set]; omega)]
      refine GC.turn (H' := ⟨b, true, .row (((zs.set i v).set j u) ++ sp) 9 (0, 0)⟩ :: H0) (fun w1 hw1 => ?_) ?_
      · rw [← erow]; exact hw1
      refine GC.inBlock ?_
      refine GC.reg ?_
      refine G.v (V.mv rfl) rfl ?_
      refine G.v (V.addI (r := ((i + 1 : Nat) : Int)) rfl rfl (by omega) (by omega) (by omega)) rfl ?_
      refine G.v (V.mv rfl) rfl ?_
      refine G.v (V.subI (r := (xs.length : Int) - 1 - ((i + 1 : Nat) : Int)) rfl rfl (by omega) (by omega) (by omega)) rfl ?_
      refine G.v (V.asg rfl) rfl ?_
      refine G.v (V.asg rfl) rfl ?_
      refine G.nil ?_
      exact ih (N - 1) _ _ (by omega) ⟨i + 1, _, by omega, hst, .cons rfl (.cons rfl (.cons rfl .nil)), rfl⟩
  refine GC.exit rfl ?_
  have hz := hhf.stop h9
  refine GC.end0 rfl fun w' hw' => ⟨rfl, ?_⟩
  rw [hz] at hw'
  exact hw'

end Go.Proofs

/- Clean routes as tokens of the tree. No program in sight. -/
namespace Gt
open Gs Tr
def tokP (p : Prt) : List Tok := if p.k.toNat = 0 then bs p.nm else if p.k.toNat = 1 then [.P p.nm] else [.A p.nm]
def tokT (l : List Prt) : List Tok := l.flatMap tokP
theorem txt_tokP {p : Prt} (h : p.k.toNat ≤ 2) : txt (tokP p) = rtP p := by
  unfold tokP rtP
  by_cases h0 : p.k.toNat = 0
  · rw [if_pos h0, if_neg (by omega), if_neg (by omega), txt_bs]; rfl
  · rw [if_neg h0]
    by_cases h1 : p.k.toNat = 1
    · rw [if_pos h1, if_pos h1]; simp [txt]
    · rw [if_neg h1, if_neg h1, if_pos (by omega)]; simp [txt]
theorem txt_tokT : ∀ {l : List Prt}, (∀ p ∈ l, p.k.toNat ≤ 2) → txt (tokT l) = rtT l
  | [], _ => rfl
  | p :: l, h => by
    have e1 : tokT (p :: l) = tokP p ++ tokT l := by simp [tokT]
    have e2 : rtT (p :: l) = rtP p ++ rtT l := by simp [rtT]
    rw [e1, e2, txt_app, txt_tokP (h p (.head _)), txt_tokT fun q hq => h q (.tail _ hq)]
theorem Clean.k2 {l : List Prt} (h : Clean l) : ∀ p ∈ l, p.k.toNat ≤ 2 := fun p hp => by
  obtain ⟨j, hj⟩ := List.getElem?_of_mem hp
  exact (h.2.2.2 j p hj).2.1
theorem plain_of {c : UInt8} (h : plainN c) : plainB c ∧ c ≠ 92 := by
  refine ⟨⟨fun e => h.1 (by rw [e]; rfl), fun e => h.2.1 (by rw [e]; rfl)⟩, fun e => h.2.2 (by rw [e]; rfl)⟩
theorem wordc_of {c : UInt8} (h : wordc c) : c ≠ 47 ∧ c ≠ 58 ∧ c ≠ 42 ∧ c ≠ 92 := by
  refine ⟨fun e => ?_, fun e => ?_, fun e => ?_, fun e => ?_⟩ <;> subst e <;> revert h <;> unfold wordc <;> decide
theorem word_of {s : List UInt8} (h : wordN s) : word s := ⟨h.2.1, fun c hc => ⟨(wordc_of (h.1 c hc)).1, (wordc_of (h.1 c hc)).2.1, (wordc_of (h.1 c hc)).2.2.1⟩⟩
theorem Ok_text : ∀ (t : List UInt8) (s : List Tok), (∀ c ∈ t, plainB c) → t ≠ [] → (Ok (t.getLast? == some 47) s) → ∀ sl, Ok sl (bs t ++ s)
  | [], s, _, h, _ => absurd rfl h
  | [c], s, hp, _, hs => fun sl => by
    refine ⟨hp c (.head _), ?_⟩
    have e : ([c].getLast? == some 47) = (c == 47) := by
      simp only [List.getLast?_singleton]
      by_cases h : c = 47 <;> simp [h]
    rw [e] at hs
    exact hs
  | c :: d :: t, s, hp, _, hs => fun sl => ⟨hp c (.head _), Ok_text (d :: t) s (fun x hx => hp x (.tail _ hx)) (by simp) (by rw [List.getLast?_cons_cons] at hs; exact hs) _⟩
theorem Ok_true {s : List Tok} : ∀ {b : Bool}, b = true → Ok true s → Ok b s := fun h hs => h ▸ hs
theorem drop_at {l : List Prt} {j : Nat} {p : Prt} (h : l[j]? = some p) : l.drop j = p :: l.drop (j + 1) := by
  rw [List.drop_eq_getElem_cons (List.getElem?_eq_some_iff.1 h).1]
  congr 1
  exact (List.getElem?_eq_some_iff.1 h).2
theorem Clean.ok {l : List Prt} (h : Clean l) : ∀ (n j : Nat), n + j = l.length → (j % 2 = 0 → ∀ sl, Ok sl (tokT (l.drop j))) ∧ (j % 2 = 1 → Ok true (tokT (l.drop j)))
  | 0, j, hj => by
    rw [List.drop_of_length_le (by omega)]
    exact ⟨fun _ sl => by cases sl <;> trivial, fun _ => trivial⟩
  | n + 1, j, hj => by
    obtain ⟨p, hp⟩ : ∃ p, l[j]? = some p := ⟨_, List.getElem?_eq_getElem (by omega)⟩
    have hop := h.2.2.2 j p hp
    have ih := Clean.ok h n (j + 1) (by omega)
    have e1 : tokT (l.drop j) = tokP p ++ tokT (l.drop (j + 1)) := by rw [drop_at hp]; simp [tokT]
    refine ⟨fun h0 => ?_, fun h0 => ?_⟩
    · have hk : p.k.toNat = 0 := hop.1.2 h0
      have ht := hop.2.2.2.1 hk
      have e2 : tokP p = bs p.nm := if_pos hk
      rw [e1, e2]
      refine Ok_text _ _ (fun c hc => (plain_of (ht.2.2.2.2 c hc)).1) ht.1 ?_
      by_cases hn : j + 1 < l.length
      · obtain ⟨q, hq⟩ : ∃ q, l[j + 1]? = some q := ⟨_, List.getElem?_eq_getElem hn⟩
        have hoq := h.2.2.2 (j + 1) q hq
        have hkq : q.k.toNat ≠ 0 := fun e => by have := hoq.1.1 e; omega
        obtain ⟨t, ht2⟩ := (hoq.2.2.2.2 hkq).2.1 p (by rw [Nat.add_sub_cancel]; exact hp)
        refine Ok_true ?_ (ih.2 (by omega))
        rw [← ht2, List.getLast?_append]
        rfl
      · rw [List.drop_of_length_le (by omega)]
        cases (p.nm.getLast? == some 47) <;> trivial
    · have hk : p.k.toNat ≠ 0 := fun e => by have := hop.1.1 e; omega
      have hw := hop.2.2.2.2 hk
      rw [e1]
      by_cases hk1 : p.k.toNat = 1
      · have e2 : tokP p = [.P p.nm] := by unfold tokP; rw [if_neg hk, if_pos hk1]
        rw [e2]
        refine ⟨rfl, word_of hw.1, ?_, ih.1 (by omega) false⟩
        by_cases hn : j + 1 < l.length
        · obtain ⟨q, hq⟩ : ∃ q, l[j + 1]? = some q := ⟨_, List.getElem?_eq_getElem hn⟩
          have hoq := h.2.2.2 (j + 1) q hq
          have hkq : q.k.toNat = 0 := hoq.1.2 (by omega)
          have hhd := (hoq.2.2.2.1 hkq).2.2.2.1 (by omega)
          have e3 : tokP q = bs q.nm := if_pos hkq
          have e4 : tokT (l.drop (j + 1)) = tokP q ++ tokT (l.drop (j + 1 + 1)) := by rw [drop_at hq]; simp [tokT]
          refine .inr ?_
          rw [e4, e3]
          cases hqn : q.nm with
          | nil => rw [hqn] at hhd; cases hhd
          | cons c r => rw [hqn] at hhd; cases hhd; exact ⟨bs r ++ tokT (l.drop (j + 1 + 1)), rfl⟩
        · rw [List.drop_of_length_le (by omega)]; exact .inl rfl
      · have e2 : tokP p = [.A p.nm] := by unfold tokP; rw [if_neg hk, if_neg hk1]
        have hend := hop.2.2.1 (by have := hop.2.1; omega)
        rw [e2, List.drop_of_length_le (by omega)]
        exact ⟨rfl, word_of hw.1, rfl⟩
theorem Clean.good {l : List Prt} (h : Clean l) : Good (tokT l) := by
  have h0 := (Clean.ok h l.length 0 (by omega)).1 rfl false
  rw [List.drop_zero] at h0
  refine ⟨h0, ?_⟩
  obtain ⟨p, hp⟩ : ∃ p, l[0]? = some p := ⟨_, List.getElem?_eq_getElem (List.length_pos_iff.2 h.1)⟩
  obtain ⟨hk, r, hr⟩ := h.2.2.1 p hp
  have e1 : tokT (l.drop 0) = tokP p ++ tokT (l.drop (0 + 1)) := by rw [drop_at hp]; simp [tokT]
  have e2 : tokP p = bs p.nm := if_pos hk
  rw [List.drop_zero, e2, ← hr] at e1
  exact ⟨_, e1⟩
theorem Clean.part {l : List Prt} (h : Clean l) : ∀ p ∈ l, (∀ c ∈ rtP p, c ≠ 92) ∧ (rtP p).length ≤ 101 := fun p hp => by
  obtain ⟨j, hj⟩ := List.getElem?_of_mem hp
  have hop := h.2.2.2 j p hj
  unfold rtP
  by_cases hk : p.k.toNat = 0
  · have ht := hop.2.2.2.1 hk
    rw [if_neg (by omega), if_neg (by omega), List.nil_append]
    exact ⟨fun c hc => (plain_of (ht.2.2.2.2 c hc)).2, by omega⟩
  · have hw := (hop.2.2.2.2 hk).1
    refine ⟨fun c hc => ?_, ?_⟩
    · rcases List.mem_append.1 hc with hc | hc
      · split at hc
        · rw [List.mem_singleton.1 hc]; decide
        · split at hc
          · rw [List.mem_singleton.1 hc]; decide
          · cases hc
      · exact (wordc_of (hw.1 c hc)).2.2.2
    · rw [List.length_append]
      have := hw.2.2
      split
      · simp; omega
      · split <;> simp <;> omega
theorem Clean.txt {l : List Prt} (h : Clean l) : (rtT l).length ≤ 20000 ∧ ∀ c ∈ rtT l, c ≠ 92 := by
  have key : ∀ m : List Prt, (∀ p ∈ m, p ∈ l) → (rtT m).length ≤ 101 * m.length ∧ ∀ c ∈ rtT m, c ≠ 92 := by
    intro m
    induction m with
    | nil => intro _; exact ⟨by simp [rtT], fun c hc => by cases hc⟩
    | cons p m ih =>
      intro hm
      obtain ⟨h1, h2⟩ := ih fun q hq => hm q (.tail _ hq)
      obtain ⟨h3, h4⟩ := h.part p (hm p (.head _))
      have e2 : rtT (p :: m) = rtP p ++ rtT m := by simp [rtT]
      rw [e2, List.length_append, List.length_cons]
      exact ⟨by omega, fun c hc => (List.mem_append.1 hc).elim (h3 c) (h2 c)⟩
  obtain ⟨h1, h2⟩ := key l fun p hp => hp
  have := h.2.1
  exact ⟨by omega, h2⟩
/-! ### apart -/
def tk1 (t : Tk) : Tok := if t.k.toNat = 0 then .b t.c else if t.k.toNat = 1 then .P t.nm else .A t.nm
def TkV (t : Tk) : Prop := (t.k.toNat = 0 ∧ t.nm = []) ∨ (t.k.toNat ≠ 0 ∧ t.k.toNat ≤ 2 ∧ t.c = 0)
theorem toNat0 {k : UInt8} : k.toNat = 0 ↔ k = 0 := ⟨fun h => UInt8.toNat_inj.1 h, fun h => by rw [h]; rfl⟩
theorem tk1_inj {x y : Tk} (hx : TkV x) (hy : TkV y) (h : tk1 x = tk1 y) : x = y := by
  obtain ⟨k, c, n⟩ := x
  obtain ⟨k2, c2, n2⟩ := y
  unfold tk1 at h
  unfold TkV at hx hy
  simp only at h hx hy
  have hkk : k.toNat = k2.toNat → k = k2 := fun e => UInt8.toNat_inj.1 e
  by_cases h0 : k.toNat = 0
  · rw [if_pos h0] at h
    by_cases h02 : k2.toNat = 0
    · rw [if_pos h02] at h
      cases h
      rcases hx with hx | hx
      · rcases hy with hy | hy
        · rw [hkk (by omega), hx.2, hy.2]
        · exact absurd h02 hy.1
      · exact absurd h0 hx.1
    · rw [if_neg h02] at h
      split at h <;> cases h
  · rw [if_neg h0] at h
    by_cases h02 : k2.toNat = 0
    · rw [if_pos h02] at h
      split at h <;> cases h
    · rw [if_neg h02] at h
      rcases hx with hx | hx
      · exact absurd hx.1 h0
      rcases hy with hy | hy
      · exact absurd hy.1 h02
      by_cases h1 : k.toNat = 1
      · rw [if_pos h1] at h
        split at h
        · rename_i h12
          cases h; rw [hkk (by omega), hx.2.2, hy.2.2]
        · cases h
      · rw [if_neg h1] at h
        split at h
        · cases h
        · cases h; rw [hkk (by omega), hx.2.2, hy.2.2]
theorem parts_tk {x y : Tk} (hx : TkV x) (hy : TkV y) (_hne : x ≠ y) : parts (tk1 x) (tk1 y) = true ↔ x.k.toNat ≠ 2 ∧ y.k.toNat ≠ 2 ∧ ¬ (x.k.toNat = 1 ∧ y.k.toNat = 1) := by
  have ux : x.k.toNat ≤ 2 := by rcases hx with h | h <;> omega
  have uy : y.k.toNat ≤ 2 := by rcases hy with h | h <;> omega
  unfold tk1
  by_cases h0 : x.k.toNat = 0
  · rw [if_pos h0]
    by_cases h2 : y.k.toNat = 0
    · rw [if_pos h2]; simp [parts]; omega
    · rw [if_neg h2]
      by_cases h3 : y.k.toNat = 1
      · rw [if_pos h3]; simp [parts]; omega
      · rw [if_neg h3]; simp [parts]; omega
  · rw [if_neg h0]
    by_cases h1 : x.k.toNat = 1
    · rw [if_pos h1]
      by_cases h2 : y.k.toNat = 0
      · rw [if_pos h2]; simp [parts]; omega
      · rw [if_neg h2]
        by_cases h3 : y.k.toNat = 1
        · rw [if_pos h3]; simp [parts]; omega
        · rw [if_neg h3]; simp [parts]; omega
    · rw [if_neg h1]; simp [parts]; omega
theorem noA_tk {x : Tk} (hx : TkV x) (s : List Tok) : noA (tk1 x :: s) = true ↔ x.k.toNat ≠ 2 := by
  have ux : x.k.toNat ≤ 2 := by rcases hx with h | h <;> omega
  unfold tk1
  by_cases h0 : x.k.toNat = 0
  · rw [if_pos h0]; simp [noA]; omega
  · rw [if_neg h0]
    by_cases h1 : x.k.toNat = 1
    · rw [if_pos h1]; simp [noA]; omega
    · rw [if_neg h1]; simp [noA]; omega
theorem apart_tk : ∀ {x y : List Tk}, (∀ t ∈ x, TkV t) → (∀ t ∈ y, TkV t) → (ApartN x y ↔ apart (x.map tk1) (y.map tk1) = true)
  | [], [], _, _ => by simp [ApartN, apart]
  | [], b :: r, _, hy => by
    show _ ↔ noA (tk1 b :: r.map tk1) = true
    rw [noA_tk (hy b (.head _))]; rfl
  | a :: s, [], hx, _ => by
    show _ ↔ noA (tk1 a :: s.map tk1) = true
    rw [noA_tk (hx a (.head _))]; rfl
  | a :: s, b :: r, hx, hy => by
    have ih := apart_tk (x := s) (y := r) (fun t ht => hx t (.tail _ ht)) (fun t ht => hy t (.tail _ ht))
    show ((a = b ∧ ApartN s r) ∨ (a ≠ b ∧ _)) ↔ (if tk1 a = tk1 b then apart (s.map tk1) (r.map tk1) else parts (tk1 a) (tk1 b)) = true
    by_cases hab : a = b
    · rw [if_pos (by rw [hab]), ← ih]
      exact ⟨fun h => h.elim (fun h => h.2) (fun h => absurd hab h.1), fun h => .inl ⟨hab, h⟩⟩
    · rw [if_neg fun e => hab (tk1_inj (hx a (.head _)) (hy b (.head _)) e), parts_tk (hx a (.head _)) (hy b (.head _)) hab]
      exact ⟨fun h => h.elim (fun h => absurd h.1 hab) (fun h => h.2), fun h => .inr ⟨hab, h⟩⟩
theorem tokP_tk {p : Prt} : tokP p = (tkP p).map tk1 := by
  unfold tokP tkP
  by_cases h0 : p.k.toNat = 0
  · rw [if_pos h0, if_pos h0]
    simp [bs, tk1]
  · rw [if_neg h0, if_neg h0]
    simp [tk1, h0]
    split <;> rfl
theorem tokT_tk (l : List Prt) : tokT l = (tks l).map tk1 := by
  unfold tokT tks
  rw [List.map_flatMap]
  congr 1
  funext p
  exact tokP_tk
theorem tks_V {l : List Prt} (h : ∀ p ∈ l, p.k.toNat ≤ 2) : ∀ t ∈ tks l, TkV t := fun t ht => by
  obtain ⟨p, hp, htp⟩ := List.mem_flatMap.1 ht
  unfold tkP at htp
  split at htp
  · obtain ⟨c, _, rfl⟩ := List.mem_map.1 htp
    exact .inl ⟨rfl, rfl⟩
  · rw [List.mem_singleton.1 htp]
    rename_i h0
    exact .inr ⟨h0, h p hp, rfl⟩
theorem Clean.apart {a b : List Prt} (ha : Clean a) (hb : Clean b) : ApartN (tks a) (tks b) ↔ apart (tokT a) (tokT b) = true := by
  rw [tokT_tk, tokT_tk]
  exact apart_tk (tks_V ha.k2) (tks_V hb.k2)
/-! ### tables -/
theorem TableN.clean {l : List (List Prt)} (h : TableN l) : ∀ r ∈ l, Clean r := fun r hr => by
  obtain ⟨j, hj⟩ := List.getElem?_of_mem hr
  exact (h j r hj).1
theorem TableN.pw {l : List (List Prt)} (h : TableN l) : (l.map tokT).Pairwise (fun a b => Gt.apart a b = true) := by
  rw [List.pairwise_map, List.pairwise_iff_getElem]
  intro i j hi hj hij
  have h1 := h j l[j] (List.getElem?_eq_getElem hj)
  have h2 := h i l[i] (List.getElem?_eq_getElem hi)
  rw [apart_comm]
  exact (h1.1.apart h2.1).1 (h1.2 l[i] (List.mem_of_getElem? (i := i) (by rw [List.getElem?_take_of_lt hij]; exact List.getElem?_eq_getElem hi)))
theorem addAll_perm {rs ts : List (List Tok)} (hg : ∀ r ∈ rs, Good r) (hp : rs.Pairwise (fun a b => Gt.apart a b = true)) (h : ts.Perm rs) : ∃ t, addAll new (ts.map Gt.txt) 0 = .inl t := by
  have hp2 : ts.Pairwise (fun a b => Gt.apart a b = true) := (h.pairwise_iff (fun {x y} hxy => by rw [apart_comm]; exact hxy)).2 hp
  obtain ⟨t, h1, _⟩ := addAll_ok ts new (fun _ => none) 0 (.inl ⟨rfl, rfl⟩) (fun r hr => hg r (h.mem_iff.1 hr)) (fun r _ s v hs => by cases hs) hp2
  exact ⟨t, h1⟩
end Gt

/- FnGinAdd. Printed by wip/mk_gn9.py. -/
set_option maxRecDepth 20000
namespace Go.Proofs
open Go Bw

open Gt
theorem f26_nil (w : World) (ad : Option Addr) (cap : Nat) : Calls Try.prog 26 #[.slice ad 0 cap] w fun e w' => e = .returned (.tuple #[]) ∧ HF w (fun _ => False) [] w' := by
  refine enter (fun _ => False) [] Try.func26 rfl Try.ntmps26 rfl rfl (HF.start w _) fun c hc => ?_
  subst hc
  refine GC.seq ?_
  refine GC.reg ?_  -- region 0, slices.go:484
  refine G.v (V.mv rfl) rfl ?_
  refine G.v (V.lenL Try.underlying26 rfl) rfl ?_
  refine G.v (V.subI (r := -1) rfl rfl (by omega) (by omega) (by omega)) rfl ?_
  refine G.v (V.asg rfl) rfl ?_
  refine G.v (V.asg rfl) rfl ?_
  refine G.nil ?_
  refine GC.block ?_
  refine GC.loopJ (fun N fr' H' => Sub [(2, I 0), (3, I (-1))] fr' ∧ H' = []) 0
    ⟨.cons rfl (.cons rfl .nil), rfl⟩ ?_
  rintro N fr' H' ⟨hs, rfl⟩ ih
  refine GC.weak hs ?_
  clear hs
  refine GC.seq ?_
  refine GC.seq ?_
  refine GC.reg ?_  -- region 1, slices.go:484
  refine G.v (V.mv rfl) rfl ?_
  refine G.v (V.mv rfl) rfl ?_
  refine G.v (V.lt rfl rfl) rfl ?_
  refine G.nil ?_
  refine GC.condD rfl (fun h9 => absurd h9 (by decide)) (fun h9 => ?_)
  refine GC.exit rfl ?_
  exact GC.end0 rfl fun w' hw' => ⟨rfl, hw'⟩

theorem f26_own {w0 w : World} {D : Nat → Prop} {H Hb Hk : SH} {kv : Value} {xs : List Value} (hw : HF w0 D H w) (hp : H.Perm (Hb ++ Hk)) (h1 : ∀ u ∈ xs, u.oneCell' = true) (hn : xs.length ≤ 1000000) (ho : Own 9 1 kv xs.length xs Hb) :
    Calls Try.prog 26 #[kv] w fun e w' => ∃ Hb', e = .returned (.tuple #[]) ∧ Own 9 1 kv xs.length xs.reverse Hb' ∧ HF w0 D (Hb' ++ Hk) w' := by
  generalize hl : xs.length = n at ho hn
  have ho' := ho
  cases ho with
  | nil => exact (f26_nil w none 0).mono fun e w' ⟨h2, h3⟩ => ⟨[], h2, Own.nil, by simpa using (hw.after0 h3 (by simp)).perm hp⟩
  | @row b n cap xs2 spare h2 h3 h4 =>
    subst hl
    have hh := hw.perm hp
    have hnd := List.pairwise_append.1 hh.nd
    refine (f26_any w _ (sp := spare) (cap := cap) (H0 := []) h1 hn (hh.loc (fun e he => List.mem_append_left _ he) hnd.1)).mono fun e w' ⟨h5, h6⟩ => ?_
    refine ⟨_, h5, Own.row (xs := xs.reverse) (spare := spare) (by rw [List.length_reverse]; exact h2) (by rw [List.length_append, List.length_reverse, ← List.length_append]; exact h3) h4, ?_⟩
    exact hw.back hp (fun e0 he0 => by rw [List.mem_singleton.1 he0]) (fun e0 he0 => by rw [List.mem_singleton.1 he0]) h6
theorem _root_.Bw.Own.txts {w0 w : World} {D : Nat → Prop} {H Hs : SH} {sv : Value} {l : List (List UInt8)} {n : Nat} (ho : Own 9 1 sv n (l.map S) Hs) (hn : n = l.length) (hw : HF w0 D H w) (hsub : ∀ x ∈ Hs, x ∈ H) : Txts w sv l := by
  subst hn
  generalize hn : l.length = n at ho
  generalize hx : l.map S = xs at ho
  cases ho with
  | nil => exact ⟨none, 0, by rw [hn], fun j x hj => by have := (List.getElem?_eq_some_iff.1 hj).1; omega⟩
  | @row b n cap xs spare h1 h2 h3 =>
    subst hx
    refine ⟨some ⟨b, 0, none⟩, cap, by rw [hn], fun j x hj => ⟨b, 0, rfl, ?_⟩⟩
    exact cell_row hw (hsub _ (.head _)) (by rw [nth_eq, Nat.zero_add, List.getElem?_append_left (by rw [List.length_map]; exact (List.getElem?_eq_some_iff.1 hj).1), List.getElem?_map, hj]; rfl)
theorem _root_.Bw.Own.head {e sz n : Nat} {v : Value} {xs : List Value} {Hs : SH} (h : Own e sz v n xs Hs) {ad : Option Addr} {cp : Nat} (hv : v = .slice ad n cp) (k : Nat) (hk : 0 < k) (hkn : k ≤ n) (w0 : World) (D : Nat → Prop) (H : SH) (hsub : ∀ x ∈ Hs, x ∈ H) : ∃ a, ad = some a ∧ ∀ w, HF w0 D H w → ∀ (j : Nat) u, (xs.take k)[j]? = some u → w.cell? (a.add j) = some u := by
  cases h with
  | nil => omega
  | @row b n cap xs spare hn hc hle =>
    cases hv
    refine ⟨_, rfl, fun w hw j u hj => ?_⟩
    have hjx : xs[j]? = some u := by
      rw [List.getElem?_take] at hj
      split at hj
      · exact hj
      · cases hj
    have := cell_row hw (hsub _ (.head _)) (off := j) (v := u) (by rw [nth_eq, List.getElem?_append_left (List.getElem?_eq_some_iff.1 hjx).1]; exact hjx)
    by_cases h0 : j = 0
    · subst h0; simpa [Addr.add] using this
    · simpa [Addr.add, h0] using this
theorem f5_any (w : World) (l : List (List Prt)) (sv : Value) (hsv : Tbl w sv l) (q : UInt8) : Calls Try.prog 5 #[sv, .int .u8 (q.toNat : Int)] w fun e w' => e = .returned (.bool true) ∧ HF w (fun _ => False) [] w' := by
  refine enter (fun _ => False) [] Try.func5 rfl Try.ntmps5 rfl rfl (HF.start w _) fun c hc => ?_
  subst hc
  refine GC.seq ?_
  refine GC.reg ?_  -- region 0, gin.go:52
  refine G.v (V.asg rfl) rfl ?_
  refine G.nil ?_
  refine GC.seq ?_
  refine GC.seq ?_
  refine GC.reg ?_  -- region 1, gin.go:53
  refine G.v (V.mv rfl) rfl ?_
  refine G.callP (v := .bool (dec (Fits4 l))) Try.call17 rfl rfl (fun w1 hw1 => f17_any w1 l sv (hsv.old hw1)) ?_
  refine G.v (V.not rfl) rfl ?_
  refine G.nil ?_
  refine GC.cond rfl (fun h11 => ?_) (fun h11 => ?_)
  · refine GC.seq ?_
    refine GC.reg ?_  -- region 2, gin.go:54
    refine G.v (V.asg rfl) rfl ?_
    refine G.nil ?_
    exact GC.ret1 rfl rfl fun w' hw' => ⟨rfl, hw'.sub (List.nil_sublist _)⟩
  refine GC.skip ?_
  refine GC.seq ?_
  refine GC.seq ?_
  have h4 : Fits4 l := dec_true.1 (by simpa using h11)
  refine GC.reg ?_  -- region 3, gin.go:56
  refine G.v (V.mv rfl) rfl ?_
  refine G.callP (v := .bool (dec (FitsN l [47]))) Try.call19 rfl rfl (fun w1 hw1 => f19_any w1 l sv (hsv.old hw1) h4 [47] (by simp)) ?_
  refine G.v (V.not rfl) rfl ?_
  refine G.nil ?_
  refine GC.cond rfl (fun h14 => ?_) (fun h14 => ?_)
  · refine GC.seq ?_
    refine GC.reg ?_  -- region 4, gin.go:57
    refine G.callP (v := .bool true) Try.call14 rfl rfl (fun w1 _ => f14_any w1) ?_
    refine G.v (V.asg rfl) rfl ?_
    refine G.nil ?_
    exact GC.ret1 rfl rfl fun w' hw' => ⟨rfl, hw'.sub (List.nil_sublist _)⟩
  refine GC.skip ?_
  refine GC.seq ?_
  have hft : FitsN l [47] := dec_true.1 (by simpa using h14)
  obtain ⟨h30, htab, _⟩ := hft
  have hcl := htab.clean
  have hbd : ∀ r ∈ l, (rtT r).length ≤ 1000000 ∧ r.length ≤ 1000000 := fun r hr => ⟨Nat.le_trans (hcl r hr).txt.1 (by omega), (clean_len (hcl r hr)).2⟩
  have htt : l.map rtT = (l.map tokT).map txt := by
    rw [List.map_map]
    exact List.map_congr_left fun r hr => (txt_tokT (hcl r hr).k2).symm
  have hgood : ∀ r ∈ l.map tokT, Gt.Good r := fun r hr => by
    obtain ⟨x, hx, rfl⟩ := List.mem_map.1 hr
    exact (hcl x hx).good
  have hl2 : ∀ r ∈ l.map tokT, (txt r).length ≤ 20000 ∧ ∀ c ∈ txt r, c ≠ 92 := fun r hr => by
    obtain ⟨x, hx, rfl⟩ := List.mem_map.1 hr
    rw [txt_tokT (hcl x hx).k2]
    exact (hcl x hx).txt
  have hperm : ∀ ts : List (List Tok), ts.Perm (l.map tokT) → ∀ w1 kv, Txts w1 kv (ts.map txt) → Calls Try.prog 22 #[kv] w1 fun e w' => e = .returned (I (-1)) ∧ HF w1 (fun _ => False) [] w' := fun ts hts w1 kv htx => by
    have hlen := hts.length_eq
    rw [List.length_map] at hlen
    have h := f22_any w1 ts kv (fun r hr => hgood r (hts.mem_iff.1 hr)) (fun r hr => (hl2 r (hts.mem_iff.1 hr)).1) (fun r hr => (hl2 r (hts.mem_iff.1 hr)).2) (by omega) htx
    obtain ⟨t, ht⟩ := addAll_perm hgood htab.pw hts
    rw [ht] at h
    exact h
  refine GC.reg ?_  -- region 5, gin.go:59
  refine G.v (V.mv rfl) rfl ?_
  refine G.callW (fun v H2 => ∃ Hk, Own 9 1 v l.length (((l.map tokT).map txt).map S) Hk ∧ H2 = Hk ++ []) Try.call23 rfl rfl (fun w1 hw1 => ?_) ?_
  · refine (f23_any w1 l sv (hsv.old hw1) hbd (by omega)).mono fun e w' ⟨kv, Hs, h1, h2, h3⟩ => ?_
    rw [htt] at h2
    exact ⟨_, _, h1, hw1.after0 h3 h2.w, Hs, h2, rfl⟩
  rintro kv H2 ⟨Hs, hown, rfl⟩
  refine G.v (V.asg rfl) rfl ?_
  refine G.nil ?_
  rw [List.append_nil]
  obtain ⟨ad, cp, rfl, hcp, htail⟩ := hown.tail (by simp)
  refine GC.seq ?_
  refine GC.seq ?_
  refine GC.reg ?_  -- region 6, gin.go:60
  refine G.v (V.mv rfl) rfl ?_
  refine G.v (V.lenL Try.underlying26 rfl) rfl ?_
  refine G.v (V.asg rfl) rfl ?_
  refine G.nil ?_
  refine GC.seq ?_
  refine GC.reg ?_  -- region 7, gin.go:60
  refine G.v (V.mv rfl) rfl ?_
  refine G.v (V.gt rfl rfl) rfl ?_
  refine G.nil ?_
  refine GC.join (fun fr' H' => ∃ (ts : List (List Tok)) (kv : Value) (Hs : SH), ts.Perm (l.map tokT) ∧ Own 9 1 kv l.length ((ts.map txt).map S) Hs ∧ Sub [(5, kv)] fr' ∧ Hs = H') (fun J21 => ?_) ?_
  · refine GC.condD rfl (fun h21 => ?_) (fun h21 => ?_)
    · refine GC.seq ?_
      refine GC.reg ?_  -- region 8, gin.go:61
      refine G.v (V.mv rfl) rfl ?_
      refine G.v (V.cvI Try.underlying5 Try.underlying3 rfl) rfl ?_
      have hq := q.toNat_lt
      have hwr : IntKind.i64.wrap (q.toNat : Int) = (q.toNat : Int) := by
        unfold IntKind.wrap
        simp [IntKind.bits, IntKind.signed]
        omega
      rw [hwr]
      refine G.v (V.mv rfl) rfl ?_
      refine G.v (V.remI (i := q.toNat) (j := l.length) rfl rfl (by omega)) rfl ?_
      refine G.v (V.asg rfl) rfl ?_
      refine G.nil ?_
      obtain ⟨k, hk⟩ : ∃ k, k = q.toNat % l.length := ⟨_, rfl⟩
      have hkn : k < l.length := by rw [hk]; exact Nat.mod_lt _ (by omega)
      rw [← hk]
      obtain ⟨xs, hxs⟩ : ∃ xs, xs = ((l.map tokT).map txt).map S := ⟨_, rfl⟩
      have hxl : xs.length = l.length := by rw [hxs]; simp
      have hone : ∀ u ∈ xs, u.oneCell' = true := fun u hu => by
        rw [hxs] at hu
        obtain ⟨x, _, rfl⟩ := List.mem_map.1 hu
        rfl
      rw [← hxs] at hown htail
      refine GC.regM 9 (fun _ => True) mixed (by kernel_rfl) ?_  -- region 9, gin.go:62
      refine GM.p 1 rfl (by kernel_rfl) (by kernel_rfl) (fun _ _ => trivial) (fun _ => V.mv rfl) rfl ?_
      refine GM.p 2 rfl (by kernel_rfl) (by kernel_rfl) (fun _ _ => trivial) (fun _ => V.mv rfl) rfl ?_
      refine GM.p 3 rfl (by kernel_rfl) (by kernel_rfl) (fun _ _ => trivial) (fun _ => V.slTk (i := k) Try.underlying26 Try.sizeOf9 rfl rfl (by omega) hcp) rfl ?_
      refine GM.p 5 rfl (by kernel_rfl) (by kernel_rfl) (fun _ _ => trivial) (fun _ => V.mv rfl) rfl ?_
      refine GM.p 6 rfl (by kernel_rfl) (by kernel_rfl) (fun _ _ => trivial) (fun _ => V.mv rfl) rfl ?_
      refine GM.p 7 rfl (by kernel_rfl) (by kernel_rfl) (fun _ _ => trivial) (fun _ => V.slTH (i := k) Try.underlying26 Try.sizeOf9 rfl rfl (by omega)) rfl ?_
      refine GM.one 0 rfl (by kernel_rfl) ?_
      refine GMB.bs0 Try.underlying26 Try.sizeOf9 Try.zeroValue9 (fun _ _ => trivial) rfl (fun eb => ?_)
      refine GM.one 4 rfl (by kernel_rfl) ?_
      refine GMB.appZ (i := Try.t9) (sz := 1) (by_ := 16) (vs := xs.drop k) Try.underlying26 rfl rfl rfl rfl rfl rfl rfl (Own.row (b := eb) (n := 0) (cap := 0) (xs := []) (spare := []) rfl rfl (Nat.le_refl _)) (H' := Hs) (.of_eq rfl) (fun h0 => by have := htail k w (fun _ => False) (⟨eb, true, .row [] 9 (0, 0)⟩ :: Hs) (fun e he => List.mem_cons_of_mem _ he) h0; rw [Nat.mul_one] at this ⊢; exact this) (by rw [List.length_drop]; omega) (fun u hu => hone u (List.mem_of_mem_drop hu)) (by omega) (by omega) (fun _ _ => trivial) rfl (fun kz Hz hoz => ?_)
      refine GM.one 8 rfl (by kernel_rfl) ?_
      refine GMB.appZ (i := Try.t9) (sz := 1) (by_ := 16) (vs := xs.take k) Try.underlying26 rfl rfl rfl rfl rfl rfl rfl hoz (H' := Hs) List.perm_append_comm (fun h0 => hown.head rfl k h0 (by omega) w (fun _ => False) (Hs ++ Hz) (fun e he => List.mem_append_left _ he)) (by rw [List.length_take]; omega) (fun u hu => hone u (List.mem_of_mem_take hu)) (by omega) (by omega) (fun _ _ => trivial) rfl (fun kz2 Hz2 hoz2 => ?_)
      refine GM.tl (by kernel_rfl) ?_
      refine G.v (V.asg rfl) rfl ?_
      refine G.nil ?_
      refine GC.turn (H' := Hz2) (fun w1 h1 => h1.sub (List.sublist_append_right _ _)) ?_
      have hrot : [] ++ xs.drop k ++ xs.take k = ((((l.map tokT).drop k ++ (l.map tokT).take k).map txt).map S) := by
        rw [hxs, List.map_append, List.map_append, List.map_drop, List.map_drop, List.map_take, List.map_take]; rfl
      have hnn : 0 + (l.length - k) + k = l.length := by omega
      rw [hrot, hnn] at hoz2
      refine J21 _ _ ⟨(l.map tokT).drop k ++ (l.map tokT).take k, kz2, Hz2, ?_, hoz2, .cons rfl .nil, rfl⟩
      exact List.perm_append_comm.trans (.of_eq (List.take_append_drop k _))
    refine GC.skip ?_
    exact J21 _ _ ⟨_, _, _, List.Perm.refl _, hown, .cons rfl .nil, rfl⟩
  rintro fr' H' ⟨ts, kv, Hs, hts, hown, hs1, rfl⟩
  refine GC.weak hs1 ?_
  clear hs1
  have htl : l.length = (ts.map txt).length := by rw [List.length_map, hts.length_eq, List.length_map]
  refine GC.seq ?_
  refine GC.reg ?_  -- region 10, gin.go:64
  refine G.v (V.mv rfl) rfl ?_
  refine G.callW (fun v H2 => ∃ Hb, Own 9 1 v (ts.map txt).length ((ts.map txt).map S) Hb ∧ H2 = Hb ++ Hs) Try.call25 rfl rfl (fun w1 hw1 => ?_) ?_
  · refine (f25_any w1 (ts.map txt) kv (hown.txts htl hw1 (fun e he => he)) (by omega)).mono fun e w' ⟨kb, Hb, h1, h2, h3⟩ => ?_
    exact ⟨_, _, h1, hw1.after0 h3 h2.w, Hb, h2, rfl⟩
  rintro kb H2 ⟨Hb, hob, rfl⟩
  refine G.v (V.asg rfl) rfl ?_
  refine G.nil ?_
  refine GC.seq ?_
  refine GC.reg ?_  -- region 11, gin.go:65
  refine G.v (V.mv rfl) rfl ?_
  refine G.callW (fun v H2 => ∃ Hb', Own 9 1 kb (ts.reverse.map txt).length ((ts.reverse.map txt).map S) Hb' ∧ H2 = Hb' ++ Hs) Try.call26 rfl rfl (fun w1 hw1 => ?_) ?_
  · have hob' : Own 9 1 kb ((ts.map txt).map S).length ((ts.map txt).map S) Hb := by rw [List.length_map]; exact hob
    refine (f26_own hw1 (.refl _) (fun u hu => by obtain ⟨x, _, rfl⟩ := List.mem_map.1 hu; rfl) (by rw [List.length_map]; omega) hob').mono fun e w' ⟨Hb', h1, h2, h3⟩ => ?_
    refine ⟨_, _, h1, h3, Hb', ?_, rfl⟩
    rw [List.map_reverse, List.map_reverse, List.length_reverse]
    rw [List.length_map] at h2
    exact h2
  rintro v H2 ⟨Hb', hob, rfl⟩
  refine G.nil ?_
  refine GC.seq ?_
  refine GC.reg ?_  -- region 12, gin.go:66
  refine G.callP (v := .bool true) Try.call14 rfl rfl (fun w1 _ => f14_any w1) ?_
  refine G.v (V.mv rfl) rfl ?_
  refine G.bc 40 rfl (fun h40 => ?_) (fun h40 => ?_)
  · refine G.vg rfl rfl (V.mv rfl) rfl ?_
    refine G.gd rfl rfl ?_
    refine G.callP (v := I (-1)) Try.call22 rfl rfl (fun w1 hw1 => hperm ts hts w1 kv (hown.txts htl hw1 (fun e he => List.mem_append_right _ he))) ?_
    refine G.vg rfl rfl (V.eqI rfl rfl) rfl ?_
    refine G.v (V.pickT rfl rfl) rfl ?_
    refine G.v (V.mv rfl) rfl ?_
    refine G.bc 45 rfl (fun h45 => ?_) (fun h45 => ?_)
    · refine G.vg rfl rfl (V.mv rfl) rfl ?_
      refine G.gd rfl rfl ?_
      refine G.callP (v := I (-1)) Try.call22 rfl rfl (fun w1 hw1 => hperm ts.reverse (ts.reverse_perm.trans hts) w1 kb (hob.txts rfl hw1 (fun e he => List.mem_append_left _ he))) ?_
      refine G.vg rfl rfl (V.eqI rfl rfl) rfl ?_
      refine G.v (V.pickT rfl rfl) rfl ?_
      refine G.v (V.asg rfl) rfl ?_
      refine G.nil ?_
      exact GC.ret1 rfl rfl fun w' hw' => ⟨rfl, hw'.sub (List.nil_sublist _)⟩
    · exact absurd h45 (by decide)
  · exact absurd h40 (by decide)

end Go.Proofs

/- FnGinRefused. Printed by wip/mk_gn10.py. -/
set_option maxRecDepth 20000
namespace Go.Proofs
open Go Bw

open Gt
/-- a table's cells -/
theorem Tbl.vals {w : World} {sv : Value} {l : List (List Prt)} (h : Tbl w sv l) : ∃ (ad : Option Addr) (cp : Nat) (vs : List Value), sv = .slice ad l.length cp ∧ vs.length = l.length ∧ (∀ u ∈ vs, u.oneCell' = true) ∧ (∀ (j : Nat) v, vs[j]? = some v → ∃ b o, ad = some ⟨b, o, none⟩ ∧ w.cell? ⟨b, o + j, none⟩ = some v) ∧ ∀ (j : Nat) v a, vs[j]? = some v → l[j]? = some a → Prts w v a := by
  obtain ⟨ad, cp, rfl, _, hc⟩ := h
  have key : ∀ n : Nat, n ≤ l.length → ∃ vs : List Value, vs.length = n ∧ (∀ u ∈ vs, u.oneCell' = true) ∧ (∀ (j : Nat) v, vs[j]? = some v → ∃ b o, ad = some ⟨b, o, none⟩ ∧ w.cell? ⟨b, o + j, none⟩ = some v) ∧ ∀ (j : Nat) v a, vs[j]? = some v → l[j]? = some a → Prts w v a := by
    intro n
    induction n with
    | zero => intro _; exact ⟨[], rfl, by simp, by simp, by simp⟩
    | succ n ih =>
      intro hn
      obtain ⟨vs, h1, h2, h3, h4⟩ := ih (by omega)
      obtain ⟨a, ha⟩ : ∃ a, l[n]? = some a := ⟨_, List.getElem?_eq_getElem (by omega)⟩
      obtain ⟨b, o, v, e, h5, h6⟩ := hc n a ha
      have hv : v.oneCell' = true := by
        obtain ⟨ad2, cp2, rfl, _⟩ := h6
        rfl
      refine ⟨vs ++ [v], by simp [h1], fun u hu => ?_, fun j x hx => ?_, fun j x a2 hx ha2 => ?_⟩
      · rcases List.mem_append.1 hu with hu | hu
        · exact h2 u hu
        · rw [List.mem_singleton.1 hu]; exact hv
      · rcases Nat.lt_or_ge j n with hj | hj
        · rw [List.getElem?_append_left (by omega)] at hx; exact h3 j x hx
        · have hl := (List.getElem?_eq_some_iff.1 hx).1
          simp only [List.length_append, List.length_singleton] at hl
          have hjn : j = n := by omega
          subst hjn
          rw [List.getElem?_append_right (by omega), h1, Nat.sub_self] at hx
          cases hx
          exact ⟨b, o, e, h5⟩
      · rcases Nat.lt_or_ge j n with hj | hj
        · rw [List.getElem?_append_left (by omega)] at hx; exact h4 j x a2 hx ha2
        · have hl := (List.getElem?_eq_some_iff.1 hx).1
          simp only [List.length_append, List.length_singleton] at hl
          have hjn : j = n := by omega
          subst hjn
          rw [List.getElem?_append_right (by omega), h1, Nat.sub_self] at hx
          cases hx
          rw [ha] at ha2; cases ha2
          exact h6
  obtain ⟨vs, h1, h2, h3, h4⟩ := key l.length (Nat.le_refl _)
  exact ⟨ad, cp, vs, rfl, h1, h2, h3, h4⟩
theorem _root_.Bw.Own.tbl {w0 w : World} {D : Nat → Prop} {H Hs : SH} {sv : Value} {vs : List Value} {l : List (List Prt)} {n : Nat} (ho : Own 35 1 sv n vs Hs) (hn : n = l.length) (hv : vs.length = n) (hp : ∀ (j : Nat) v a, vs[j]? = some v → l[j]? = some a → Prts w v a) (hw : HF w0 D H w) (hsub : ∀ x ∈ Hs, x ∈ H) : Tbl w sv l := by
  subst hn
  generalize hn : l.length = n at ho hv
  cases ho with
  | nil => exact ⟨none, 0, by rw [hn], by omega, fun j x hj => by have := (List.getElem?_eq_some_iff.1 hj).1; omega⟩
  | @row b n cap xs spare h1 h2 h3 =>
    refine ⟨some ⟨b, 0, none⟩, cap, by rw [hn], by omega, fun j a hj => ?_⟩
    have hl := (List.getElem?_eq_some_iff.1 hj).1
    obtain ⟨v, hvj⟩ : ∃ v, vs[j]? = some v := ⟨_, List.getElem?_eq_getElem (by omega)⟩
    exact ⟨b, 0, v, rfl, cell_row hw (hsub _ (.head _)) (by rw [nth_eq, Nat.zero_add, List.getElem?_append_left (by omega)]; exact hvj), hp j v a hvj hj⟩
theorem table_snoc {l : List (List Prt)} {r : List Prt} (h : TableN l) (hr : Gt.Clean r) (hn : ¬ TableN (l ++ [r])) : ∃ s ∈ l, Gt.apart (tokT r) (tokT s) = false := by
  refine Classical.byContradiction fun hno => hn fun j a ha => ?_
  rcases Nat.lt_or_ge j l.length with hj | hj
  · rw [List.getElem?_append_left hj] at ha
    obtain ⟨h1, h2⟩ := h j a ha
    exact ⟨h1, fun b hb => h2 b (by rwa [List.take_append_of_le_length (by omega)] at hb)⟩
  · have hl := (List.getElem?_eq_some_iff.1 ha).1
    simp only [List.length_append, List.length_singleton] at hl
    have hjn : j = l.length := by omega
    subst hjn
    rw [List.getElem?_append_right (Nat.le_refl _), Nat.sub_self] at ha
    cases ha
    refine ⟨hr, fun b hb => ?_⟩
    rw [List.take_left] at hb
    refine (hr.apart (h.clean b hb)).2 ?_
    cases hap : Gt.apart (tokT r) (tokT b) with
    | true => rfl
    | false => exact absurd ⟨b, hb, hap⟩ hno
theorem f4_any (w : World) (l : List (List Prt)) (sv : Value) (hsv : Tbl w sv l) (r : List Prt) (rv : Value) (hrv : Prts w rv r) : Calls Try.prog 4 #[sv, rv] w fun e w' => e = .returned (.bool true) ∧ HF w (fun _ => False) [] w' := by
  refine enter (fun _ => False) [] Try.func4 rfl Try.ntmps4 rfl rfl (HF.start w _) fun c hc => ?_
  subst hc
  have hrone : rv.oneCell' = true := by
    obtain ⟨ad2, cp2, rfl, _⟩ := hrv
    rfl
  have hslice : ∃ ad cp, sv = .slice ad l.length cp := by
    obtain ⟨ad, cp, h, _⟩ := hsv
    exact ⟨ad, cp, h⟩
  refine GC.seq ?_
  refine GC.reg ?_  -- region 0, gin.go:70
  refine G.v (V.asg rfl) rfl ?_
  refine G.nil ?_
  refine GC.seq ?_
  refine GC.seq ?_
  refine GC.join (fun fr' H' => Sub [(0, sv), (1, rv), (12, .bool (dec (¬ (Fits4 l ∧ Fits5 r))))] fr' ∧ H' = []) (fun J1 => ?_) ?_
  · refine GC.reg ?_  -- region 1, gin.go:71
    refine G.v (V.mv rfl) rfl ?_
    refine G.callP (v := .bool (dec (Fits4 l))) Try.call17 rfl rfl (fun w1 hw1 => f17_any w1 l sv (hsv.old hw1)) ?_
    refine G.v (V.not rfl) rfl ?_
    refine G.v (V.mv rfl) rfl ?_
    refine G.bc 8 rfl (fun h8 => ?_) (fun h8 => ?_)
    · refine G.sg rfl rfl rfl rfl rfl rfl ?_
      refine G.sg rfl rfl rfl rfl rfl rfl ?_
      refine G.sg rfl rfl rfl rfl rfl rfl ?_
      refine G.v (V.pickT rfl rfl) rfl ?_
      refine G.nil ?_
      refine J1 _ _ ⟨.cons rfl (.cons rfl (.cons (rfl.trans (congrArg (fun b => some (Value.bool b)) ?_)) .nil)), rfl⟩
      have h8' : ¬ Fits4 l := dec_false.1 (by simpa using h8)
      exact dec_t fun h => h8' h.1
    · refine G.vg rfl rfl (V.mv rfl) rfl ?_
      refine G.gd rfl rfl ?_
      refine G.callP (v := .bool (dec (Fits5 r))) Try.call18 rfl rfl (fun w1 hw1 => f18_any w1 r rv (hrv.old hw1)) ?_
      refine G.vg rfl rfl (V.not rfl) rfl ?_
      refine G.v (V.pickF rfl rfl) rfl ?_
      refine G.nil ?_
      refine J1 _ _ ⟨.cons rfl (.cons rfl (.cons (rfl.trans (congrArg (fun b => some (Value.bool b)) ?_)) .nil)), rfl⟩
      have h8' : Fits4 l := dec_true.1 (by simpa using h8)
      exact dec_nc (not_congr ⟨fun h => ⟨h8', h⟩, fun h => h.2⟩)
  rintro fr' H' ⟨hs4, rfl⟩
  refine GC.weak hs4 ?_
  clear hs4
  refine GC.cond rfl (fun h12 => ?_) (fun h12 => ?_)
  · refine GC.seq ?_
    refine GC.reg ?_  -- region 2, gin.go:72
    refine G.v (V.asg rfl) rfl ?_
    refine G.nil ?_
    refine GC.ret1 rfl rfl fun w' hw' => ⟨?_, hw'.sub (List.nil_sublist _)⟩
    first | rfl | simp
  refine GC.skip ?_
  refine GC.seq ?_
  refine GC.seq ?_
  have hfit := Classical.not_not.1 (dec_false.1 h12)
  obtain ⟨h4, h5⟩ := hfit
  refine GC.join (fun fr' H' => Sub [(0, sv), (1, rv), (29, .bool (dec (¬ (FitsN l [47] ∧ Gt.Clean r ∧ ¬ TableN (l ++ [r])))))] fr' ∧ H' = []) (fun J3 => ?_) ?_
  · refine GC.reg ?_  -- region 3, gin.go:74
    refine G.v (V.mv rfl) rfl ?_
    refine G.callP (v := .bool (dec (FitsN l [47]))) Try.call19 rfl rfl (fun w1 hw1 => f19_any w1 l sv (hsv.old hw1) h4 [47] (by simp)) ?_
    refine G.v (V.not rfl) rfl ?_
    refine G.v (V.mv rfl) rfl ?_
    refine G.bc 16 rfl (fun h16 => ?_) (fun h16 => ?_)
    · refine G.sg rfl rfl rfl rfl rfl rfl ?_
      refine G.sg rfl rfl rfl rfl rfl rfl ?_
      refine G.sg rfl rfl rfl rfl rfl rfl ?_
      refine G.v (V.pickT rfl rfl) rfl ?_
      refine G.v (V.mv rfl) rfl ?_
      refine G.sg rfl rfl rfl rfl rfl rfl ?_
      refine G.sg rfl rfl rfl rfl rfl rfl ?_
      refine G.sg rfl rfl rfl rfl rfl rfl ?_
      refine G.sg rfl rfl rfl rfl rfl rfl ?_
      refine G.sg rfl rfl rfl rfl rfl rfl ?_
      refine G.sg rfl rfl rfl rfl rfl rfl ?_
      refine G.sg rfl rfl rfl rfl rfl rfl ?_
      refine G.v (V.pickT rfl rfl) rfl ?_
      refine G.nil ?_
      refine J3 _ _ ⟨.cons rfl (.cons rfl (.cons (rfl.trans (congrArg (fun b => some (Value.bool b)) ?_)) .nil)), rfl⟩
      have h16' : ¬ FitsN l [47] := dec_false.1 (by simpa using h16)
      exact dec_t fun h => h16' h.1
    · refine G.vg rfl rfl (V.mv rfl) rfl ?_
      refine G.gd rfl rfl ?_
      refine G.callP (v := .bool (dec (Gt.Clean r))) Try.call20 rfl rfl (fun w1 hw1 => f20_any w1 r rv (hrv.old hw1) h5.2 h5.1) ?_
      refine G.vg rfl rfl (V.not rfl) rfl ?_
      refine G.v (V.pickF rfl rfl) rfl ?_
      refine G.v (V.mv rfl) rfl ?_
      refine G.bc 21 rfl (fun h21 => ?_) (fun h21 => ?_)
      · refine G.sg rfl rfl rfl rfl rfl rfl ?_
        refine G.sg rfl rfl rfl rfl rfl rfl ?_
        refine G.sg rfl rfl rfl rfl rfl rfl ?_
        refine G.sg rfl rfl rfl rfl rfl rfl ?_
        refine G.sg rfl rfl rfl rfl rfl rfl ?_
        refine G.sg rfl rfl rfl rfl rfl rfl ?_
        refine G.sg rfl rfl rfl rfl rfl rfl ?_
        refine G.v (V.pickT rfl rfl) rfl ?_
        refine G.nil ?_
        refine J3 _ _ ⟨.cons rfl (.cons rfl (.cons (rfl.trans (congrArg (fun b => some (Value.bool b)) ?_)) .nil)), rfl⟩
        have h21' : ¬ Gt.Clean r := dec_false.1 (by simpa using h21)
        exact dec_t fun h => h21' h.2.1
      · have h16' : FitsN l [47] := dec_true.1 (by simpa using h16)
        have h21' : Gt.Clean r := dec_true.1 (by simpa using h21)
        have h30 := h16'.1
        obtain ⟨ad, cp, vs, rfl, hvl, hvo, hvc, hvp⟩ := hsv.vals
        refine G.gd rfl rfl ?_
        refine G.bs0 Try.underlying34 Try.sizeOf35 Try.zeroValue35 rfl (fun eb heb => ?_)
        refine G.vg rfl rfl (V.mv rfl) rfl ?_
        refine G.gd rfl rfl ?_
        refine G.appZ (i := Try.t35) (sz := 1) (by_ := 24) (vs := vs) Try.underlying34 rfl rfl rfl rfl rfl rfl rfl (Own.row (b := eb) (n := 0) (cap := 0) (xs := []) (spare := []) rfl rfl (Nat.le_refl _)) (H' := []) (.of_eq rfl) (fun h0 => ?_) (by omega) hvo (by omega) (by omega) rfl (fun kz Hz hoz => ?_)
        · obtain ⟨v0, hv0⟩ : ∃ x, vs[0]? = some x := ⟨_, List.getElem?_eq_getElem (by omega)⟩
          obtain ⟨b, o, rfl, _⟩ := hvc 0 v0 hv0
          refine ⟨_, rfl, fun w1 h2 j u hj => ?_⟩
          obtain ⟨b', o', e0, h3⟩ := hvc j u hj
          cases e0
          have := h2.cellOld h3 id
          by_cases h00 : j = 0 <;> simpa [Addr.add, h00] using this
        refine G.vg rfl rfl (V.mv rfl) rfl ?_
        refine G.gd rfl rfl ?_
        refine G.bs (BS.one Try.underlying34 Try.sizeOf35 Try.zeroValue35 (v := rv) hrone) rfl rfl (fun sb hsb => ?_)
        refine G.gd rfl rfl ?_
        refine G.app (i := Try.t35) (sz := 1) (by_ := 24) Try.underlying34 rfl rfl rfl rfl rfl rfl rfl hoz (H' := [⟨sb, true, .row [rv] 35 (0, 0)⟩]) (List.perm_append_comm (l₁ := ([⟨sb, true, .row [rv] 35 (0, 0)⟩] : SH)) (l₂ := [] ++ Hz)) (src_row (vs := [rv]) (r := []) (.head _)) rfl (fun u hu => by rw [List.mem_singleton.1 hu]; exact hrone) (by omega) (by omega) (by omega) rfl (fun kz2 Hz2 hoz2 => ?_)
        refine G.gd rfl rfl ?_
        refine G.callP (v := .bool (dec (TableN (l ++ [r])))) Try.call21 rfl rfl (fun w1 hw1 => f21_any w1 (l ++ [r]) kz2 (hoz2.tbl (by simp) (by simp; omega) (fun j v a hj ha => ?_) hw1 (fun e he => List.mem_append_right _ he)) ⟨by simp; omega, fun a ha => ?_⟩) ?_
        · rcases Nat.lt_or_ge j l.length with hjl | hjl
          · rw [List.getElem?_append_left hjl] at ha
            rw [List.nil_append, List.getElem?_append_left (by omega)] at hj
            exact (hvp j v a hj ha).old hw1
          · have hl := (List.getElem?_eq_some_iff.1 ha).1
            simp only [List.length_append, List.length_singleton] at hl
            have hjn : j = l.length := by omega
            subst hjn
            rw [List.getElem?_append_right (Nat.le_refl _), Nat.sub_self] at ha
            rw [List.nil_append, List.getElem?_append_right (by omega), hvl, Nat.sub_self] at hj
            cases ha
            cases hj
            exact hrv.old hw1
        · rcases List.mem_append.1 ha with ha | ha
          · exact h4.2 a ha
          · rw [List.mem_singleton.1 ha]; exact h5
        refine G.v (V.pickF rfl rfl) rfl ?_
        refine G.nil ?_
        refine GC.turn (H' := []) (fun w1 h1 => h1.sub (List.nil_sublist _)) ?_
        refine J3 _ _ ⟨.cons rfl (.cons rfl (.cons (rfl.trans (congrArg (fun b => some (Value.bool b)) ?_)) .nil)), rfl⟩
        exact dec_c ⟨fun h h2 => h2.2.2 h, fun h => Classical.byContradiction fun h2 => h ⟨h16', h21', h2⟩⟩
  rintro fr' H' ⟨hs4, rfl⟩
  refine GC.weak hs4 ?_
  clear hs4
  refine GC.cond rfl (fun h29 => ?_) (fun h29 => ?_)
  · refine GC.seq ?_
    refine GC.reg ?_  -- region 4, gin.go:75
    refine G.callP (v := .bool true) Try.call14 rfl rfl (fun w1 _ => f14_any w1) ?_
    refine G.v (V.asg rfl) rfl ?_
    refine G.nil ?_
    refine GC.ret1 rfl rfl fun w' hw' => ⟨?_, hw'.sub (List.nil_sublist _)⟩
    first | rfl | simp
  refine GC.skip ?_
  refine GC.seq ?_
  have h3 := Classical.not_not.1 (dec_false.1 h29)
  obtain ⟨hft, hcr, hnt⟩ := h3
  obtain ⟨h30, htab, _⟩ := hft
  have hcl := htab.clean
  have hbd : ∀ r ∈ l, (rtT r).length ≤ 1000000 ∧ r.length ≤ 1000000 := fun r hr => ⟨Nat.le_trans (hcl r hr).txt.1 (by omega), (clean_len (hcl r hr)).2⟩
  have htt : l.map rtT = (l.map tokT).map txt := by
    rw [List.map_map]
    exact List.map_congr_left fun r hr => (txt_tokT (hcl r hr).k2).symm
  have hgood : ∀ r ∈ l.map tokT, Gt.Good r := fun r hr => by
    obtain ⟨x, hx, rfl⟩ := List.mem_map.1 hr
    exact (hcl x hx).good
  have hl2 : ∀ r ∈ l.map tokT, (txt r).length ≤ 20000 ∧ ∀ c ∈ txt r, c ≠ 92 := fun r hr => by
    obtain ⟨x, hx, rfl⟩ := List.mem_map.1 hr
    rw [txt_tokT (hcl x hx).k2]
    exact (hcl x hx).txt
  have htr := txt_tokT hcr.k2
  have hbad : addAll new ((l.map tokT ++ [tokT r]).map txt) 0 = .inr l.length := by
    obtain ⟨s, hs, hap⟩ := table_snoc htab hcr hnt
    have := addAll_bad (l.map tokT) (tokT r) new (fun _ => none) 0 (.inl ⟨rfl, rfl⟩) hgood hcr.good (fun x _ s v h => by cases h) htab.pw (.inr ⟨tokT s, List.mem_map_of_mem hs, hap⟩)
    rw [this, List.length_map, Nat.zero_add]
  obtain ⟨ad, cp, rfl⟩ := hslice
  refine GC.reg ?_  -- region 5, gin.go:77
  refine G.callP (v := .bool true) Try.call14 rfl rfl (fun w1 _ => f14_any w1) ?_
  refine G.v (V.mv rfl) rfl ?_
  refine G.bc 32 rfl (fun h32 => ?_) (fun h32 => ?_)
  · refine G.vg rfl rfl (V.mv rfl) rfl ?_
    refine G.gd rfl rfl ?_
    refine G.callW (fun v H2 => ∃ Hk, Own 9 1 v l.length (((l.map tokT).map txt).map S) Hk ∧ H2 = Hk ++ []) Try.call23 rfl rfl (fun w1 hw1 => ?_) ?_
    · refine (f23_any w1 l _ (hsv.old hw1) hbd (by omega)).mono fun e w' ⟨kv, Hs, h1, h2, h3⟩ => ?_
      rw [htt] at h2
      exact ⟨_, _, h1, hw1.after0 h3 h2.w, Hs, h2, rfl⟩
    rintro kv H2 ⟨Hs, hown, rfl⟩
    refine G.vg rfl rfl (V.mv rfl) rfl ?_
    refine G.gd rfl rfl ?_
    refine G.callP (v := S (txt (tokT r))) Try.call24 rfl rfl (fun w1 hw1 => by have := f24_any w1 r rv (hrv.old hw1) (Nat.le_trans hcr.txt.1 (by omega)) (clean_len hcr).2; rw [← htr] at this; exact this) ?_
    refine G.gd rfl rfl ?_
    refine G.bs (BS.one Try.underlying26 Try.sizeOf9 Try.zeroValue9 (v := S (txt (tokT r))) rfl) rfl rfl (fun sb hsb => ?_)
    refine G.gd rfl rfl ?_
    refine G.app (i := Try.t9) (sz := 1) (by_ := 16) Try.underlying26 rfl rfl rfl rfl rfl rfl rfl hown (H' := [⟨sb, true, .row [S (txt (tokT r))] 9 (0, 0)⟩]) (by rw [List.append_nil]; exact List.perm_append_comm (l₁ := ([⟨sb, true, .row [S (txt (tokT r))] 9 (0, 0)⟩] : SH))) (src_row (vs := [S (txt (tokT r))]) (r := []) (.head _)) rfl (by simp [Value.oneCell']) (by omega) (by omega) (by omega) rfl (fun kv2 Hs2 hown2 => ?_)
    have hlist : ((l.map tokT).map txt).map S ++ [S (txt (tokT r))] = (((l.map tokT ++ [tokT r]).map txt).map S) := by simp
    rw [hlist] at hown2
    refine G.gd rfl rfl ?_
    refine G.callP (v := I (l.length : Nat)) Try.call22 rfl rfl (fun w1 hw1 => ?_) ?_
    · have hlt : ∀ x ∈ l.map tokT ++ [tokT r], Gt.Good x ∧ (txt x).length ≤ 20000 ∧ ∀ c ∈ txt x, c ≠ 92 := fun x hx => by
        rcases List.mem_append.1 hx with hx | hx
        · exact ⟨hgood x hx, hl2 x hx⟩
        · rw [List.mem_singleton.1 hx]; exact ⟨hcr.good, by rw [htr]; exact hcr.txt⟩
      have h := f22_any w1 (l.map tokT ++ [tokT r]) kv2 (fun x hx => (hlt x hx).1) (fun x hx => (hlt x hx).2.1) (fun x hx => (hlt x hx).2.2) (by simp; omega) (hown2.txts (by simp) hw1 (fun e he => List.mem_append_right _ he))
      rw [hbad] at h
      exact h
    refine G.vg rfl rfl (V.mv rfl) rfl ?_
    refine G.vg rfl rfl (V.lenL Try.underlying34 rfl) rfl ?_
    refine G.vg rfl rfl (V.eqI rfl rfl) rfl ?_
    refine G.v (V.pickT rfl rfl) rfl ?_
    refine G.v (V.asg rfl) rfl ?_
    refine G.nil ?_
    refine GC.ret1 rfl rfl fun w' hw' => ⟨?_, hw'.sub (List.nil_sublist _)⟩
    first | rfl | simp
  · exact absurd h32 (by decide)

end Go.Proofs
