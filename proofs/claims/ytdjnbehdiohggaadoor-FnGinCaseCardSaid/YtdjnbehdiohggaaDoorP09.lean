/- Lemmas of the walk and plain facts (HuE11 .. HuE13). -/
import Derived.Test.YtdjnbehdiohggaaDoorP08
import Derived.Test.YtdjnbehdiohggaaDoorP01
/- addRoute: the search for an index. Printed by wip/mk_gu11.py. -/
set_option maxRecDepth 20000
namespace Go.Proofs
open Go Bw
open Gt
theorem bump_len (idx : List UInt8) (kids : List T0) (j : Nat) (hj : j < kids.length) : (bump idx kids j).2.1.length = kids.length := by
 unfold bump
 exact (moveTo_len _ (newPos_le _ _ _) (by simpa using hj)).trans (by simp)
theorem bump_np (idx : List UInt8) (kids : List T0) (j : Nat) : (bump idx kids j).2.2 ≤ j := newPos_le _ _ _
theorem u8_eq {x y : UInt8} (h : (x.toNat : Int) = (y.toNat : Int)) : x = y := UInt8.toNat_inj.1 (by omega)
theorem f72_idx {R : Ending → World → Prop} {w : World} {D : Nat → Prop} {nb hb num pfi i : Nat} {p full tp idx : List UInt8} {wl : Bool} {nt pr : Nat} {h0 : Option Nat} {f0 : List UInt8} {kids : List T0} {bs : List Nat} {kv hv : Value} {Hs Hh Hk Hr : SH} {fr : SF}
  (hs : Own 83 1 kv kids.length (bs.map (Pt · 0)) Hs) (hh : HV h0 hv Hh) (hk : HTs kids bs Hk) (_hpl : p.length ≤ 100000) (hfl : full.length ≤ 100000) (hpf : pfi + p.length ≤ full.length) (hip : i ≤ p.length) (hti : tp.length = i) (hsub : Sub [(0, Pt nb 0), (1, S p), (2, .slice (some ⟨hb, 0, none⟩) 1 1), (6, S full), (7, I (pfi : Int)), (8, I (i : Nat))] fr) {c : UInt8} (hlt : i < p.length) (hc : p[i]? = some c) (hnp : ¬ (nt = 2 ∧ c = 47 ∧ kids.length = 1)) (hkl9 : kids.length ≤ 90000) (hik : idx.length ≤ kids.length) {j : Nat} {k : T0} (hj : idxOf c idx = some j) (hkj : (bump idx kids j).2.1[(bump idx kids j).2.2]? = some k)
  (go : ∀ cb Hk1 Hr' fr', HT k cb Hk1 → (∀ k' Hk1', HT k' cb Hk1' → ∃ Hn', HT (.node () tp (bump idx kids j).1 wl nt pr h0 f0 ((bump idx kids j).2.1.set (bump idx kids j).2.2 k')) nb Hn' ∧ (Hk1' ++ Hr').Perm (Hn' ++ Hr)) → Sub [(0, Pt cb 0), (1, S (p.drop i)), (2, .slice (some ⟨hb, 0, none⟩) 1 1), (6, S full), (7, I ((pfi + tp.length : Nat) : Int))] fr' → GC Tryd.prog ⟨56, Tryd.f56, R, w, D⟩ 377 K72 fr' (Hk1 ++ (⟨hb, true, .row [I (num : Int)] 3 (0, 0)⟩ :: Hr'))) :
  GC Tryd.prog ⟨56, Tryd.f56, R, w, D⟩ 377 K72m fr (⟨nb, true, .row (nodeR tp idx wl nt pr kv hv f0) 94 (0, 0)⟩ :: ((Hs ++ (Hh ++ Hk)) ++ (⟨hb, true, .row [I (num : Int)] 3 (0, 0)⟩ :: Hr))) := by
 refine GC.weak hsub ?_
 clear hsub
 obtain ⟨X, hX⟩ : ∃ X, X = (Hh ++ Hk) ++ (⟨hb, true, .row [I (num : Int)] 3 (0, 0)⟩ :: Hr) := ⟨_, rfl⟩
 refine GC.turn (H' := ⟨nb, true, .row (nodeR tp idx wl nt pr kv hv f0) 94 (0, 0)⟩ :: (Hs ++ X)) (fun w1 h1 => by rw [hX, ← List.append_assoc]; exact h1) ?_
 have hkl2 := hk.len
 obtain ⟨ad, cap, rfl⟩ := hs.slice
 obtain ⟨ad2, l2, c2, rfl, hnn⟩ := hh.slice
 obtain ⟨hjc, hjn⟩ := idxOf_some hj
 have hjl : j < idx.length := (List.getElem?_eq_some_iff.1 hjc).1
 refine GC.seq ?_
 refine GC.seq ?_
 refine GC.reg ?_
 refine G.m1 ?_
 refine G.m1 ?_
 refine G.v (V.lenS Tryd.underlying9 rfl) rfl ?_
 refine G.v (V.lt rfl rfl) rfl ?_
 refine G.nil ?_
 refine GC.condD rfl (fun h129 => ?_) (fun h129 => absurd (by omega) h129)
 refine GC.seq ?_
 refine GC.reg ?_
 refine G.m1 ?_
 refine G.m1 ?_
 refine G.v (V.slL (i := i) Tryd.underlying9 rfl rfl hip) rfl ?_
 refine G.m2 ?_
 refine G.nil ?_
 refine GC.seq ?_
 refine GC.reg ?_
 refine G.m1 ?_
 refine G.v (V.idx (i := 0) (b := c) Tryd.underlying9 rfl rfl (by rw [List.getElem?_drop]; exact hc)) rfl ?_
 refine G.m2 ?_
 refine G.nil ?_
 refine GC.seq ?_
 refine GC.seq ?_
 refine GC.join (fun fr' H' => Sub [(0, Pt nb 0), (1, S (p.drop i)), (2, .slice (some ⟨hb, 0, none⟩) 1 1), (6, S full), (7, I (pfi : Int)), (10, .int .u8 (c.toNat : Int)), (151, .bool false)] fr' ∧ H' = ⟨nb, true, .row (nodeR tp idx wl nt pr (.slice ad kids.length cap) (.slice ad2 l2 c2) f0) 94 (0, 0)⟩ :: (Hs ++ X)) (fun J18 => ?_) ?_
 ·refine GC.reg ?_
  refine G.m1 ?_
  refine G.v (V.nc rfl) rfl ?_
  refine G.v (V.fa F94_3 rfl) rfl ?_
  refine G.v (V.ld (b := nb) (off := 0 + 3) (wf := true) (l := nodeR tp idx wl nt pr (.slice ad kids.length cap) (.slice ad2 l2 c2) f0) (T := 94) (fz := (0, 0)) (v := .int .u8 (nt : Int)) Tryd.isAgg88 rfl (.head _) rfl) rfl ?_
  refine G.v (V.eqI rfl rfl) rfl ?_
  refine G.m1 ?_
  refine G.bc 140 rfl (fun h140 => ?_) (fun h140 => ?_)
  ·refine G.m5 ?_
   refine G.vg rfl rfl (V.eqI rfl rfl) rfl ?_
   refine G.m3 ?_
   refine G.m1 ?_
   refine G.bc 144 rfl (fun h144 => ?_) (fun h144 => ?_)
   ·refine G.m5 ?_
    refine G.vg rfl rfl (V.nc rfl) rfl ?_
    refine G.vg rfl rfl (V.fa F94_5 rfl) rfl ?_
    refine G.vg rfl rfl (V.ld (b := nb) (off := 0 + 5) (wf := true) (l := nodeR tp idx wl nt pr (.slice ad kids.length cap) (.slice ad2 l2 c2) f0) (T := 94) (fz := (0, 0)) (v := (.slice ad kids.length cap)) Tryd.isAgg90 rfl (.head _) rfl) rfl ?_
    refine G.vg rfl rfl (V.lenL Tryd.underlying90 rfl) rfl ?_
    refine G.vg rfl rfl (V.eqI rfl rfl) rfl ?_
    refine G.m3 ?_
    refine G.nil ?_
    refine J18 _ _ ⟨?_, rfl⟩
    have e151 : decide (((kids.length : Nat) : Int) = 1) = false := decide_eq_false fun e => hnp ⟨by have := of_decide_eq_true h140; omega, u47 (by have := of_decide_eq_true h144; omega), by omega⟩
    rw [e151]
    exact .of rfl
   ·refine G.s1 ?_
    refine G.s1 ?_
    refine G.s1 ?_
    refine G.s1 ?_
    refine G.s1 ?_
    refine G.s1 ?_
    refine G.m4 ?_
    refine G.nil ?_
    exact J18 _ _ ⟨.of rfl, rfl⟩
  ·refine G.s1 ?_
   refine G.s1 ?_
   refine G.m4 ?_
   refine G.m1 ?_
   refine G.s1 ?_
   refine G.s1 ?_
   refine G.s1 ?_
   refine G.s1 ?_
   refine G.s1 ?_
   refine G.s1 ?_
   refine G.m4 ?_
   refine G.nil ?_
   exact J18 _ _ ⟨.of rfl, rfl⟩
 rintro fr' H' ⟨hs18, rfl⟩
 refine GC.weak hs18 ?_
 clear hs18
 refine GC.condF rfl ?_
 refine GC.skip ?_
 refine GC.seq ?_
 refine GC.seq ?_
 refine GC.regQ mixed (by kernel_rfl) ?_
 refine GQ.v (V.mv rfl) rfl ?_
 refine GQ.v (V.nc rfl) rfl ?_
 refine GQ.v (V.fa F94_1 rfl) rfl ?_
 refine GQ.v (V.ld (b := nb) (off := 0 + 1) (wf := true) (l := nodeR tp idx wl nt pr (.slice ad kids.length cap) (.slice ad2 l2 c2) f0) (T := 94) (fz := (0, 0)) (v := S idx) Tryd.isAgg9 rfl (.head _) rfl) rfl ?_
 refine GQ.v (V.lenS Tryd.underlying9 rfl) rfl ?_
 refine GQ.v (V.asg rfl) rfl ?_
 refine GQ.v (V.asg rfl) rfl ?_
 refine GQ.nil ?_
 refine GC.block ?_
 refine GC.loopJ (fun N fr' H' => ∃ q, q + N = j ∧ Sub [(0, Pt nb 0), (1, S (p.drop i)), (2, .slice (some ⟨hb, 0, none⟩) 1 1), (6, S full), (7, I (pfi : Int)), (10, .int .u8 (c.toNat : Int)), (11, I (q : Nat)), (12, I (idx.length : Nat))] fr' ∧ H' = ⟨nb, true, .row (nodeR tp idx wl nt pr (.slice ad kids.length cap) (.slice ad2 l2 c2) f0) 94 (0, 0)⟩ :: (Hs ++ X)) j
  ⟨0, by omega, .of rfl, rfl⟩ ?_
 rintro N fr' H' ⟨q, hq, hs22, rfl⟩ ih
 refine GC.weak hs22 ?_
 clear hs22
 refine GC.seq ?_
 refine GC.seq ?_
 refine GC.reg ?_
 refine G.m1 ?_
 refine G.m1 ?_
 refine G.v (V.lt rfl rfl) rfl ?_
 refine G.nil ?_
 refine GC.condD rfl (fun h179 => ?_) (fun h179 => absurd (by omega) h179)
 refine GC.skip ?_
 refine GC.seq ?_
 refine GC.block ?_
 refine GC.seq ?_
 obtain ⟨x, hx⟩ : ∃ x, idx[q]? = some x := ⟨_, List.getElem?_eq_getElem (by omega)⟩
 refine GC.reg ?_
 refine G.m1 ?_
 refine G.m1 ?_
 refine G.v (V.nc rfl) rfl ?_
 refine G.v (V.fa F94_1 rfl) rfl ?_
 refine G.v (V.ld (b := nb) (off := 0 + 1) (wf := true) (l := nodeR tp idx wl nt pr (.slice ad kids.length cap) (.slice ad2 l2 c2) f0) (T := 94) (fz := (0, 0)) (v := S idx) Tryd.isAgg9 rfl (.head _) rfl) rfl ?_
 refine G.m1 ?_
 refine G.v (V.idx (i := q) (b := x) Tryd.underlying9 rfl rfl hx) rfl ?_
 refine G.v (V.eqI rfl rfl) rfl ?_
 refine G.nil ?_
 refine GC.condD rfl (fun h189 => ?_) (fun h189 => ?_)
 ·refine GC.seq ?_
  have hqj : q = j := by
   rcases Nat.lt_or_ge q j with h | h
   ·exact absurd (by rw [hx, u8_eq h189]) (hjn q h)
   ·omega
  subst hqj
  refine GC.reg ?_
  refine G.m1 ?_
  refine G.m1 ?_
  refine G.v (V.nc rfl) rfl ?_
  refine G.v (V.fa F94_0 rfl) rfl ?_
  refine G.v (V.ld (b := nb) (off := 0 + 0) (wf := true) (l := nodeR tp idx wl nt pr (.slice ad kids.length cap) (.slice ad2 l2 c2) f0) (T := 94) (fz := (0, 0)) (v := S tp) Tryd.isAgg9 rfl (.head _) rfl) rfl ?_
  refine G.v (V.lenS Tryd.underlying9 rfl) rfl ?_
  refine G.v (V.addI (r := ((pfi + tp.length : Nat) : Int)) rfl rfl rfl (by omega) (by omega)) rfl ?_
  refine G.m2 ?_
  refine G.nil ?_
  refine GC.seq ?_
  refine GC.reg ?_
  refine G.m1 ?_
  refine G.m1 ?_
  refine G.callL (H1 := ⟨nb, true, .row (nodeR tp idx wl nt pr (.slice ad kids.length cap) (.slice ad2 l2 c2) f0) 94 (0, 0)⟩ :: (Hs ++ Hk)) (Hk := Hh ++ (⟨hb, true, .row [I (num : Int)] 3 (0, 0)⟩ :: Hr)) (fun v H1' => v = I ((bump idx kids q).2.2 : Nat) ∧ ∃ Hs' Hk', Own 83 1 (.slice ad kids.length cap) kids.length ((moveTo bs q (bump idx kids q).2.2).map (Pt · 0)) Hs' ∧ HTs (bump idx kids q).2.1 (moveTo bs q (bump idx kids q).2.2) Hk' ∧ H1' = ⟨nb, true, .row (nodeR tp (bump idx kids q).1 wl nt pr (.slice ad kids.length cap) (.slice ad2 l2 c2) f0) 94 (0, 0)⟩ :: (Hs' ++ Hk')) ?_ (fun e0 he0 => ?_) Tryd.call64 rfl rfl (fun w1 hw1 _ => ?_) ?_
  ·rw [hX]
   have p1 := perm_idx [[⟨nb, true, .row (nodeR tp idx wl nt pr (.slice ad kids.length cap) (.slice ad2 l2 c2) f0) 94 (0, 0)⟩], Hs, Hh, Hk, [⟨hb, true, .row [I (num : Int)] 3 (0, 0)⟩], Hr] [0, 1, 2, 3, 4, 5] [0, 1, 3, 2, 4, 5] (by decide)
   simpa using p1
  ·rcases List.mem_cons.1 he0 with rfl | he0
   ·rfl
   ·rcases List.mem_append.1 he0 with he0 | he0
    ·exact hs.w e0 he0
    ·exact hk.w e0 he0
  ·refine (f81_any w1 _ nb q tp idx wl nt pr (.slice ad2 l2 c2) f0 (.slice ad kids.length cap) kids bs Hs Hk (by omega) hjl (by omega) (by omega) hs hk hw1).mono fun e w' ⟨h1, Hs', Hk', h2, h3, h4⟩ => ⟨_, _, h1, fun e0 he0 => ?_, h4, rfl, Hs', Hk', h2, h3, rfl⟩
   rcases List.mem_cons.1 he0 with rfl | he0
   ·rfl
   ·rcases List.mem_append.1 he0 with he0 | he0
    ·exact h2.w e0 he0
    ·exact h3.w e0 he0
  rintro v H1' ⟨rfl, Hs2, Hk2, hs2, hk2, rfl⟩
  have hnpq := bump_np idx kids q
  have hbl := bump_len idx kids q (by omega)
  generalize hB : (bump idx kids q) = B at *
  obtain ⟨cb, C1, C2, hcb, hkc, hperm, hback⟩ := hk2.foc hkj
  have hnpl : B.2.2 < kids.length := by omega
  obtain ⟨rb, cap2, spare, e1, rfl⟩ := hs2.at hnpl
  cases e1
  refine G.m2 ?_
  refine G.nil ?_
  refine GC.seq ?_
  refine GC.reg ?_
  refine G.m1 ?_
  refine G.v (V.nc rfl) rfl ?_
  refine G.v (V.fa F94_5 rfl) rfl ?_
  refine G.v (V.ld (b := nb) (off := 0 + 5) (wf := true) (l := nodeR tp B.1 wl nt pr (.slice (some ⟨rb, 0, none⟩) kids.length cap) (.slice ad2 l2 c2) f0) (T := 94) (fz := (0, 0)) (v := (.slice (some ⟨rb, 0, none⟩) kids.length cap)) Tryd.isAgg90 rfl (.head _) rfl) rfl ?_
  refine G.m1 ?_
  refine G.v (V.ia (i := B.2.2) Tryd.underlying90 Tryd.sizeOf83 rfl rfl hnpl) rfl ?_
  refine G.v (V.ld (b := rb) (off := 0 + B.2.2 * 1) (wf := true) (l := (moveTo bs q B.2.2).map (Pt · 0) ++ spare) (T := 83) (fz := (0, 0)) (v := Pt cb 0) Tryd.isAgg83 rfl (.tail _ (.head _)) (by rw [nth_eq, Nat.zero_add, Nat.mul_one, List.getElem?_append_left (by rw [List.length_map, hk2.len, hbl]; exact hnpl), List.getElem?_map, hcb]; rfl)) rfl ?_
  refine G.m2 ?_
  refine G.nil ?_
  refine GC.exit rfl ?_
  refine GC.inLoop ?_
  refine GC.turn (H' := C1 ++ (⟨hb, true, .row [I (num : Int)] 3 (0, 0)⟩ :: (⟨nb, true, .row (nodeR tp B.1 wl nt pr (.slice (some ⟨rb, 0, none⟩) kids.length cap) (.slice ad2 l2 c2) f0) 94 (0, 0)⟩ :: ([⟨rb, true, .row ((moveTo bs q B.2.2).map (Pt · 0) ++ spare) 83 (0, 0)⟩] ++ (Hh ++ (C2 ++ Hr)))))) (fun w1 h1 => h1.perm ?_) ?_
  ·have p1 := perm_idx [[⟨nb, true, .row (nodeR tp B.1 wl nt pr (.slice (some ⟨rb, 0, none⟩) kids.length cap) (.slice ad2 l2 c2) f0) 94 (0, 0)⟩], [⟨rb, true, .row ((moveTo bs q B.2.2).map (Pt · 0) ++ spare) 83 (0, 0)⟩], C1, C2, Hh, [⟨hb, true, .row [I (num : Int)] 3 (0, 0)⟩], Hr] [0, 1, 2, 3, 4, 5, 6] [2, 5, 0, 1, 4, 3, 6] (by decide)
   refine List.Perm.trans (((hperm.append_left [⟨rb, true, .row ((moveTo bs q B.2.2).map (Pt · 0) ++ spare) 83 (0, 0)⟩]).cons ⟨nb, true, .row (nodeR tp B.1 wl nt pr (.slice (some ⟨rb, 0, none⟩) kids.length cap) (.slice ad2 l2 c2) f0) 94 (0, 0)⟩).append_right (Hh ++ (⟨hb, true, .row [I (num : Int)] 3 (0, 0)⟩ :: Hr))) ?_
   simpa using p1
  refine go cb C1 _ _ hkc (fun k' Hk1' hk' => ?_) (.of rfl)
  ·obtain ⟨H2, hk3, hp3⟩ := hback k' Hk1' hk'
   refine ⟨_, HT.mk (by rw [List.length_set, hbl]; exact hs2) hh hk3, ?_⟩
   have p1 := perm_idx [Hk1', [⟨nb, true, .row (nodeR tp B.1 wl nt pr (.slice (some ⟨rb, 0, none⟩) kids.length cap) (.slice ad2 l2 c2) f0) 94 (0, 0)⟩], [⟨rb, true, .row ((moveTo bs q B.2.2).map (Pt · 0) ++ spare) 83 (0, 0)⟩], Hh, C2, Hr] [0, 1, 2, 3, 4, 5] [1, 2, 3, 0, 4, 5] (by decide)
   refine List.Perm.trans (l₂ := ⟨nb, true, .row (nodeR tp B.1 wl nt pr (.slice (some ⟨rb, 0, none⟩) kids.length cap) (.slice ad2 l2 c2) f0) 94 (0, 0)⟩ :: ([⟨rb, true, .row ((moveTo bs q B.2.2).map (Pt · 0) ++ spare) 83 (0, 0)⟩] ++ (Hh ++ ((Hk1' ++ C2) ++ Hr)))) (by simpa using p1) ?_
   have p2 := (((hp3.symm.append_right Hr).append_left Hh).append_left [⟨rb, true, .row ((moveTo bs q B.2.2).map (Pt · 0) ++ spare) 83 (0, 0)⟩]).cons ⟨nb, true, .row (nodeR tp B.1 wl nt pr (.slice (some ⟨rb, 0, none⟩) kids.length cap) (.slice ad2 l2 c2) f0) 94 (0, 0)⟩
   simpa using p2
 refine GC.skip ?_
 refine GC.inBlock ?_
 refine GC.reg ?_
 refine G.m1 ?_
 refine G.v (V.addI (r := ((q + 1 : Nat) : Int)) rfl rfl rfl (by omega) (by omega)) rfl ?_
 refine G.m2 ?_
 refine G.nil ?_
 have hxc : x ≠ c := fun e => h189 (by rw [e])
 have hqj : q ≠ j := fun e => hxc (by rw [e, hjc] at hx; exact (Option.some.inj hx).symm)
 exact ih (N - 1) _ _ (by omega) ⟨q + 1, by omega, .of rfl, rfl⟩
theorem f72_none {R : Ending → World → Prop} {w : World} {D : Nat → Prop} {nb hb num pfi i : Nat} {p full tp idx : List UInt8} {wl : Bool} {nt pr : Nat} {h0 : Option Nat} {f0 : List UInt8} {kids : List T0} {bs : List Nat} {kv hv : Value} {Hs Hh Hk Hr : SH} {fr : SF}
  (hs : Own 83 1 kv kids.length (bs.map (Pt · 0)) Hs) (hh : HV h0 hv Hh) (hk : HTs kids bs Hk) (_hpl : p.length ≤ 100000) (_hfl : full.length ≤ 100000) (_hpf : pfi + p.length ≤ full.length) (hip : i ≤ p.length) (hti : tp.length = i) (hsub : Sub [(0, Pt nb 0), (1, S p), (2, .slice (some ⟨hb, 0, none⟩) 1 1), (6, S full), (7, I (pfi : Int)), (8, I (i : Nat))] fr) {c : UInt8} (hlt : i < p.length) (hc : p[i]? = some c) (hnp : ¬ (nt = 2 ∧ c = 47 ∧ kids.length = 1)) (hkl9 : kids.length ≤ 90000) (hik : idx.length ≤ kids.length) (hj : idxOf c idx = none)
  (go : ∀ fr', Sub [(0, Pt nb 0), (1, S (p.drop i)), (2, .slice (some ⟨hb, 0, none⟩) 1 1), (6, S full), (7, I (pfi : Int)), (10, .int .u8 (c.toNat : Int))] fr' → GC Tryd.prog ⟨56, Tryd.f56, R, w, D⟩ 377 K72s fr' (⟨nb, true, .row (nodeR tp idx wl nt pr kv hv f0) 94 (0, 0)⟩ :: ((Hs ++ (Hh ++ Hk)) ++ (⟨hb, true, .row [I (num : Int)] 3 (0, 0)⟩ :: Hr)))) :
  GC Tryd.prog ⟨56, Tryd.f56, R, w, D⟩ 377 K72m fr (⟨nb, true, .row (nodeR tp idx wl nt pr kv hv f0) 94 (0, 0)⟩ :: ((Hs ++ (Hh ++ Hk)) ++ (⟨hb, true, .row [I (num : Int)] 3 (0, 0)⟩ :: Hr))) := by
 refine GC.weak hsub ?_
 clear hsub
 obtain ⟨X, hX⟩ : ∃ X, X = (Hh ++ Hk) ++ (⟨hb, true, .row [I (num : Int)] 3 (0, 0)⟩ :: Hr) := ⟨_, rfl⟩
 refine GC.turn (H' := ⟨nb, true, .row (nodeR tp idx wl nt pr kv hv f0) 94 (0, 0)⟩ :: (Hs ++ X)) (fun w1 h1 => by rw [hX, ← List.append_assoc]; exact h1) ?_
 have hkl2 := hk.len
 obtain ⟨ad, cap, rfl⟩ := hs.slice
 obtain ⟨ad2, l2, c2, rfl, hnn⟩ := hh.slice
 have hjn := idxOf_none hj
 refine GC.seq ?_
 refine GC.seq ?_
 refine GC.reg ?_
 refine G.m1 ?_
 refine G.m1 ?_
 refine G.v (V.lenS Tryd.underlying9 rfl) rfl ?_
 refine G.v (V.lt rfl rfl) rfl ?_
 refine G.nil ?_
 refine GC.condD rfl (fun h129 => ?_) (fun h129 => absurd (by omega) h129)
 refine GC.seq ?_
 refine GC.reg ?_
 refine G.m1 ?_
 refine G.m1 ?_
 refine G.v (V.slL (i := i) Tryd.underlying9 rfl rfl hip) rfl ?_
 refine G.m2 ?_
 refine G.nil ?_
 refine GC.seq ?_
 refine GC.reg ?_
 refine G.m1 ?_
 refine G.v (V.idx (i := 0) (b := c) Tryd.underlying9 rfl rfl (by rw [List.getElem?_drop]; exact hc)) rfl ?_
 refine G.m2 ?_
 refine G.nil ?_
 refine GC.seq ?_
 refine GC.seq ?_
 refine GC.join (fun fr' H' => Sub [(0, Pt nb 0), (1, S (p.drop i)), (2, .slice (some ⟨hb, 0, none⟩) 1 1), (6, S full), (7, I (pfi : Int)), (10, .int .u8 (c.toNat : Int)), (151, .bool false)] fr' ∧ H' = ⟨nb, true, .row (nodeR tp idx wl nt pr (.slice ad kids.length cap) (.slice ad2 l2 c2) f0) 94 (0, 0)⟩ :: (Hs ++ X)) (fun J18 => ?_) ?_
 ·refine GC.reg ?_
  refine G.m1 ?_
  refine G.v (V.nc rfl) rfl ?_
  refine G.v (V.fa F94_3 rfl) rfl ?_
  refine G.v (V.ld (b := nb) (off := 0 + 3) (wf := true) (l := nodeR tp idx wl nt pr (.slice ad kids.length cap) (.slice ad2 l2 c2) f0) (T := 94) (fz := (0, 0)) (v := .int .u8 (nt : Int)) Tryd.isAgg88 rfl (.head _) rfl) rfl ?_
  refine G.v (V.eqI rfl rfl) rfl ?_
  refine G.m1 ?_
  refine G.bc 140 rfl (fun h140 => ?_) (fun h140 => ?_)
  ·refine G.m5 ?_
   refine G.vg rfl rfl (V.eqI rfl rfl) rfl ?_
   refine G.m3 ?_
   refine G.m1 ?_
   refine G.bc 144 rfl (fun h144 => ?_) (fun h144 => ?_)
   ·refine G.m5 ?_
    refine G.vg rfl rfl (V.nc rfl) rfl ?_
    refine G.vg rfl rfl (V.fa F94_5 rfl) rfl ?_
    refine G.vg rfl rfl (V.ld (b := nb) (off := 0 + 5) (wf := true) (l := nodeR tp idx wl nt pr (.slice ad kids.length cap) (.slice ad2 l2 c2) f0) (T := 94) (fz := (0, 0)) (v := (.slice ad kids.length cap)) Tryd.isAgg90 rfl (.head _) rfl) rfl ?_
    refine G.vg rfl rfl (V.lenL Tryd.underlying90 rfl) rfl ?_
    refine G.vg rfl rfl (V.eqI rfl rfl) rfl ?_
    refine G.m3 ?_
    refine G.nil ?_
    refine J18 _ _ ⟨?_, rfl⟩
    have e151 : decide (((kids.length : Nat) : Int) = 1) = false := decide_eq_false fun e => hnp ⟨by have := of_decide_eq_true h140; omega, u47 (by have := of_decide_eq_true h144; omega), by omega⟩
    rw [e151]
    exact .of rfl
   ·refine G.s1 ?_
    refine G.s1 ?_
    refine G.s1 ?_
    refine G.s1 ?_
    refine G.s1 ?_
    refine G.s1 ?_
    refine G.m4 ?_
    refine G.nil ?_
    exact J18 _ _ ⟨.of rfl, rfl⟩
  ·refine G.s1 ?_
   refine G.s1 ?_
   refine G.m4 ?_
   refine G.m1 ?_
   refine G.s1 ?_
   refine G.s1 ?_
   refine G.s1 ?_
   refine G.s1 ?_
   refine G.s1 ?_
   refine G.s1 ?_
   refine G.m4 ?_
   refine G.nil ?_
   exact J18 _ _ ⟨.of rfl, rfl⟩
 rintro fr' H' ⟨hs18, rfl⟩
 refine GC.weak hs18 ?_
 clear hs18
 refine GC.condF rfl ?_
 refine GC.skip ?_
 refine GC.seq ?_
 refine GC.seq ?_
 refine GC.regQ mixed (by kernel_rfl) ?_
 refine GQ.v (V.mv rfl) rfl ?_
 refine GQ.v (V.nc rfl) rfl ?_
 refine GQ.v (V.fa F94_1 rfl) rfl ?_
 refine GQ.v (V.ld (b := nb) (off := 0 + 1) (wf := true) (l := nodeR tp idx wl nt pr (.slice ad kids.length cap) (.slice ad2 l2 c2) f0) (T := 94) (fz := (0, 0)) (v := S idx) Tryd.isAgg9 rfl (.head _) rfl) rfl ?_
 refine GQ.v (V.lenS Tryd.underlying9 rfl) rfl ?_
 refine GQ.v (V.asg rfl) rfl ?_
 refine GQ.v (V.asg rfl) rfl ?_
 refine GQ.nil ?_
 refine GC.block ?_
 refine GC.loopJ (fun N fr' H' => ∃ q, q + N = idx.length ∧ Sub [(0, Pt nb 0), (1, S (p.drop i)), (2, .slice (some ⟨hb, 0, none⟩) 1 1), (6, S full), (7, I (pfi : Int)), (10, .int .u8 (c.toNat : Int)), (11, I (q : Nat)), (12, I (idx.length : Nat))] fr' ∧ H' = ⟨nb, true, .row (nodeR tp idx wl nt pr (.slice ad kids.length cap) (.slice ad2 l2 c2) f0) 94 (0, 0)⟩ :: (Hs ++ X)) idx.length
  ⟨0, by omega, .of rfl, rfl⟩ ?_
 rintro N fr' H' ⟨q, hq, hs22, rfl⟩ ih
 refine GC.weak hs22 ?_
 clear hs22
 refine GC.seq ?_
 refine GC.seq ?_
 refine GC.reg ?_
 refine G.m1 ?_
 refine G.m1 ?_
 refine G.v (V.lt rfl rfl) rfl ?_
 refine G.nil ?_
 refine GC.condD rfl (fun h179 => ?_) (fun h179 => ?_)
 ·refine GC.skip ?_
  refine GC.seq ?_
  refine GC.block ?_
  refine GC.seq ?_
  obtain ⟨x, hx⟩ : ∃ x, idx[q]? = some x := ⟨_, List.getElem?_eq_getElem (by omega)⟩
  refine GC.reg ?_
  refine G.m1 ?_
  refine G.m1 ?_
  refine G.v (V.nc rfl) rfl ?_
  refine G.v (V.fa F94_1 rfl) rfl ?_
  refine G.v (V.ld (b := nb) (off := 0 + 1) (wf := true) (l := nodeR tp idx wl nt pr (.slice ad kids.length cap) (.slice ad2 l2 c2) f0) (T := 94) (fz := (0, 0)) (v := S idx) Tryd.isAgg9 rfl (.head _) rfl) rfl ?_
  refine G.m1 ?_
  refine G.v (V.idx (i := q) (b := x) Tryd.underlying9 rfl rfl hx) rfl ?_
  refine G.v (V.eqI rfl rfl) rfl ?_
  refine G.nil ?_
  refine GC.condD rfl (fun h189 => absurd (by rw [hx, u8_eq h189]) (hjn q)) (fun h189 => ?_)
  refine GC.skip ?_
  refine GC.inBlock ?_
  refine GC.reg ?_
  refine G.m1 ?_
  refine G.v (V.addI (r := ((q + 1 : Nat) : Int)) rfl rfl rfl (by omega) (by omega)) rfl ?_
  refine G.m2 ?_
  refine G.nil ?_
  exact ih (N - 1) _ _ (by omega) ⟨q + 1, by omega, .of rfl, rfl⟩
 refine GC.exit rfl ?_
 refine GC.turn (H' := (⟨nb, true, .row (nodeR tp idx wl nt pr (.slice ad kids.length cap) (.slice ad2 l2 c2) f0) 94 (0, 0)⟩ :: ((Hs ++ (Hh ++ Hk)) ++ (⟨hb, true, .row [I (num : Int)] 3 (0, 0)⟩ :: Hr)))) (fun w1 h1 => ?_) (go _ (.of rfl))
 rw [List.append_assoc]
 rw [hX] at h1
 exact h1
end Go.Proofs

/- addRoute: a new child; insertChild. Printed by wip/mk_gu12.py. -/
set_option maxRecDepth 20000
namespace Go.Proofs
open Go Bw
open Gt
def mid6 : List Item → List Item
 | .code (.seq _ b) :: k => .code b :: k
 | k => k
/-- the call of insertChild -/
noncomputable def K72e : List Item := mid6 K72s
theorem addB_at {wl : Bool} {bs : List Nat} {cb n : Nat} (h : bs.length = n + wl.toNat) : (addB wl bs cb)[n]? = some cb := by
 unfold addB
 cases wl with
 | false => simp at h; rw [if_neg (by simp)]; simp [← h]
 | true =>
  simp at h
  have hb : bs ≠ [] := fun e => by rw [e] at h; simp at h
  rw [if_pos ⟨rfl, hb⟩, List.append_assoc, List.getElem?_append_right (by simp; omega)]
  simp; rw [h]; simp
theorem f72_new {R : Ending → World → Prop} {w : World} {D : Nat → Prop} {nb hb num pfi : Nat} {p full tp idx : List UInt8} {wl : Bool} {nt pr : Nat} {h0 : Option Nat} {f0 : List UInt8} {kids : List T0} {bs : List Nat} {kv hv : Value} {Hs Hh Hk Hr : SH} {fr : SF} {c : UInt8}
  (hs : Own 83 1 kv kids.length (bs.map (Pt · 0)) Hs) (hh : HV h0 hv Hh) (hk : HTs kids bs Hk) (_hpl : p.length ≤ 100000) (_hfl : full.length ≤ 100000) (hsub : Sub [(0, Pt nb 0), (1, S p), (2, .slice (some ⟨hb, 0, none⟩) 1 1), (6, S full), (7, I (pfi : Int)), (10, .int .u8 (c.toNat : Int))] fr) {k : T0} (h58 : c ≠ 58) (h42 : c ≠ 42) (hn3 : nt ≠ 3) (hkl9 : kids.length ≤ 90000) (hlen : kids.length = idx.length + wl.toNat) (hkj : (bump (idx ++ [c]) (addKid wl kids (.node () [] [] false 0 0 none full [])) idx.length).2.1[(bump (idx ++ [c]) (addKid wl kids (.node () [] [] false 0 0 none full [])) idx.length).2.2]? = some k)
  (go : ∀ cb Hk1 Hr' fr', HT k cb Hk1 → (∀ k' Hk1', HT k' cb Hk1' → ∃ Hn', HT (.node () tp (bump (idx ++ [c]) (addKid wl kids (.node () [] [] false 0 0 none full [])) idx.length).1 wl nt pr h0 f0 ((bump (idx ++ [c]) (addKid wl kids (.node () [] [] false 0 0 none full [])) idx.length).2.1.set (bump (idx ++ [c]) (addKid wl kids (.node () [] [] false 0 0 none full [])) idx.length).2.2 k')) nb Hn' ∧ (Hk1' ++ Hr').Perm (Hn' ++ Hr)) → Sub [(0, Pt cb 0), (1, S p), (2, .slice (some ⟨hb, 0, none⟩) 1 1), (6, S full)] fr' → GC Tryd.prog ⟨56, Tryd.f56, R, w, D⟩ 377 K72e fr' (Hk1 ++ (⟨hb, true, .row [I (num : Int)] 3 (0, 0)⟩ :: Hr'))) :
  GC Tryd.prog ⟨56, Tryd.f56, R, w, D⟩ 377 K72s fr (⟨nb, true, .row (nodeR tp idx wl nt pr kv hv f0) 94 (0, 0)⟩ :: ((Hs ++ (Hh ++ Hk)) ++ (⟨hb, true, .row [I (num : Int)] 3 (0, 0)⟩ :: Hr))) := by
 refine GC.weak hsub ?_
 clear hsub
 obtain ⟨X, hX⟩ : ∃ X, X = (Hh ++ Hk) ++ (⟨hb, true, .row [I (num : Int)] 3 (0, 0)⟩ :: Hr) := ⟨_, rfl⟩
 refine GC.turn (H' := ⟨nb, true, .row (nodeR tp idx wl nt pr kv hv f0) 94 (0, 0)⟩ :: (Hs ++ X)) (fun w1 h1 => by rw [hX, ← List.append_assoc]; exact h1) ?_
 have hkl2 := hk.len
 obtain ⟨ad, cap, rfl⟩ := hs.slice
 obtain ⟨ad2, l2, c2, rfl, hnn⟩ := hh.slice
 refine GC.seq ?_
 refine GC.seq ?_
 refine GC.join (fun fr' H' => Sub [(0, Pt nb 0), (1, S p), (2, .slice (some ⟨hb, 0, none⟩) 1 1), (6, S full), (7, I (pfi : Int)), (10, .int .u8 (c.toNat : Int)), (219, .bool true)] fr' ∧ H' = ⟨nb, true, .row (nodeR tp idx wl nt pr (.slice ad kids.length cap) (.slice ad2 l2 c2) f0) 94 (0, 0)⟩ :: (Hs ++ X)) (fun J29 => ?_) ?_
 ·refine GC.reg ?_
  refine G.m1 ?_
  refine G.v (V.neI rfl rfl) rfl ?_
  refine G.m1 ?_
  refine G.bc 209 rfl (fun h209 => ?_) (fun h209 => ?_)
  ·refine G.m5 ?_
   refine G.vg rfl rfl (V.neI rfl rfl) rfl ?_
   refine G.m3 ?_
   refine G.m1 ?_
   refine G.bc 213 rfl (fun h213 => ?_) (fun h213 => ?_)
   ·refine G.m5 ?_
    refine G.vg rfl rfl (V.nc rfl) rfl ?_
    refine G.vg rfl rfl (V.fa F94_3 rfl) rfl ?_
    refine G.vg rfl rfl (V.ld (b := nb) (off := 0 + 3) (wf := true) (l := nodeR tp idx wl nt pr (.slice ad kids.length cap) (.slice ad2 l2 c2) f0) (T := 94) (fz := (0, 0)) (v := .int .u8 (nt : Int)) Tryd.isAgg88 rfl (.head _) rfl) rfl ?_
    refine G.vg rfl rfl (V.neI rfl rfl) rfl ?_
    refine G.m3 ?_
    refine G.nil ?_
    refine J29 _ _ ⟨?_, rfl⟩
    have e : (!decide ((nt : Int) = 3)) = true := by simp; omega
    rw [e]
    exact .of rfl
   ·refine G.s1 ?_
    refine G.s1 ?_
    refine G.s1 ?_
    refine G.s1 ?_
    refine G.s1 ?_
    refine G.m4 ?_
    refine G.nil ?_
    exact absurd h213 (by simpa using fun e : (c.toNat : Int) = 42 => h42 (u42 e))
  ·refine G.s1 ?_
   refine G.s1 ?_
   refine G.m4 ?_
   refine G.m1 ?_
   refine G.s1 ?_
   refine G.s1 ?_
   refine G.s1 ?_
   refine G.s1 ?_
   refine G.s1 ?_
   refine G.m4 ?_
   refine G.nil ?_
   exact absurd h209 (by simpa using fun e : (c.toNat : Int) = 58 => h58 (u58 e))
 rintro fr' H' ⟨hs29, rfl⟩
 refine GC.weak hs29 ?_
 clear hs29
 refine GC.condT rfl ?_
 refine GC.seq ?_
 refine GC.regM 10 (fun w1 => w1.heap[nb]? = some (Blk.den (.row (nodeR tp idx wl nt pr (.slice ad kids.length cap) (.slice ad2 l2 c2) f0) 94 (0, 0)))) mixed (by kernel_rfl) ?_
 refine GM.p 0 rfl (by kernel_rfl) (by kernel_rfl) (fun w1 h1 => h1.has ⟨nb, true, .row (nodeR tp idx wl nt pr (.slice ad kids.length cap) (.slice ad2 l2 c2) f0) 94 (0, 0)⟩ (by first | exact .head _ | exact .tail _ (.head _))) (fun _ => V.mv rfl) rfl ?_
 refine GM.p 1 rfl (by kernel_rfl) (by kernel_rfl) (fun w1 h1 => h1.has ⟨nb, true, .row (nodeR tp idx wl nt pr (.slice ad kids.length cap) (.slice ad2 l2 c2) f0) 94 (0, 0)⟩ (by first | exact .head _ | exact .tail _ (.head _))) (fun _ => V.nc rfl) rfl ?_
 refine GM.p 2 rfl (by kernel_rfl) (by kernel_rfl) (fun w1 h1 => h1.has ⟨nb, true, .row (nodeR tp idx wl nt pr (.slice ad kids.length cap) (.slice ad2 l2 c2) f0) 94 (0, 0)⟩ (by first | exact .head _ | exact .tail _ (.head _))) (fun _ => V.fa F94_1 rfl) rfl ?_
 refine GM.ld 3 rfl (by kernel_rfl) (by kernel_rfl) (fun w1 h1 => h1.has ⟨nb, true, .row (nodeR tp idx wl nt pr (.slice ad kids.length cap) (.slice ad2 l2 c2) f0) 94 (0, 0)⟩ (by first | exact .head _ | exact .tail _ (.head _))) Tryd.isAgg9 rfl (fun w1 h1 => cellB h1 rfl) rfl ?_
 refine GM.p 4 rfl (by kernel_rfl) (by kernel_rfl) (fun w1 h1 => h1.has ⟨nb, true, .row (nodeR tp idx wl nt pr (.slice ad kids.length cap) (.slice ad2 l2 c2) f0) 94 (0, 0)⟩ (by first | exact .head _ | exact .tail _ (.head _))) (fun _ => V.mv rfl) rfl ?_
 refine GM.one 5 rfl (by kernel_rfl) ?_
 refine GMB.bs (vs := [.int .u8 (c.toNat : Int)]) (BS1 Tryd.underlying44 Tryd.sizeOf5 Tryd.zeroValue5 (v := .int .u8 (c.toNat : Int)) rfl) rfl (fun w1 h1 => h1.has ⟨nb, true, .row (nodeR tp idx wl nt pr (.slice ad kids.length cap) (.slice ad2 l2 c2) f0) 94 (0, 0)⟩ (.head _)) rfl (fun tb => ?_)
 refine GM.one 6 rfl (by kernel_rfl) ?_
 refine GMB.v (V.cvBS (l := [c]) (T := 5) (wf := true) Tryd.underlying44 Tryd.underlying5 Tryd.underlying9 rfl (.head _) (by simp)) (fun w1 h1 => h1.has ⟨nb, true, .row (nodeR tp idx wl nt pr (.slice ad kids.length cap) (.slice ad2 l2 c2) f0) 94 (0, 0)⟩ (.tail _ (.head _))) rfl ?_
 refine GM.p 7 rfl (by kernel_rfl) (by kernel_rfl) (fun w1 h1 => h1.has ⟨nb, true, .row (nodeR tp idx wl nt pr (.slice ad kids.length cap) (.slice ad2 l2 c2) f0) 94 (0, 0)⟩ (by first | exact .head _ | exact .tail _ (.head _))) (fun _ => V.cat rfl rfl (by simp; omega)) rfl ?_
 refine GM.p 8 rfl (by kernel_rfl) (by kernel_rfl) (fun w1 h1 => h1.has ⟨nb, true, .row (nodeR tp idx wl nt pr (.slice ad kids.length cap) (.slice ad2 l2 c2) f0) 94 (0, 0)⟩ (by first | exact .head _ | exact .tail _ (.head _))) (fun _ => V.nc rfl) rfl ?_
 refine GM.p 9 rfl (by kernel_rfl) (by kernel_rfl) (fun w1 h1 => h1.has ⟨nb, true, .row (nodeR tp idx wl nt pr (.slice ad kids.length cap) (.slice ad2 l2 c2) f0) 94 (0, 0)⟩ (by first | exact .head _ | exact .tail _ (.head _))) (fun _ => V.fa F94_1 rfl) rfl ?_
 refine GM.tl (by kernel_rfl) ?_
 refine G.st (b := nb) (off := 0 + 1) (l := nodeR tp idx wl nt pr (.slice ad kids.length cap) (.slice ad2 l2 c2) f0) (T := 94) (fz := (0, 0)) (v := S (idx ++ [c])) Tryd.sizeOf9 rfl rfl rfl (.s .z) rfl rfl ?_
 refine G.nil ?_
 refine GC.seq ?_
 refine GC.turn (H' := ⟨nb, true, .row (nodeR tp (idx ++ [c]) wl nt pr (.slice ad kids.length cap) (.slice ad2 l2 c2) f0) 94 (0, 0)⟩ :: (Hs ++ X)) (fun w1 h1 => h1.sub (List.sublist_cons_self _ _)) ?_
 refine GC.reg ?_
 refine G.m1 ?_
 refine G.v (V.bd (vs := [(7, S full)]) rfl (fun w1 => bd_new _ w1)) rfl ?_
 refine G.bx (l := nodeR [] [] false 0 0 (.slice none 0 0) (.slice none 0 0) full) rfl (by simp [cells_agg, nodeR]) rfl (fun cb hcb => ?_)
 refine G.m2 ?_
 refine G.nil ?_
 refine GC.seq ?_
 refine GC.reg ?_
 refine G.m1 ?_
 refine G.m1 ?_
 rw [← hkl2] at hs
 refine G.callL (H1 := ⟨nb, true, .row (nodeR tp (idx ++ [c]) wl nt pr (.slice ad kids.length cap) (.slice ad2 l2 c2) f0) 94 (0, 0)⟩ :: Hs) (Hk := ⟨cb, true, .row (nodeR [] [] false 0 0 (.slice none 0 0) (.slice none 0 0) full) 94 (0, 0)⟩ :: X) (fun v H1' => v = .tuple #[] ∧ ∃ kv' Hs', Own 83 1 kv' (bs.length + 1) ((addB wl bs cb).map (Pt · 0)) Hs' ∧ H1' = ⟨nb, true, .row (nodeR tp (idx ++ [c]) wl nt pr kv' (.slice ad2 l2 c2) f0) 94 (0, 0)⟩ :: Hs') (List.perm_middle (l₁ := ⟨nb, true, .row (nodeR tp (idx ++ [c]) wl nt pr (.slice ad kids.length cap) (.slice ad2 l2 c2) f0) 94 (0, 0)⟩ :: Hs)).symm (fun e0 he0 => ?_) Tryd.call65 rfl rfl (fun w1 hw1 _ => ?_) ?_
 ·rcases List.mem_cons.1 he0 with rfl | he0
  ·rfl
  ·exact hs.w e0 he0
 ·refine (f82_any w1 _ nb cb tp (idx ++ [c]) wl nt pr (.slice ad2 l2 c2) f0 (.slice ad bs.length cap) bs Hs (by omega) hs (by rw [hkl2]; exact hw1)).mono fun e w' ⟨h1, kv', Hs', h2, h3⟩ => ⟨_, _, h1, fun e0 he0 => ?_, h3, rfl, kv', Hs', h2, rfl⟩
  rcases List.mem_cons.1 he0 with rfl | he0
  ·rfl
  ·exact h2.w e0 he0
 rintro v H1' ⟨rfl, kv2, Hs2, hs2, rfl⟩
 obtain ⟨Hk2, hk2, hp2⟩ := hk.add (wild := wl) (HT.mk (path := []) (idx := []) (wild := false) (nt := 0) (pr := 0) (h := none) (full := full) (nb := cb) Own.nil HV.nil HTs.nil)
 have hal := addKid_len wl kids (.node () [] [] false 0 0 none full [])
 rw [hkl2, ← hal] at hs2
 refine G.turn (H' := ⟨nb, true, .row (nodeR tp (idx ++ [c]) wl nt pr kv2 (.slice ad2 l2 c2) f0) 94 (0, 0)⟩ :: (Hs2 ++ (Hk2 ++ (Hh ++ (⟨hb, true, .row [I (num : Int)] 3 (0, 0)⟩ :: Hr))))) (fun w1 h1 => h1.perm ?_) ?_
 ·rw [hX]
  have e1 : Hk2.Perm (⟨cb, true, .row (nodeR [] [] false 0 0 (.slice none 0 0) (.slice none 0 0) full) 94 (0, 0)⟩ :: Hk) := by simpa using hp2
  have p1 := perm_idx [[⟨nb, true, .row (nodeR tp (idx ++ [c]) wl nt pr kv2 (.slice ad2 l2 c2) f0) 94 (0, 0)⟩], Hs2, [⟨cb, true, .row (nodeR [] [] false 0 0 (.slice none 0 0) (.slice none 0 0) full) 94 (0, 0)⟩], Hh, Hk, [⟨hb, true, .row [I (num : Int)] 3 (0, 0)⟩], Hr] [0, 1, 2, 3, 4, 5, 6] [0, 1, 2, 4, 3, 5, 6] (by decide)
  refine List.Perm.trans (l₂ := ⟨nb, true, .row (nodeR tp (idx ++ [c]) wl nt pr kv2 (.slice ad2 l2 c2) f0) 94 (0, 0)⟩ :: (Hs2 ++ ((⟨cb, true, .row (nodeR [] [] false 0 0 (.slice none 0 0) (.slice none 0 0) full) 94 (0, 0)⟩ :: Hk) ++ (Hh ++ (⟨hb, true, .row [I (num : Int)] 3 (0, 0)⟩ :: Hr))))) (by simpa using p1) ?_
  exact ((e1.symm.append_right _).append_left Hs2).cons _
 refine G.nil ?_
 refine GC.seq ?_
 refine GC.reg ?_
 refine G.m1 ?_
 refine G.m1 ?_
 refine G.v (V.nc rfl) rfl ?_
 refine G.v (V.fa F94_1 rfl) rfl ?_
 refine G.v (V.ld (b := nb) (off := 0 + 1) (wf := true) (l := nodeR tp (idx ++ [c]) wl nt pr kv2 (.slice ad2 l2 c2) f0) (T := 94) (fz := (0, 0)) (v := S (idx ++ [c])) Tryd.isAgg9 rfl (.head _) rfl) rfl ?_
 refine G.v (V.lenS Tryd.underlying9 rfl) rfl ?_
 refine G.v (V.subI (r := ((idx.length : Nat) : Int)) rfl rfl (by simp) (by omega) (by omega)) rfl ?_
 generalize hKs : addKid wl kids (.node () [] [] false 0 0 none full []) = ks at *
 have hksl : idx.length < ks.length := by omega
 refine G.callL (H1 := ⟨nb, true, .row (nodeR tp (idx ++ [c]) wl nt pr kv2 (.slice ad2 l2 c2) f0) 94 (0, 0)⟩ :: (Hs2 ++ Hk2)) (Hk := Hh ++ (⟨hb, true, .row [I (num : Int)] 3 (0, 0)⟩ :: Hr)) (fun v H1' => ∃ Hs' Hk', Own 83 1 kv2 ks.length ((moveTo (addB wl bs cb) idx.length (bump (idx ++ [c]) ks idx.length).2.2).map (Pt · 0)) Hs' ∧ HTs (bump (idx ++ [c]) ks idx.length).2.1 (moveTo (addB wl bs cb) idx.length (bump (idx ++ [c]) ks idx.length).2.2) Hk' ∧ H1' = ⟨nb, true, .row (nodeR tp (bump (idx ++ [c]) ks idx.length).1 wl nt pr kv2 (.slice ad2 l2 c2) f0) 94 (0, 0)⟩ :: (Hs' ++ Hk')) ?_ (fun e0 he0 => ?_) Tryd.call64 rfl rfl (fun w1 hw1 _ => ?_) ?_
 ·have p1 := perm_idx [[⟨nb, true, .row (nodeR tp (idx ++ [c]) wl nt pr kv2 (.slice ad2 l2 c2) f0) 94 (0, 0)⟩], Hs2, Hk2, Hh, [⟨hb, true, .row [I (num : Int)] 3 (0, 0)⟩], Hr] [0, 1, 2, 3, 4, 5] [0, 1, 2, 3, 4, 5] (by decide)
  simp
 ·rcases List.mem_cons.1 he0 with rfl | he0
  ·rfl
  ·rcases List.mem_append.1 he0 with he0 | he0
   ·exact hs2.w e0 he0
   ·exact hk2.w e0 he0
 ·refine (f81_any w1 _ nb idx.length tp (idx ++ [c]) wl nt pr (.slice ad2 l2 c2) f0 kv2 ks (addB wl bs cb) Hs2 Hk2 hksl (by simp) (by simp; omega) (by omega) hs2 hk2 hw1).mono fun e w' ⟨h1, Hs', Hk', h2, h3, h4⟩ => ⟨_, _, h1, fun e0 he0 => ?_, h4, Hs', Hk', h2, h3, rfl⟩
  rcases List.mem_cons.1 he0 with rfl | he0
  ·rfl
  ·rcases List.mem_append.1 he0 with he0 | he0
   ·exact h2.w e0 he0
   ·exact h3.w e0 he0
 rintro v H1' ⟨Hs3, Hk3, hs3, hk3, rfl⟩
 have hnpq := bump_np (idx ++ [c]) ks idx.length
 have hbl := bump_len (idx ++ [c]) ks idx.length hksl
 generalize hB : bump (idx ++ [c]) ks idx.length = B at *
 obtain ⟨cb2, C1, C2, hcb2, hkc, hperm, hback⟩ := hk3.foc hkj
 have hcc : cb2 = cb := by
  rw [moveTo_get _ hnpq (by rw [addB_len, hkl2]; omega), if_neg (by omega), if_pos rfl, addB_at (by rw [hkl2]; exact hlen)] at hcb2
  exact (Option.some.inj hcb2).symm
 subst hcc
 refine G.nil ?_
 refine GC.reg ?_
 refine G.m1 ?_
 refine G.m2 ?_
 refine G.nil ?_
 refine GC.turn (H' := C1 ++ (⟨hb, true, .row [I (num : Int)] 3 (0, 0)⟩ :: (⟨nb, true, .row (nodeR tp B.1 wl nt pr kv2 (.slice ad2 l2 c2) f0) 94 (0, 0)⟩ :: (Hs3 ++ (Hh ++ (C2 ++ Hr)))))) (fun w1 h1 => h1.perm ?_) ?_
 ·have p1 := perm_idx [[⟨nb, true, .row (nodeR tp B.1 wl nt pr kv2 (.slice ad2 l2 c2) f0) 94 (0, 0)⟩], Hs3, C1, C2, Hh, [⟨hb, true, .row [I (num : Int)] 3 (0, 0)⟩], Hr] [0, 1, 2, 3, 4, 5, 6] [2, 5, 0, 1, 4, 3, 6] (by decide)
  refine List.Perm.trans (((hperm.append_left Hs3).cons ⟨nb, true, .row (nodeR tp B.1 wl nt pr kv2 (.slice ad2 l2 c2) f0) 94 (0, 0)⟩).append_right (Hh ++ (⟨hb, true, .row [I (num : Int)] 3 (0, 0)⟩ :: Hr))) ?_
  simpa using p1
 refine go cb2 C1 _ _ hkc (fun k' Hk1' hk' => ?_) (.of rfl)
 obtain ⟨H2, hk4, hp4⟩ := hback k' Hk1' hk'
 refine ⟨_, HT.mk (by rw [List.length_set, hbl]; exact hs3) hh hk4, ?_⟩
 have p1 := perm_idx [Hk1', [⟨nb, true, .row (nodeR tp B.1 wl nt pr kv2 (.slice ad2 l2 c2) f0) 94 (0, 0)⟩], Hs3, Hh, C2, Hr] [0, 1, 2, 3, 4, 5] [1, 2, 3, 0, 4, 5] (by decide)
 refine List.Perm.trans (l₂ := ⟨nb, true, .row (nodeR tp B.1 wl nt pr kv2 (.slice ad2 l2 c2) f0) 94 (0, 0)⟩ :: (Hs3 ++ (Hh ++ ((Hk1' ++ C2) ++ Hr)))) (by simpa using p1) ?_
 have p2 := (((hp4.symm.append_right Hr).append_left Hh).append_left Hs3).cons ⟨nb, true, .row (nodeR tp B.1 wl nt pr kv2 (.slice ad2 l2 c2) f0) 94 (0, 0)⟩
 simpa using p2
theorem f72_same {R : Ending → World → Prop} {w : World} {D : Nat → Prop} {nb hb num pfi : Nat} {p full tp idx : List UInt8} {wl : Bool} {nt pr : Nat} {h0 : Option Nat} {f0 : List UInt8} {kids : List T0} {bs : List Nat} {kv hv : Value} {Hs Hh Hk Hr : SH} {fr : SF} {c : UInt8}
  (hs : Own 83 1 kv kids.length (bs.map (Pt · 0)) Hs) (hh : HV h0 hv Hh) (hk : HTs kids bs Hk) (_hpl : p.length ≤ 100000) (_hfl : full.length ≤ 100000) (hsub : Sub [(0, Pt nb 0), (1, S p), (2, .slice (some ⟨hb, 0, none⟩) 1 1), (6, S full), (7, I (pfi : Int)), (10, .int .u8 (c.toNat : Int))] fr) (hc3 : c = 58 ∨ c = 42 ∨ nt = 3) (hwl : wl = false)
  (go : ∀ fr', Sub [(0, Pt nb 0), (1, S p), (2, .slice (some ⟨hb, 0, none⟩) 1 1), (6, S full)] fr' → GC Tryd.prog ⟨56, Tryd.f56, R, w, D⟩ 377 K72e fr' (⟨nb, true, .row (nodeR tp idx wl nt pr kv hv f0) 94 (0, 0)⟩ :: ((Hs ++ (Hh ++ Hk)) ++ (⟨hb, true, .row [I (num : Int)] 3 (0, 0)⟩ :: Hr)))) :
  GC Tryd.prog ⟨56, Tryd.f56, R, w, D⟩ 377 K72s fr (⟨nb, true, .row (nodeR tp idx wl nt pr kv hv f0) 94 (0, 0)⟩ :: ((Hs ++ (Hh ++ Hk)) ++ (⟨hb, true, .row [I (num : Int)] 3 (0, 0)⟩ :: Hr))) := by
 refine GC.weak hsub ?_
 clear hsub
 obtain ⟨X, hX⟩ : ∃ X, X = (Hh ++ Hk) ++ (⟨hb, true, .row [I (num : Int)] 3 (0, 0)⟩ :: Hr) := ⟨_, rfl⟩
 refine GC.turn (H' := ⟨nb, true, .row (nodeR tp idx wl nt pr kv hv f0) 94 (0, 0)⟩ :: (Hs ++ X)) (fun w1 h1 => by rw [hX, ← List.append_assoc]; exact h1) ?_
 have hkl2 := hk.len
 obtain ⟨ad, cap, rfl⟩ := hs.slice
 obtain ⟨ad2, l2, c2, rfl, hnn⟩ := hh.slice
 refine GC.seq ?_
 refine GC.seq ?_
 refine GC.join (fun fr' H' => Sub [(0, Pt nb 0), (1, S p), (2, .slice (some ⟨hb, 0, none⟩) 1 1), (6, S full), (7, I (pfi : Int)), (10, .int .u8 (c.toNat : Int)), (219, .bool false)] fr' ∧ H' = ⟨nb, true, .row (nodeR tp idx wl nt pr (.slice ad kids.length cap) (.slice ad2 l2 c2) f0) 94 (0, 0)⟩ :: (Hs ++ X)) (fun J29 => ?_) ?_
 ·refine GC.reg ?_
  refine G.m1 ?_
  refine G.v (V.neI rfl rfl) rfl ?_
  refine G.m1 ?_
  refine G.bc 209 rfl (fun h209 => ?_) (fun h209 => ?_)
  ·refine G.m5 ?_
   refine G.vg rfl rfl (V.neI rfl rfl) rfl ?_
   refine G.m3 ?_
   refine G.m1 ?_
   refine G.bc 213 rfl (fun h213 => ?_) (fun h213 => ?_)
   ·refine G.m5 ?_
    refine G.vg rfl rfl (V.nc rfl) rfl ?_
    refine G.vg rfl rfl (V.fa F94_3 rfl) rfl ?_
    refine G.vg rfl rfl (V.ld (b := nb) (off := 0 + 3) (wf := true) (l := nodeR tp idx wl nt pr (.slice ad kids.length cap) (.slice ad2 l2 c2) f0) (T := 94) (fz := (0, 0)) (v := .int .u8 (nt : Int)) Tryd.isAgg88 rfl (.head _) rfl) rfl ?_
    refine G.vg rfl rfl (V.neI rfl rfl) rfl ?_
    refine G.m3 ?_
    refine G.nil ?_
    refine J29 _ _ ⟨?_, rfl⟩
    have e : (!decide ((nt : Int) = 3)) = false := by
     rcases hc3 with rfl | rfl | rfl
     ·exact absurd h209 (by decide)
     ·exact absurd h213 (by decide)
     ·rfl
    rw [e]
    exact .of rfl
   ·refine G.s1 ?_
    refine G.s1 ?_
    refine G.s1 ?_
    refine G.s1 ?_
    refine G.s1 ?_
    refine G.m4 ?_
    refine G.nil ?_
    exact J29 _ _ ⟨.of rfl, rfl⟩
  ·refine G.s1 ?_
   refine G.s1 ?_
   refine G.m4 ?_
   refine G.m1 ?_
   refine G.s1 ?_
   refine G.s1 ?_
   refine G.s1 ?_
   refine G.s1 ?_
   refine G.s1 ?_
   refine G.m4 ?_
   refine G.nil ?_
   exact J29 _ _ ⟨.of rfl, rfl⟩
 rintro fr' H' ⟨hs29, rfl⟩
 refine GC.weak hs29 ?_
 clear hs29
 refine GC.condF rfl ?_
 refine GC.seq ?_
 refine GC.reg ?_
 refine G.m1 ?_
 refine G.v (V.nc rfl) rfl ?_
 refine G.v (V.fa F94_2 rfl) rfl ?_
 refine G.v (V.ld (b := nb) (off := 0 + 2) (wf := true) (l := nodeR tp idx wl nt pr (.slice ad kids.length cap) (.slice ad2 l2 c2) f0) (T := 94) (fz := (0, 0)) (v := .bool wl) Tryd.isAgg4 rfl (.head _) rfl) rfl ?_
 refine G.nil ?_
 refine GC.cond rfl (fun h248 => absurd h248 (by rw [hwl]; decide)) (fun h248 => ?_)
 refine GC.skip ?_
 refine GC.turn (H' := (⟨nb, true, .row (nodeR tp idx wl nt pr (.slice ad kids.length cap) (.slice ad2 l2 c2) f0) 94 (0, 0)⟩ :: ((Hs ++ (Hh ++ Hk)) ++ (⟨hb, true, .row [I (num : Int)] 3 (0, 0)⟩ :: Hr)))) (fun w1 h1 => ?_) (go _ (.of rfl))
 rw [List.append_assoc]
 rw [hX] at h1
 exact h1
theorem f72_ins {R : Ending → World → Prop} {w : World} {D : Nat → Prop} {hb num cb : Nat} {full : List UInt8} {fr : SF} {Hn1 Hr : SH} (hfl : full.length ≤ 100000) (g : Nat) (sl : Bool) (s : List Tok) (t : T0) (res : Option T0) (hok : Ok sl s) (h92 : ∀ c ∈ txt s, c ≠ 92) (hpl : (txt s).length ≤ 100000)
  (hkl : t.kids.length ≤ 90000) (htl : t.path.length ≤ 100000) (hkp : ∀ k ∈ t.kids, k.path.length ≤ 100000) (ht : HT t cb Hn1) (hres : insT g t (txt s) full num = some res) (hsub : Sub [(0, Pt cb 0), (1, S (txt s)), (2, .slice (some ⟨hb, 0, none⟩) 1 1), (6, S full)] fr)
  (fin : ∀ t', res = some t' → ∀ Hn' w', HT t' cb Hn' → HF w D (Hn' ++ Hr) w' → R (.returned (.tuple #[])) w') (pan : res = none → ∀ e w', onePanic e → HF w D [] w' → R e w') :
  GC Tryd.prog ⟨56, Tryd.f56, R, w, D⟩ 377 K72e fr (Hn1 ++ (⟨hb, true, .row [I (num : Int)] 3 (0, 0)⟩ :: Hr)) := by
 refine GC.weak hsub ?_
 clear hsub
 refine GC.seq ?_
 refine GC.reg ?_
 refine G.m1 ?_
 refine G.m1 ?_
 refine G.m1 ?_
 refine G.m1 ?_
 refine G.callE (H1 := Hn1 ++ [⟨hb, true, .row [I (num : Int)] 3 (0, 0)⟩]) (Hk := Hr) (fun v H1' => v = .tuple #[] ∧ ∃ t', res = some t' ∧ HT t' cb H1') (fun H1' => res = none) (by simp) (fun e0 he0 => ?_) Tryd.call62 rfl rfl (fun w1 hw1 => ?_) ?_ (fun H1' e w' h1 h2 h3 => pan h1 e w' h2 (h3.sub (List.nil_sublist _)))
 ·rcases List.mem_append.1 he0 with he0 | he0
  ·exact ht.w e0 he0
  ·rw [List.mem_singleton.1 he0]
 ·refine (f79_any w1 _ hfl g sl s t cb Hn1 [] res hok h92 hpl hkl htl hkp ht hres hw1).mono fun e w' h => ?_
  rcases h with ⟨t', Hn', h1, h2, h3, h4⟩ | ⟨h1, h2, h3⟩
  ·rw [List.append_nil] at h4
   exact ⟨Hn', h3.w, h4, .inl ⟨_, h2, rfl, t', h1, h3⟩⟩
  ·exact ⟨[], by simp, h3, .inr ⟨h2, h1⟩⟩
 rintro v H1' ⟨rfl, t', ht1, ht2⟩
 refine G.nil ?_
 exact GC.ret0 rfl fun w' hw' => fin t' ht1 H1' w' ht2 hw'
end Go.Proofs

/- addRoute: down the wildcard; its conflict. Printed by wip/mk_gu13.py. -/
set_option maxRecDepth 20000
namespace Go.Proofs
open Go Bw
open Gt
theorem f72_wdown {R : Ending → World → Prop} {w : World} {D : Nat → Prop} {nb hb num pfi : Nat} {p full tp idx : List UInt8} {wl : Bool} {nt pr : Nat} {h0 : Option Nat} {f0 : List UInt8} {kids : List T0} {bs : List Nat} {kv hv : Value} {Hs Hh Hk Hr : SH} {fr : SF} {c : UInt8} {k0 : T0}
  (hs : Own 83 1 kv kids.length (bs.map (Pt · 0)) Hs) (hh : HV h0 hv Hh) (hk : HTs kids bs Hk) (_hpl : p.length ≤ 100000) (_hfl : full.length ≤ 100000) (hsub : Sub [(0, Pt nb 0), (1, S p), (2, .slice (some ⟨hb, 0, none⟩) 1 1), (6, S full), (7, I (pfi : Int)), (10, .int .u8 (c.toNat : Int))] fr) (hc3 : c = 58 ∨ c = 42 ∨ nt = 3) (hwl : wl = true) (hkl9 : kids.length ≤ 90000) (hk0 : kids[kids.length - 1]? = some k0) (hk0l : k0.path.length ≤ 100000) (hcond : (k0.path.length ≤ p.length ∧ p.take k0.path.length = k0.path ∧ k0.nt ≠ 3 ∧ (p.length ≤ k0.path.length ∨ p[k0.path.length]? = some 47)))
  (go : ∀ cb Hk1 Hr' fr', HT k0.incr cb Hk1 → (∀ k' Hk1', HT k' cb Hk1' → ∃ Hn', HT (.node () tp idx wl nt pr h0 f0 (kids.set (kids.length - 1) k')) nb Hn' ∧ (Hk1' ++ Hr').Perm (Hn' ++ Hr)) → Sub [(0, Pt cb 0), (1, S p), (2, .slice (some ⟨hb, 0, none⟩) 1 1), (6, S full), (7, I (pfi : Int))] fr' → GC Tryd.prog ⟨56, Tryd.f56, R, w, D⟩ 377 K72 fr' (Hk1 ++ (⟨hb, true, .row [I (num : Int)] 3 (0, 0)⟩ :: Hr'))) :
  GC Tryd.prog ⟨56, Tryd.f56, R, w, D⟩ 377 K72s fr (⟨nb, true, .row (nodeR tp idx wl nt pr kv hv f0) 94 (0, 0)⟩ :: ((Hs ++ (Hh ++ Hk)) ++ (⟨hb, true, .row [I (num : Int)] 3 (0, 0)⟩ :: Hr))) := by
 refine GC.weak hsub ?_
 clear hsub
 obtain ⟨X, hX⟩ : ∃ X, X = (Hh ++ Hk) ++ (⟨hb, true, .row [I (num : Int)] 3 (0, 0)⟩ :: Hr) := ⟨_, rfl⟩
 refine GC.turn (H' := ⟨nb, true, .row (nodeR tp idx wl nt pr kv hv f0) 94 (0, 0)⟩ :: (Hs ++ X)) (fun w1 h1 => by rw [hX, ← List.append_assoc]; exact h1) ?_
 have hkl2 := hk.len
 obtain ⟨ad, cap, rfl⟩ := hs.slice
 obtain ⟨ad2, l2, c2, rfl, hnn⟩ := hh.slice
 refine GC.seq ?_
 refine GC.seq ?_
 refine GC.join (fun fr' H' => Sub [(0, Pt nb 0), (1, S p), (2, .slice (some ⟨hb, 0, none⟩) 1 1), (6, S full), (7, I (pfi : Int)), (10, .int .u8 (c.toNat : Int)), (219, .bool false)] fr' ∧ H' = ⟨nb, true, .row (nodeR tp idx wl nt pr (.slice ad kids.length cap) (.slice ad2 l2 c2) f0) 94 (0, 0)⟩ :: (Hs ++ X)) (fun J29 => ?_) ?_
 ·refine GC.reg ?_
  refine G.m1 ?_
  refine G.v (V.neI rfl rfl) rfl ?_
  refine G.m1 ?_
  refine G.bc 209 rfl (fun h209 => ?_) (fun h209 => ?_)
  ·refine G.m5 ?_
   refine G.vg rfl rfl (V.neI rfl rfl) rfl ?_
   refine G.m3 ?_
   refine G.m1 ?_
   refine G.bc 213 rfl (fun h213 => ?_) (fun h213 => ?_)
   ·refine G.m5 ?_
    refine G.vg rfl rfl (V.nc rfl) rfl ?_
    refine G.vg rfl rfl (V.fa F94_3 rfl) rfl ?_
    refine G.vg rfl rfl (V.ld (b := nb) (off := 0 + 3) (wf := true) (l := nodeR tp idx wl nt pr (.slice ad kids.length cap) (.slice ad2 l2 c2) f0) (T := 94) (fz := (0, 0)) (v := .int .u8 (nt : Int)) Tryd.isAgg88 rfl (.head _) rfl) rfl ?_
    refine G.vg rfl rfl (V.neI rfl rfl) rfl ?_
    refine G.m3 ?_
    refine G.nil ?_
    refine J29 _ _ ⟨?_, rfl⟩
    have e : (!decide ((nt : Int) = 3)) = false := by
     rcases hc3 with rfl | rfl | rfl
     ·exact absurd h209 (by decide)
     ·exact absurd h213 (by decide)
     ·rfl
    rw [e]
    exact .of rfl
   ·refine G.s1 ?_
    refine G.s1 ?_
    refine G.s1 ?_
    refine G.s1 ?_
    refine G.s1 ?_
    refine G.m4 ?_
    refine G.nil ?_
    exact J29 _ _ ⟨.of rfl, rfl⟩
  ·refine G.s1 ?_
   refine G.s1 ?_
   refine G.m4 ?_
   refine G.m1 ?_
   refine G.s1 ?_
   refine G.s1 ?_
   refine G.s1 ?_
   refine G.s1 ?_
   refine G.s1 ?_
   refine G.m4 ?_
   refine G.nil ?_
   exact J29 _ _ ⟨.of rfl, rfl⟩
 rintro fr' H' ⟨hs29, rfl⟩
 refine GC.weak hs29 ?_
 clear hs29
 refine GC.condF rfl ?_
 refine GC.seq ?_
 refine GC.reg ?_
 refine G.m1 ?_
 refine G.v (V.nc rfl) rfl ?_
 refine G.v (V.fa F94_2 rfl) rfl ?_
 refine G.v (V.ld (b := nb) (off := 0 + 2) (wf := true) (l := nodeR tp idx wl nt pr (.slice ad kids.length cap) (.slice ad2 l2 c2) f0) (T := 94) (fz := (0, 0)) (v := .bool wl) Tryd.isAgg4 rfl (.head _) rfl) rfl ?_
 refine G.nil ?_
 refine GC.cond rfl (fun h248 => ?_) (fun h248 => absurd hwl (by rw [h248]; decide))
 refine GC.seq ?_
 have hkp := (List.getElem?_eq_some_iff.1 hk0).1
 obtain ⟨rb, cap2, spare, e1, rfl⟩ := hs.at (i := kids.length - 1) hkp
 cases e1
 obtain ⟨cb, C1, C2, hcb, hkc, hperm, hback⟩ := hk.foc hk0
 cases hkc with
 | @mk kpath kidx kwild knt kpr ko kfull kkids _ kbs kkv khv Ks Kh Kk ks kh kk =>
 simp only [Tr.path, Tr.nt] at hcond hk0l
 refine GC.regQ mixed (by kernel_rfl) ?_
 refine GQ.v (V.mv rfl) rfl ?_
 refine GQ.v (V.nc rfl) rfl ?_
 refine GQ.v (V.fa F94_5 rfl) rfl ?_
 refine GQ.v (V.ld (b := nb) (off := 0 + 5) (wf := true) (l := nodeR tp idx wl nt pr (.slice (some ⟨rb, 0, none⟩) kids.length cap) (.slice ad2 l2 c2) f0) (T := 94) (fz := (0, 0)) (v := (.slice (some ⟨rb, 0, none⟩) kids.length cap)) Tryd.isAgg90 rfl (.head _) rfl) rfl ?_
 refine GQ.v (V.mv rfl) rfl ?_
 refine GQ.v (V.nc rfl) rfl ?_
 refine GQ.v (V.fa F94_5 rfl) rfl ?_
 refine GQ.v (V.ld (b := nb) (off := 0 + 5) (wf := true) (l := nodeR tp idx wl nt pr (.slice (some ⟨rb, 0, none⟩) kids.length cap) (.slice ad2 l2 c2) f0) (T := 94) (fz := (0, 0)) (v := (.slice (some ⟨rb, 0, none⟩) kids.length cap)) Tryd.isAgg90 rfl (.head _) rfl) rfl ?_
 refine GQ.v (V.lenL Tryd.underlying90 rfl) rfl ?_
 refine GQ.v (V.subI (r := ((kids.length - 1 : Nat) : Int)) rfl rfl (by omega) (by omega) (by omega)) rfl ?_
 refine GQ.v (V.ia (i := kids.length - 1) Tryd.underlying90 Tryd.sizeOf83 rfl rfl hkp) rfl ?_
 refine GQ.v (V.ld (b := rb) (off := 0 + (kids.length - 1) * 1) (wf := true) (l := bs.map (Pt · 0) ++ spare) (T := 83) (fz := (0, 0)) (v := Pt cb 0) Tryd.isAgg83 rfl (.tail _ (.head _)) (by rw [nth_eq, Nat.zero_add, Nat.mul_one, List.getElem?_append_left (by rw [List.length_map, hkl2]; exact hkp), List.getElem?_map, hcb]; rfl)) rfl ?_
 refine GQ.v (V.asg rfl) rfl ?_
 refine GQ.nil ?_
 refine GC.seq ?_
 refine GC.turn (H' := ⟨cb, true, .row (nodeR kpath kidx kwild knt kpr kkv khv kfull) 94 (0, 0)⟩ :: ((Ks ++ (Kh ++ Kk)) ++ (⟨nb, true, .row (nodeR tp idx wl nt pr (.slice (some ⟨rb, 0, none⟩) kids.length cap) (.slice ad2 l2 c2) f0) 94 (0, 0)⟩ :: ([⟨rb, true, .row (bs.map (Pt · 0) ++ spare) 83 (0, 0)⟩] ++ (C2 ++ (Hh ++ (⟨hb, true, .row [I (num : Int)] 3 (0, 0)⟩ :: Hr))))))) (fun w1 h1 => h1.perm ?_) ?_
 ·rw [hX]
  have p1 := perm_idx [[⟨nb, true, .row (nodeR tp idx wl nt pr (.slice (some ⟨rb, 0, none⟩) kids.length cap) (.slice ad2 l2 c2) f0) 94 (0, 0)⟩], [⟨rb, true, .row (bs.map (Pt · 0) ++ spare) 83 (0, 0)⟩], [⟨cb, true, .row (nodeR kpath kidx kwild knt kpr kkv khv kfull) 94 (0, 0)⟩], (Ks ++ (Kh ++ Kk)), C2, Hh, [⟨hb, true, .row [I (num : Int)] 3 (0, 0)⟩], Hr] [0, 1, 2, 3, 4, 5, 6, 7] [2, 3, 0, 1, 4, 5, 6, 7] (by decide)
  refine List.Perm.trans (l₂ := ⟨nb, true, .row (nodeR tp idx wl nt pr (.slice (some ⟨rb, 0, none⟩) kids.length cap) (.slice ad2 l2 c2) f0) 94 (0, 0)⟩ :: ([⟨rb, true, .row (bs.map (Pt · 0) ++ spare) 83 (0, 0)⟩] ++ (((⟨cb, true, .row (nodeR kpath kidx kwild knt kpr kkv khv kfull) 94 (0, 0)⟩ :: (Ks ++ (Kh ++ Kk))) ++ C2) ++ (Hh ++ (⟨hb, true, .row [I (num : Int)] 3 (0, 0)⟩ :: Hr))))) ?_ (by simpa using p1)
  have p3 := perm_idx [[⟨nb, true, .row (nodeR tp idx wl nt pr (.slice (some ⟨rb, 0, none⟩) kids.length cap) (.slice ad2 l2 c2) f0) 94 (0, 0)⟩], [⟨rb, true, .row (bs.map (Pt · 0) ++ spare) 83 (0, 0)⟩], Hh, Hk, [⟨hb, true, .row [I (num : Int)] 3 (0, 0)⟩], Hr] [0, 1, 2, 3, 4, 5] [0, 1, 3, 2, 4, 5] (by decide)
  refine List.Perm.trans (l₂ := ⟨nb, true, .row (nodeR tp idx wl nt pr (.slice (some ⟨rb, 0, none⟩) kids.length cap) (.slice ad2 l2 c2) f0) 94 (0, 0)⟩ :: ([⟨rb, true, .row (bs.map (Pt · 0) ++ spare) 83 (0, 0)⟩] ++ (Hk ++ (Hh ++ (⟨hb, true, .row [I (num : Int)] 3 (0, 0)⟩ :: Hr))))) (by simpa using p3) ?_
  exact ((hperm.append_right _).append_left _).cons _
 refine GC.reg ?_
 refine G.m1 ?_
 refine G.v (V.nc rfl) rfl ?_
 refine G.v (V.fa F94_4 rfl) rfl ?_
 refine G.v (V.ld (b := cb) (off := 0 + 4) (wf := true) (l := nodeR kpath kidx kwild knt kpr kkv khv kfull) (T := 94) (fz := (0, 0)) (v := .int .u32 ((kpr % 4294967296 : Nat) : Int)) Tryd.isAgg89 rfl (.head _) rfl) rfl ?_
 refine G.v (V.add rfl rfl) rfl ?_
 rw [wrapU32]
 refine G.v (V.nc rfl) rfl ?_
 refine G.v (V.fa F94_4 rfl) rfl ?_
 refine G.st (b := cb) (off := 0 + 4) (l := nodeR kpath kidx kwild knt kpr kkv khv kfull) (T := 94) (fz := (0, 0)) (v := .int .u32 (((kpr + 1) % 4294967296 : Nat) : Int)) Tryd.sizeOf89 rfl rfl rfl (.z) rfl rfl ?_
 refine G.nil ?_
 refine GC.seq ?_
 refine GC.seq ?_
 refine GC.turn (H' := ⟨cb, true, .row (nodeR kpath kidx kwild knt (kpr + 1) kkv khv kfull) 94 (0, 0)⟩ :: ((Ks ++ (Kh ++ Kk)) ++ (⟨nb, true, .row (nodeR tp idx wl nt pr (.slice (some ⟨rb, 0, none⟩) kids.length cap) (.slice ad2 l2 c2) f0) 94 (0, 0)⟩ :: ([⟨rb, true, .row (bs.map (Pt · 0) ++ spare) 83 (0, 0)⟩] ++ (C2 ++ (Hh ++ (⟨hb, true, .row [I (num : Int)] 3 (0, 0)⟩ :: Hr))))))) (fun w1 h1 => ?_) ?_
 ·exact h1
 refine GC.join (fun fr' H' => Sub [(0, Pt cb 0), (1, S p), (2, .slice (some ⟨hb, 0, none⟩) 1 1), (6, S full), (7, I (pfi : Int)), (10, .int .u8 (c.toNat : Int)), (316, .bool true)] fr' ∧ H' = ⟨cb, true, .row (nodeR kpath kidx kwild knt (kpr + 1) kkv khv kfull) 94 (0, 0)⟩ :: ((Ks ++ (Kh ++ Kk)) ++ (⟨nb, true, .row (nodeR tp idx wl nt pr (.slice (some ⟨rb, 0, none⟩) kids.length cap) (.slice ad2 l2 c2) f0) 94 (0, 0)⟩ :: ([⟨rb, true, .row (bs.map (Pt · 0) ++ spare) 83 (0, 0)⟩] ++ (C2 ++ (Hh ++ (⟨hb, true, .row [I (num : Int)] 3 (0, 0)⟩ :: Hr))))))) (fun J38 => ?_) ?_
 ·refine GC.regQ mixed (by kernel_rfl) ?_
  refine GQ.v (V.mv rfl) rfl ?_
  refine GQ.v (V.lenS Tryd.underlying9 rfl) rfl ?_
  refine GQ.v (V.mv rfl) rfl ?_
  refine GQ.v (V.nc rfl) rfl ?_
  refine GQ.v (V.fa F94_0 rfl) rfl ?_
  refine GQ.v (V.ld (b := cb) (off := 0 + 0) (wf := true) (l := nodeR kpath kidx kwild knt (kpr + 1) kkv khv kfull) (T := 94) (fz := (0, 0)) (v := S kpath) Tryd.isAgg9 rfl (.head _) rfl) rfl ?_
  refine GQ.v (V.lenS Tryd.underlying9 rfl) rfl ?_
  refine GQ.v (V.ge rfl rfl) rfl ?_
  refine GQ.v (V.mv rfl) rfl ?_
  refine GQ.bc 276 rfl (fun h276 => ?_) (fun h276 => ?_)
  ·refine GQ.vg rfl rfl (V.mv rfl) rfl ?_
   refine GQ.vg rfl rfl (V.nc rfl) rfl ?_
   refine GQ.vg rfl rfl (V.fa F94_0 rfl) rfl ?_
   refine GQ.vg rfl rfl (V.ld (b := cb) (off := 0 + 0) (wf := true) (l := nodeR kpath kidx kwild knt (kpr + 1) kkv khv kfull) (T := 94) (fz := (0, 0)) (v := S kpath) Tryd.isAgg9 rfl (.head _) rfl) rfl ?_
   refine GQ.vg rfl rfl (V.mv rfl) rfl ?_
   refine GQ.vg rfl rfl (V.mv rfl) rfl ?_
   refine GQ.vg rfl rfl (V.nc rfl) rfl ?_
   refine GQ.vg rfl rfl (V.fa F94_0 rfl) rfl ?_
   refine GQ.vg rfl rfl (V.ld (b := cb) (off := 0 + 0) (wf := true) (l := nodeR kpath kidx kwild knt (kpr + 1) kkv khv kfull) (T := 94) (fz := (0, 0)) (v := S kpath) Tryd.isAgg9 rfl (.head _) rfl) rfl ?_
   refine GQ.vg rfl rfl (V.lenS Tryd.underlying9 rfl) rfl ?_
   refine GQ.vg rfl rfl (V.slH (j := kpath.length) Tryd.underlying9 rfl rfl (by have := of_decide_eq_true h276; omega)) rfl ?_
   refine GQ.vg rfl rfl (V.eqS rfl rfl) rfl ?_
   refine GQ.v (V.pickT rfl rfl) rfl ?_
   refine GQ.v (V.mv rfl) rfl ?_
   refine GQ.bc 290 rfl (fun h290 => ?_) (fun h290 => ?_)
   ·refine GQ.vg rfl rfl (V.mv rfl) rfl ?_
    refine GQ.vg rfl rfl (V.nc rfl) rfl ?_
    refine GQ.vg rfl rfl (V.fa F94_3 rfl) rfl ?_
    refine GQ.vg rfl rfl (V.ld (b := cb) (off := 0 + 3) (wf := true) (l := nodeR kpath kidx kwild knt (kpr + 1) kkv khv kfull) (T := 94) (fz := (0, 0)) (v := .int .u8 (knt : Int)) Tryd.isAgg88 rfl (.head _) rfl) rfl ?_
    refine GQ.vg rfl rfl (V.neI rfl rfl) rfl ?_
    refine GQ.v (V.pickT rfl rfl) rfl ?_
    refine GQ.v (V.mv rfl) rfl ?_
    refine GQ.bc 297 rfl (fun h297 => ?_) (fun h297 => ?_)
    ·refine GQ.vg rfl rfl (V.mv rfl) rfl ?_
     refine GQ.vg rfl rfl (V.nc rfl) rfl ?_
     refine GQ.vg rfl rfl (V.fa F94_0 rfl) rfl ?_
     refine GQ.vg rfl rfl (V.ld (b := cb) (off := 0 + 0) (wf := true) (l := nodeR kpath kidx kwild knt (kpr + 1) kkv khv kfull) (T := 94) (fz := (0, 0)) (v := S kpath) Tryd.isAgg9 rfl (.head _) rfl) rfl ?_
     refine GQ.vg rfl rfl (V.lenS Tryd.underlying9 rfl) rfl ?_
     refine GQ.vg rfl rfl (V.mv rfl) rfl ?_
     refine GQ.vg rfl rfl (V.lenS Tryd.underlying9 rfl) rfl ?_
     refine GQ.vg rfl rfl (V.ge rfl rfl) rfl ?_
     refine GQ.vg rfl rfl (V.mv rfl) rfl ?_
     refine GQ.bc 306 rfl (fun h306 => ?_) (fun h306 => ?_)
     ·refine GQ.sg rfl rfl rfl rfl rfl rfl ?_
      refine GQ.sg rfl rfl rfl rfl rfl rfl ?_
      refine GQ.sg rfl rfl rfl rfl rfl rfl ?_
      refine GQ.sg rfl rfl rfl rfl rfl rfl ?_
      refine GQ.sg rfl rfl rfl rfl rfl rfl ?_
      refine GQ.sg rfl rfl rfl rfl rfl rfl ?_
      refine GQ.sg rfl rfl rfl rfl rfl rfl ?_
      refine GQ.sg rfl rfl rfl rfl rfl rfl ?_
      refine GQ.vg rfl rfl (V.pickT rfl rfl) rfl ?_
      refine GQ.v (V.pickT rfl rfl) rfl ?_
      refine GQ.nil ?_
      exact J38 _ _ ⟨.of rfl, rfl⟩
     ·refine GQ.vg rfl rfl (V.mv rfl) rfl ?_
      refine GQ.vg rfl rfl (V.mv rfl) rfl ?_
      refine GQ.vg rfl rfl (V.nc rfl) rfl ?_
      refine GQ.vg rfl rfl (V.fa F94_0 rfl) rfl ?_
      refine GQ.vg rfl rfl (V.ld (b := cb) (off := 0 + 0) (wf := true) (l := nodeR kpath kidx kwild knt (kpr + 1) kkv khv kfull) (T := 94) (fz := (0, 0)) (v := S kpath) Tryd.isAgg9 rfl (.head _) rfl) rfl ?_
      refine GQ.vg rfl rfl (V.lenS Tryd.underlying9 rfl) rfl ?_
      obtain ⟨y, hy⟩ : ∃ y, p[kpath.length]? = some y := ⟨_, List.getElem?_eq_getElem (by have := of_decide_eq_false h306; omega)⟩
      refine GQ.vg rfl rfl (V.idx (i := kpath.length) (b := y) Tryd.underlying9 rfl rfl hy) rfl ?_
      refine GQ.vg rfl rfl (V.eqI rfl rfl) rfl ?_
      refine GQ.vg rfl rfl (V.pickF rfl rfl) rfl ?_
      refine GQ.v (V.pickT rfl rfl) rfl ?_
      refine GQ.nil ?_
      have e : decide ((y.toNat : Int) = 47) = true := by
       have h1 := of_decide_eq_false h306
       rcases hcond.2.2.2 with h | h
       ·omega
       ·rw [hy] at h; rw [Option.some.inj h]; rfl
      refine J38 _ _ ⟨?_, rfl⟩
      rw [e]
      exact .of rfl
    ·refine GQ.sg rfl rfl rfl rfl rfl rfl ?_
     refine GQ.sg rfl rfl rfl rfl rfl rfl ?_
     refine GQ.sg rfl rfl rfl rfl rfl rfl ?_
     refine GQ.sg rfl rfl rfl rfl rfl rfl ?_
     refine GQ.sg rfl rfl rfl rfl rfl rfl ?_
     refine GQ.sg rfl rfl rfl rfl rfl rfl ?_
     refine GQ.sg rfl rfl rfl rfl rfl rfl ?_
     refine GQ.sg rfl rfl rfl rfl rfl rfl ?_
     refine GQ.sg rfl rfl rfl rfl rfl rfl ?_
     refine GQ.sgU rfl rfl rfl rfl rfl ?_
     refine GQ.sgU rfl rfl rfl rfl rfl ?_
     refine GQ.sgU rfl rfl rfl rfl rfl ?_
     refine GQ.sgU rfl rfl rfl rfl rfl ?_
     refine GQ.sgU rfl rfl rfl rfl rfl ?_
     refine GQ.sgU rfl rfl rfl rfl rfl ?_
     refine GQ.sgU rfl rfl rfl rfl rfl ?_
     refine GQ.sgU rfl rfl rfl rfl rfl ?_
     refine GQ.sg rfl rfl rfl rfl rfl rfl ?_
     refine GQ.v (V.pickF rfl rfl) rfl ?_
     refine GQ.nil ?_
     exact absurd h297 (by have := hcond.2.2.1; simp; omega)
   ·refine GQ.sg rfl rfl rfl rfl rfl rfl ?_
    refine GQ.sg rfl rfl rfl rfl rfl rfl ?_
    refine GQ.sg rfl rfl rfl rfl rfl rfl ?_
    refine GQ.sg rfl rfl rfl rfl rfl rfl ?_
    refine GQ.sg rfl rfl rfl rfl rfl rfl ?_
    refine GQ.v (V.pickF rfl rfl) rfl ?_
    refine GQ.v (V.mv rfl) rfl ?_
    refine GQ.sg rfl rfl rfl rfl rfl rfl ?_
    refine GQ.sg rfl rfl rfl rfl rfl rfl ?_
    refine GQ.sg rfl rfl rfl rfl rfl rfl ?_
    refine GQ.sg rfl rfl rfl rfl rfl rfl ?_
    refine GQ.sg rfl rfl rfl rfl rfl rfl ?_
    refine GQ.sg rfl rfl rfl rfl rfl rfl ?_
    refine GQ.sg rfl rfl rfl rfl rfl rfl ?_
    refine GQ.sg rfl rfl rfl rfl rfl rfl ?_
    refine GQ.sg rfl rfl rfl rfl rfl rfl ?_
    refine GQ.sgU rfl rfl rfl rfl rfl ?_
    refine GQ.sgU rfl rfl rfl rfl rfl ?_
    refine GQ.sgU rfl rfl rfl rfl rfl ?_
    refine GQ.sgU rfl rfl rfl rfl rfl ?_
    refine GQ.sgU rfl rfl rfl rfl rfl ?_
    refine GQ.sgU rfl rfl rfl rfl rfl ?_
    refine GQ.sgU rfl rfl rfl rfl rfl ?_
    refine GQ.sgU rfl rfl rfl rfl rfl ?_
    refine GQ.sg rfl rfl rfl rfl rfl rfl ?_
    refine GQ.v (V.pickF rfl rfl) rfl ?_
    refine GQ.nil ?_
    exact absurd hcond.2.1.symm (of_decide_eq_false h290)
  ·refine GQ.sg rfl rfl rfl rfl rfl rfl ?_
   refine GQ.sg rfl rfl rfl rfl rfl rfl ?_
   refine GQ.sg rfl rfl rfl rfl rfl rfl ?_
   refine GQ.sg rfl rfl rfl rfl rfl rfl ?_
   refine GQ.sg rfl rfl rfl rfl rfl rfl ?_
   refine GQ.sg rfl rfl rfl rfl rfl rfl ?_
   refine GQ.sg rfl rfl rfl rfl rfl rfl ?_
   refine GQ.sg rfl rfl rfl rfl rfl rfl ?_
   refine GQ.sg rfl rfl rfl rfl rfl rfl ?_
   refine GQ.sg rfl rfl rfl rfl rfl rfl ?_
   refine GQ.sg rfl rfl rfl rfl rfl rfl ?_
   refine GQ.sg rfl rfl rfl rfl rfl rfl ?_
   refine GQ.v (V.pickF rfl rfl) rfl ?_
   refine GQ.v (V.mv rfl) rfl ?_
   refine GQ.sg rfl rfl rfl rfl rfl rfl ?_
   refine GQ.sg rfl rfl rfl rfl rfl rfl ?_
   refine GQ.sg rfl rfl rfl rfl rfl rfl ?_
   refine GQ.sg rfl rfl rfl rfl rfl rfl ?_
   refine GQ.sg rfl rfl rfl rfl rfl rfl ?_
   refine GQ.v (V.pickF rfl rfl) rfl ?_
   refine GQ.v (V.mv rfl) rfl ?_
   refine GQ.sg rfl rfl rfl rfl rfl rfl ?_
   refine GQ.sg rfl rfl rfl rfl rfl rfl ?_
   refine GQ.sg rfl rfl rfl rfl rfl rfl ?_
   refine GQ.sg rfl rfl rfl rfl rfl rfl ?_
   refine GQ.sg rfl rfl rfl rfl rfl rfl ?_
   refine GQ.sg rfl rfl rfl rfl rfl rfl ?_
   refine GQ.sg rfl rfl rfl rfl rfl rfl ?_
   refine GQ.sg rfl rfl rfl rfl rfl rfl ?_
   refine GQ.sg rfl rfl rfl rfl rfl rfl ?_
   refine GQ.sgU rfl rfl rfl rfl rfl ?_
   refine GQ.sgU rfl rfl rfl rfl rfl ?_
   refine GQ.sgU rfl rfl rfl rfl rfl ?_
   refine GQ.sgU rfl rfl rfl rfl rfl ?_
   refine GQ.sgU rfl rfl rfl rfl rfl ?_
   refine GQ.sgU rfl rfl rfl rfl rfl ?_
   refine GQ.sgU rfl rfl rfl rfl rfl ?_
   refine GQ.sgU rfl rfl rfl rfl rfl ?_
   refine GQ.sg rfl rfl rfl rfl rfl rfl ?_
   refine GQ.v (V.pickF rfl rfl) rfl ?_
   refine GQ.nil ?_
   exact absurd h276 (by have := hcond.1; simp; omega)
 rintro fr' H' ⟨hs38, rfl⟩
 refine GC.weak hs38 ?_
 clear hs38
 refine GC.condT rfl ?_
 refine GC.exit rfl ?_
 refine GC.inLoop ?_
 refine GC.turn (H' := (⟨cb, true, .row (nodeR kpath kidx kwild knt (kpr + 1) kkv khv kfull) 94 (0, 0)⟩ :: (Ks ++ (Kh ++ Kk))) ++ (⟨hb, true, .row [I (num : Int)] 3 (0, 0)⟩ :: (⟨nb, true, .row (nodeR tp idx wl nt pr (.slice (some ⟨rb, 0, none⟩) kids.length cap) (.slice ad2 l2 c2) f0) 94 (0, 0)⟩ :: ([⟨rb, true, .row (bs.map (Pt · 0) ++ spare) 83 (0, 0)⟩] ++ (C2 ++ (Hh ++ Hr)))))) (fun w1 h1 => h1.perm ?_) ?_
 ·have p1 := perm_idx [[⟨cb, true, .row (nodeR kpath kidx kwild knt (kpr + 1) kkv khv kfull) 94 (0, 0)⟩], (Ks ++ (Kh ++ Kk)), [⟨nb, true, .row (nodeR tp idx wl nt pr (.slice (some ⟨rb, 0, none⟩) kids.length cap) (.slice ad2 l2 c2) f0) 94 (0, 0)⟩], [⟨rb, true, .row (bs.map (Pt · 0) ++ spare) 83 (0, 0)⟩], C2, Hh, [⟨hb, true, .row [I (num : Int)] 3 (0, 0)⟩], Hr] [0, 1, 2, 3, 4, 5, 6, 7] [0, 1, 6, 2, 3, 4, 5, 7] (by decide)
  simpa using p1
 refine go cb _ _ _ (HT.mk (pr := kpr + 1) ks kh kk) (fun k' Hk1' hk' => ?_) (.of rfl)
 obtain ⟨H2, hk4, hp4⟩ := hback k' Hk1' hk'
 refine ⟨_, HT.mk (by rw [List.length_set]; exact hs) hh hk4, ?_⟩
 have p1 := perm_idx [Hk1', [⟨nb, true, .row (nodeR tp idx wl nt pr (.slice (some ⟨rb, 0, none⟩) kids.length cap) (.slice ad2 l2 c2) f0) 94 (0, 0)⟩], [⟨rb, true, .row (bs.map (Pt · 0) ++ spare) 83 (0, 0)⟩], C2, Hh, Hr] [0, 1, 2, 3, 4, 5] [1, 2, 4, 0, 3, 5] (by decide)
 refine List.Perm.trans (l₂ := ⟨nb, true, .row (nodeR tp idx wl nt pr (.slice (some ⟨rb, 0, none⟩) kids.length cap) (.slice ad2 l2 c2) f0) 94 (0, 0)⟩ :: ([⟨rb, true, .row (bs.map (Pt · 0) ++ spare) 83 (0, 0)⟩] ++ (Hh ++ ((Hk1' ++ C2) ++ Hr)))) (by simpa using p1) ?_
 have p2 := (((hp4.symm.append_right Hr).append_left Hh).append_left [⟨rb, true, .row (bs.map (Pt · 0) ++ spare) 83 (0, 0)⟩]).cons ⟨nb, true, .row (nodeR tp idx wl nt pr (.slice (some ⟨rb, 0, none⟩) kids.length cap) (.slice ad2 l2 c2) f0) 94 (0, 0)⟩
 simpa using p2
theorem idx_some {full p a : List UInt8} {r : Int} (hp : p <:+ full) (ha : a <+: p) (h : Idx full a r) : ∃ i : Nat, r = i ∧ i ≤ full.length := by
 rcases h with ⟨rfl, h⟩ | ⟨i, rfl, h, _, _⟩
 ·obtain ⟨u, rfl⟩ := hp
  obtain ⟨v, rfl⟩ := ha
  refine absurd ?_ (h u.length (by simp))
  rw [← List.append_assoc, List.take_append_of_le_length (by simp), List.take_of_length_le (by simp)]
  simp
 ·exact ⟨i, rfl, by omega⟩
theorem f72_wbad {R : Ending → World → Prop} {w : World} {D : Nat → Prop} {nb hb num pfi : Nat} {p full tp idx : List UInt8} {wl : Bool} {nt pr : Nat} {h0 : Option Nat} {f0 : List UInt8} {kids : List T0} {bs : List Nat} {kv hv : Value} {Hs Hh Hk Hr : SH} {fr : SF} {c : UInt8} {k0 : T0}
  (hs : Own 83 1 kv kids.length (bs.map (Pt · 0)) Hs) (hh : HV h0 hv Hh) (hk : HTs kids bs Hk) (hpl : p.length ≤ 100000) (hfl : full.length ≤ 100000) (hsub : Sub [(0, Pt nb 0), (1, S p), (2, .slice (some ⟨hb, 0, none⟩) 1 1), (6, S full), (7, I (pfi : Int)), (10, .int .u8 (c.toNat : Int))] fr) (hc3 : c = 58 ∨ c = 42 ∨ nt = 3) (hwl : wl = true) (hkl9 : kids.length ≤ 90000) (hk0 : kids[kids.length - 1]? = some k0) (hk0l : k0.path.length ≤ 100000) (hcond : ¬ (k0.path.length ≤ p.length ∧ p.take k0.path.length = k0.path ∧ k0.nt ≠ 3 ∧ (p.length ≤ k0.path.length ∨ p[k0.path.length]? = some 47))) (hsuf : p <:+ full)
  (pan : ∀ e w', onePanic e → HF w D [] w' → R e w') :
  GC Tryd.prog ⟨56, Tryd.f56, R, w, D⟩ 377 K72s fr (⟨nb, true, .row (nodeR tp idx wl nt pr kv hv f0) 94 (0, 0)⟩ :: ((Hs ++ (Hh ++ Hk)) ++ (⟨hb, true, .row [I (num : Int)] 3 (0, 0)⟩ :: Hr))) := by
 refine GC.weak hsub ?_
 clear hsub
 obtain ⟨X, hX⟩ : ∃ X, X = (Hh ++ Hk) ++ (⟨hb, true, .row [I (num : Int)] 3 (0, 0)⟩ :: Hr) := ⟨_, rfl⟩
 refine GC.turn (H' := ⟨nb, true, .row (nodeR tp idx wl nt pr kv hv f0) 94 (0, 0)⟩ :: (Hs ++ X)) (fun w1 h1 => by rw [hX, ← List.append_assoc]; exact h1) ?_
 have hkl2 := hk.len
 obtain ⟨ad, cap, rfl⟩ := hs.slice
 obtain ⟨ad2, l2, c2, rfl, hnn⟩ := hh.slice
 refine GC.seq ?_
 refine GC.seq ?_
 refine GC.join (fun fr' H' => Sub [(0, Pt nb 0), (1, S p), (2, .slice (some ⟨hb, 0, none⟩) 1 1), (6, S full), (7, I (pfi : Int)), (10, .int .u8 (c.toNat : Int)), (219, .bool false)] fr' ∧ H' = ⟨nb, true, .row (nodeR tp idx wl nt pr (.slice ad kids.length cap) (.slice ad2 l2 c2) f0) 94 (0, 0)⟩ :: (Hs ++ X)) (fun J29 => ?_) ?_
 ·refine GC.reg ?_
  refine G.m1 ?_
  refine G.v (V.neI rfl rfl) rfl ?_
  refine G.m1 ?_
  refine G.bc 209 rfl (fun h209 => ?_) (fun h209 => ?_)
  ·refine G.m5 ?_
   refine G.vg rfl rfl (V.neI rfl rfl) rfl ?_
   refine G.m3 ?_
   refine G.m1 ?_
   refine G.bc 213 rfl (fun h213 => ?_) (fun h213 => ?_)
   ·refine G.m5 ?_
    refine G.vg rfl rfl (V.nc rfl) rfl ?_
    refine G.vg rfl rfl (V.fa F94_3 rfl) rfl ?_
    refine G.vg rfl rfl (V.ld (b := nb) (off := 0 + 3) (wf := true) (l := nodeR tp idx wl nt pr (.slice ad kids.length cap) (.slice ad2 l2 c2) f0) (T := 94) (fz := (0, 0)) (v := .int .u8 (nt : Int)) Tryd.isAgg88 rfl (.head _) rfl) rfl ?_
    refine G.vg rfl rfl (V.neI rfl rfl) rfl ?_
    refine G.m3 ?_
    refine G.nil ?_
    refine J29 _ _ ⟨?_, rfl⟩
    have e : (!decide ((nt : Int) = 3)) = false := by
     rcases hc3 with rfl | rfl | rfl
     ·exact absurd h209 (by decide)
     ·exact absurd h213 (by decide)
     ·rfl
    rw [e]
    exact .of rfl
   ·refine G.s1 ?_
    refine G.s1 ?_
    refine G.s1 ?_
    refine G.s1 ?_
    refine G.s1 ?_
    refine G.m4 ?_
    refine G.nil ?_
    exact J29 _ _ ⟨.of rfl, rfl⟩
  ·refine G.s1 ?_
   refine G.s1 ?_
   refine G.m4 ?_
   refine G.m1 ?_
   refine G.s1 ?_
   refine G.s1 ?_
   refine G.s1 ?_
   refine G.s1 ?_
   refine G.s1 ?_
   refine G.m4 ?_
   refine G.nil ?_
   exact J29 _ _ ⟨.of rfl, rfl⟩
 rintro fr' H' ⟨hs29, rfl⟩
 refine GC.weak hs29 ?_
 clear hs29
 refine GC.condF rfl ?_
 refine GC.seq ?_
 refine GC.reg ?_
 refine G.m1 ?_
 refine G.v (V.nc rfl) rfl ?_
 refine G.v (V.fa F94_2 rfl) rfl ?_
 refine G.v (V.ld (b := nb) (off := 0 + 2) (wf := true) (l := nodeR tp idx wl nt pr (.slice ad kids.length cap) (.slice ad2 l2 c2) f0) (T := 94) (fz := (0, 0)) (v := .bool wl) Tryd.isAgg4 rfl (.head _) rfl) rfl ?_
 refine G.nil ?_
 refine GC.cond rfl (fun h248 => ?_) (fun h248 => absurd hwl (by rw [h248]; decide))
 refine GC.seq ?_
 have hkp := (List.getElem?_eq_some_iff.1 hk0).1
 obtain ⟨rb, cap2, spare, e1, rfl⟩ := hs.at (i := kids.length - 1) hkp
 cases e1
 obtain ⟨cb, C1, C2, hcb, hkc, hperm, hback⟩ := hk.foc hk0
 cases hkc with
 | @mk kpath kidx kwild knt kpr ko kfull kkids _ kbs kkv khv Ks Kh Kk ks kh kk =>
 simp only [Tr.path, Tr.nt] at hcond hk0l
 refine GC.regQ mixed (by kernel_rfl) ?_
 refine GQ.v (V.mv rfl) rfl ?_
 refine GQ.v (V.nc rfl) rfl ?_
 refine GQ.v (V.fa F94_5 rfl) rfl ?_
 refine GQ.v (V.ld (b := nb) (off := 0 + 5) (wf := true) (l := nodeR tp idx wl nt pr (.slice (some ⟨rb, 0, none⟩) kids.length cap) (.slice ad2 l2 c2) f0) (T := 94) (fz := (0, 0)) (v := (.slice (some ⟨rb, 0, none⟩) kids.length cap)) Tryd.isAgg90 rfl (.head _) rfl) rfl ?_
 refine GQ.v (V.mv rfl) rfl ?_
 refine GQ.v (V.nc rfl) rfl ?_
 refine GQ.v (V.fa F94_5 rfl) rfl ?_
 refine GQ.v (V.ld (b := nb) (off := 0 + 5) (wf := true) (l := nodeR tp idx wl nt pr (.slice (some ⟨rb, 0, none⟩) kids.length cap) (.slice ad2 l2 c2) f0) (T := 94) (fz := (0, 0)) (v := (.slice (some ⟨rb, 0, none⟩) kids.length cap)) Tryd.isAgg90 rfl (.head _) rfl) rfl ?_
 refine GQ.v (V.lenL Tryd.underlying90 rfl) rfl ?_
 refine GQ.v (V.subI (r := ((kids.length - 1 : Nat) : Int)) rfl rfl (by omega) (by omega) (by omega)) rfl ?_
 refine GQ.v (V.ia (i := kids.length - 1) Tryd.underlying90 Tryd.sizeOf83 rfl rfl hkp) rfl ?_
 refine GQ.v (V.ld (b := rb) (off := 0 + (kids.length - 1) * 1) (wf := true) (l := bs.map (Pt · 0) ++ spare) (T := 83) (fz := (0, 0)) (v := Pt cb 0) Tryd.isAgg83 rfl (.tail _ (.head _)) (by rw [nth_eq, Nat.zero_add, Nat.mul_one, List.getElem?_append_left (by rw [List.length_map, hkl2]; exact hkp), List.getElem?_map, hcb]; rfl)) rfl ?_
 refine GQ.v (V.asg rfl) rfl ?_
 refine GQ.nil ?_
 refine GC.seq ?_
 refine GC.turn (H' := ⟨cb, true, .row (nodeR kpath kidx kwild knt kpr kkv khv kfull) 94 (0, 0)⟩ :: ((Ks ++ (Kh ++ Kk)) ++ (⟨nb, true, .row (nodeR tp idx wl nt pr (.slice (some ⟨rb, 0, none⟩) kids.length cap) (.slice ad2 l2 c2) f0) 94 (0, 0)⟩ :: ([⟨rb, true, .row (bs.map (Pt · 0) ++ spare) 83 (0, 0)⟩] ++ (C2 ++ (Hh ++ (⟨hb, true, .row [I (num : Int)] 3 (0, 0)⟩ :: Hr))))))) (fun w1 h1 => h1.perm ?_) ?_
 ·rw [hX]
  have p1 := perm_idx [[⟨nb, true, .row (nodeR tp idx wl nt pr (.slice (some ⟨rb, 0, none⟩) kids.length cap) (.slice ad2 l2 c2) f0) 94 (0, 0)⟩], [⟨rb, true, .row (bs.map (Pt · 0) ++ spare) 83 (0, 0)⟩], [⟨cb, true, .row (nodeR kpath kidx kwild knt kpr kkv khv kfull) 94 (0, 0)⟩], (Ks ++ (Kh ++ Kk)), C2, Hh, [⟨hb, true, .row [I (num : Int)] 3 (0, 0)⟩], Hr] [0, 1, 2, 3, 4, 5, 6, 7] [2, 3, 0, 1, 4, 5, 6, 7] (by decide)
  refine List.Perm.trans (l₂ := ⟨nb, true, .row (nodeR tp idx wl nt pr (.slice (some ⟨rb, 0, none⟩) kids.length cap) (.slice ad2 l2 c2) f0) 94 (0, 0)⟩ :: ([⟨rb, true, .row (bs.map (Pt · 0) ++ spare) 83 (0, 0)⟩] ++ (((⟨cb, true, .row (nodeR kpath kidx kwild knt kpr kkv khv kfull) 94 (0, 0)⟩ :: (Ks ++ (Kh ++ Kk))) ++ C2) ++ (Hh ++ (⟨hb, true, .row [I (num : Int)] 3 (0, 0)⟩ :: Hr))))) ?_ (by simpa using p1)
  have p3 := perm_idx [[⟨nb, true, .row (nodeR tp idx wl nt pr (.slice (some ⟨rb, 0, none⟩) kids.length cap) (.slice ad2 l2 c2) f0) 94 (0, 0)⟩], [⟨rb, true, .row (bs.map (Pt · 0) ++ spare) 83 (0, 0)⟩], Hh, Hk, [⟨hb, true, .row [I (num : Int)] 3 (0, 0)⟩], Hr] [0, 1, 2, 3, 4, 5] [0, 1, 3, 2, 4, 5] (by decide)
  refine List.Perm.trans (l₂ := ⟨nb, true, .row (nodeR tp idx wl nt pr (.slice (some ⟨rb, 0, none⟩) kids.length cap) (.slice ad2 l2 c2) f0) 94 (0, 0)⟩ :: ([⟨rb, true, .row (bs.map (Pt · 0) ++ spare) 83 (0, 0)⟩] ++ (Hk ++ (Hh ++ (⟨hb, true, .row [I (num : Int)] 3 (0, 0)⟩ :: Hr))))) (by simpa using p3) ?_
  exact ((hperm.append_right _).append_left _).cons _
 refine GC.reg ?_
 refine G.m1 ?_
 refine G.v (V.nc rfl) rfl ?_
 refine G.v (V.fa F94_4 rfl) rfl ?_
 refine G.v (V.ld (b := cb) (off := 0 + 4) (wf := true) (l := nodeR kpath kidx kwild knt kpr kkv khv kfull) (T := 94) (fz := (0, 0)) (v := .int .u32 ((kpr % 4294967296 : Nat) : Int)) Tryd.isAgg89 rfl (.head _) rfl) rfl ?_
 refine G.v (V.add rfl rfl) rfl ?_
 rw [wrapU32]
 refine G.v (V.nc rfl) rfl ?_
 refine G.v (V.fa F94_4 rfl) rfl ?_
 refine G.st (b := cb) (off := 0 + 4) (l := nodeR kpath kidx kwild knt kpr kkv khv kfull) (T := 94) (fz := (0, 0)) (v := .int .u32 (((kpr + 1) % 4294967296 : Nat) : Int)) Tryd.sizeOf89 rfl rfl rfl (.z) rfl rfl ?_
 refine G.nil ?_
 refine GC.seq ?_
 refine GC.seq ?_
 refine GC.turn (H' := ⟨cb, true, .row (nodeR kpath kidx kwild knt (kpr + 1) kkv khv kfull) 94 (0, 0)⟩ :: ((Ks ++ (Kh ++ Kk)) ++ (⟨nb, true, .row (nodeR tp idx wl nt pr (.slice (some ⟨rb, 0, none⟩) kids.length cap) (.slice ad2 l2 c2) f0) 94 (0, 0)⟩ :: ([⟨rb, true, .row (bs.map (Pt · 0) ++ spare) 83 (0, 0)⟩] ++ (C2 ++ (Hh ++ (⟨hb, true, .row [I (num : Int)] 3 (0, 0)⟩ :: Hr))))))) (fun w1 h1 => ?_) ?_
 ·exact h1
 refine GC.join (fun fr' H' => Sub [(0, Pt cb 0), (1, S p), (2, .slice (some ⟨hb, 0, none⟩) 1 1), (6, S full), (7, I (pfi : Int)), (10, .int .u8 (c.toNat : Int)), (316, .bool false)] fr' ∧ H' = ⟨cb, true, .row (nodeR kpath kidx kwild knt (kpr + 1) kkv khv kfull) 94 (0, 0)⟩ :: ((Ks ++ (Kh ++ Kk)) ++ (⟨nb, true, .row (nodeR tp idx wl nt pr (.slice (some ⟨rb, 0, none⟩) kids.length cap) (.slice ad2 l2 c2) f0) 94 (0, 0)⟩ :: ([⟨rb, true, .row (bs.map (Pt · 0) ++ spare) 83 (0, 0)⟩] ++ (C2 ++ (Hh ++ (⟨hb, true, .row [I (num : Int)] 3 (0, 0)⟩ :: Hr))))))) (fun J38 => ?_) ?_
 ·refine GC.regQ mixed (by kernel_rfl) ?_
  refine GQ.v (V.mv rfl) rfl ?_
  refine GQ.v (V.lenS Tryd.underlying9 rfl) rfl ?_
  refine GQ.v (V.mv rfl) rfl ?_
  refine GQ.v (V.nc rfl) rfl ?_
  refine GQ.v (V.fa F94_0 rfl) rfl ?_
  refine GQ.v (V.ld (b := cb) (off := 0 + 0) (wf := true) (l := nodeR kpath kidx kwild knt (kpr + 1) kkv khv kfull) (T := 94) (fz := (0, 0)) (v := S kpath) Tryd.isAgg9 rfl (.head _) rfl) rfl ?_
  refine GQ.v (V.lenS Tryd.underlying9 rfl) rfl ?_
  refine GQ.v (V.ge rfl rfl) rfl ?_
  refine GQ.v (V.mv rfl) rfl ?_
  refine GQ.bc 276 rfl (fun h276 => ?_) (fun h276 => ?_)
  ·refine GQ.vg rfl rfl (V.mv rfl) rfl ?_
   refine GQ.vg rfl rfl (V.nc rfl) rfl ?_
   refine GQ.vg rfl rfl (V.fa F94_0 rfl) rfl ?_
   refine GQ.vg rfl rfl (V.ld (b := cb) (off := 0 + 0) (wf := true) (l := nodeR kpath kidx kwild knt (kpr + 1) kkv khv kfull) (T := 94) (fz := (0, 0)) (v := S kpath) Tryd.isAgg9 rfl (.head _) rfl) rfl ?_
   refine GQ.vg rfl rfl (V.mv rfl) rfl ?_
   refine GQ.vg rfl rfl (V.mv rfl) rfl ?_
   refine GQ.vg rfl rfl (V.nc rfl) rfl ?_
   refine GQ.vg rfl rfl (V.fa F94_0 rfl) rfl ?_
   refine GQ.vg rfl rfl (V.ld (b := cb) (off := 0 + 0) (wf := true) (l := nodeR kpath kidx kwild knt (kpr + 1) kkv khv kfull) (T := 94) (fz := (0, 0)) (v := S kpath) Tryd.isAgg9 rfl (.head _) rfl) rfl ?_
   refine GQ.vg rfl rfl (V.lenS Tryd.underlying9 rfl) rfl ?_
   refine GQ.vg rfl rfl (V.slH (j := kpath.length) Tryd.underlying9 rfl rfl (by have := of_decide_eq_true h276; omega)) rfl ?_
   refine GQ.vg rfl rfl (V.eqS rfl rfl) rfl ?_
   refine GQ.v (V.pickT rfl rfl) rfl ?_
   refine GQ.v (V.mv rfl) rfl ?_
   refine GQ.bc 290 rfl (fun h290 => ?_) (fun h290 => ?_)
   ·refine GQ.vg rfl rfl (V.mv rfl) rfl ?_
    refine GQ.vg rfl rfl (V.nc rfl) rfl ?_
    refine GQ.vg rfl rfl (V.fa F94_3 rfl) rfl ?_
    refine GQ.vg rfl rfl (V.ld (b := cb) (off := 0 + 3) (wf := true) (l := nodeR kpath kidx kwild knt (kpr + 1) kkv khv kfull) (T := 94) (fz := (0, 0)) (v := .int .u8 (knt : Int)) Tryd.isAgg88 rfl (.head _) rfl) rfl ?_
    refine GQ.vg rfl rfl (V.neI rfl rfl) rfl ?_
    refine GQ.v (V.pickT rfl rfl) rfl ?_
    refine GQ.v (V.mv rfl) rfl ?_
    refine GQ.bc 297 rfl (fun h297 => ?_) (fun h297 => ?_)
    ·refine GQ.vg rfl rfl (V.mv rfl) rfl ?_
     refine GQ.vg rfl rfl (V.nc rfl) rfl ?_
     refine GQ.vg rfl rfl (V.fa F94_0 rfl) rfl ?_
     refine GQ.vg rfl rfl (V.ld (b := cb) (off := 0 + 0) (wf := true) (l := nodeR kpath kidx kwild knt (kpr + 1) kkv khv kfull) (T := 94) (fz := (0, 0)) (v := S kpath) Tryd.isAgg9 rfl (.head _) rfl) rfl ?_
     refine GQ.vg rfl rfl (V.lenS Tryd.underlying9 rfl) rfl ?_
     refine GQ.vg rfl rfl (V.mv rfl) rfl ?_
     refine GQ.vg rfl rfl (V.lenS Tryd.underlying9 rfl) rfl ?_
     refine GQ.vg rfl rfl (V.ge rfl rfl) rfl ?_
     refine GQ.vg rfl rfl (V.mv rfl) rfl ?_
     refine GQ.bc 306 rfl (fun h306 => ?_) (fun h306 => ?_)
     ·refine GQ.sg rfl rfl rfl rfl rfl rfl ?_
      refine GQ.sg rfl rfl rfl rfl rfl rfl ?_
      refine GQ.sg rfl rfl rfl rfl rfl rfl ?_
      refine GQ.sg rfl rfl rfl rfl rfl rfl ?_
      refine GQ.sg rfl rfl rfl rfl rfl rfl ?_
      refine GQ.sg rfl rfl rfl rfl rfl rfl ?_
      refine GQ.sg rfl rfl rfl rfl rfl rfl ?_
      refine GQ.sg rfl rfl rfl rfl rfl rfl ?_
      refine GQ.vg rfl rfl (V.pickT rfl rfl) rfl ?_
      refine GQ.v (V.pickT rfl rfl) rfl ?_
      refine GQ.nil ?_
      exact absurd ⟨by have := of_decide_eq_true h276; omega, (of_decide_eq_true h290).symm, by have := h297; simp at this; omega, .inl (by have := of_decide_eq_true h306; omega)⟩ hcond
     ·refine GQ.vg rfl rfl (V.mv rfl) rfl ?_
      refine GQ.vg rfl rfl (V.mv rfl) rfl ?_
      refine GQ.vg rfl rfl (V.nc rfl) rfl ?_
      refine GQ.vg rfl rfl (V.fa F94_0 rfl) rfl ?_
      refine GQ.vg rfl rfl (V.ld (b := cb) (off := 0 + 0) (wf := true) (l := nodeR kpath kidx kwild knt (kpr + 1) kkv khv kfull) (T := 94) (fz := (0, 0)) (v := S kpath) Tryd.isAgg9 rfl (.head _) rfl) rfl ?_
      refine GQ.vg rfl rfl (V.lenS Tryd.underlying9 rfl) rfl ?_
      obtain ⟨y, hy⟩ : ∃ y, p[kpath.length]? = some y := ⟨_, List.getElem?_eq_getElem (by have := of_decide_eq_false h306; omega)⟩
      refine GQ.vg rfl rfl (V.idx (i := kpath.length) (b := y) Tryd.underlying9 rfl rfl hy) rfl ?_
      refine GQ.vg rfl rfl (V.eqI rfl rfl) rfl ?_
      refine GQ.vg rfl rfl (V.pickF rfl rfl) rfl ?_
      refine GQ.v (V.pickT rfl rfl) rfl ?_
      refine GQ.nil ?_
      have e : decide ((y.toNat : Int) = 47) = false := by
       refine decide_eq_false fun e => hcond ⟨by have := of_decide_eq_true h276; omega, (of_decide_eq_true h290).symm, ?_, .inr (by rw [hy, u47 e])⟩
       have := h297
       simp at this
       omega
      refine J38 _ _ ⟨?_, rfl⟩
      rw [e]
      exact .of rfl
    ·refine GQ.sg rfl rfl rfl rfl rfl rfl ?_
     refine GQ.sg rfl rfl rfl rfl rfl rfl ?_
     refine GQ.sg rfl rfl rfl rfl rfl rfl ?_
     refine GQ.sg rfl rfl rfl rfl rfl rfl ?_
     refine GQ.sg rfl rfl rfl rfl rfl rfl ?_
     refine GQ.sg rfl rfl rfl rfl rfl rfl ?_
     refine GQ.sg rfl rfl rfl rfl rfl rfl ?_
     refine GQ.sg rfl rfl rfl rfl rfl rfl ?_
     refine GQ.sg rfl rfl rfl rfl rfl rfl ?_
     refine GQ.sgU rfl rfl rfl rfl rfl ?_
     refine GQ.sgU rfl rfl rfl rfl rfl ?_
     refine GQ.sgU rfl rfl rfl rfl rfl ?_
     refine GQ.sgU rfl rfl rfl rfl rfl ?_
     refine GQ.sgU rfl rfl rfl rfl rfl ?_
     refine GQ.sgU rfl rfl rfl rfl rfl ?_
     refine GQ.sgU rfl rfl rfl rfl rfl ?_
     refine GQ.sgU rfl rfl rfl rfl rfl ?_
     refine GQ.sg rfl rfl rfl rfl rfl rfl ?_
     refine GQ.v (V.pickF rfl rfl) rfl ?_
     refine GQ.nil ?_
     exact J38 _ _ ⟨.of rfl, rfl⟩
   ·refine GQ.sg rfl rfl rfl rfl rfl rfl ?_
    refine GQ.sg rfl rfl rfl rfl rfl rfl ?_
    refine GQ.sg rfl rfl rfl rfl rfl rfl ?_
    refine GQ.sg rfl rfl rfl rfl rfl rfl ?_
    refine GQ.sg rfl rfl rfl rfl rfl rfl ?_
    refine GQ.v (V.pickF rfl rfl) rfl ?_
    refine GQ.v (V.mv rfl) rfl ?_
    refine GQ.sg rfl rfl rfl rfl rfl rfl ?_
    refine GQ.sg rfl rfl rfl rfl rfl rfl ?_
    refine GQ.sg rfl rfl rfl rfl rfl rfl ?_
    refine GQ.sg rfl rfl rfl rfl rfl rfl ?_
    refine GQ.sg rfl rfl rfl rfl rfl rfl ?_
    refine GQ.sg rfl rfl rfl rfl rfl rfl ?_
    refine GQ.sg rfl rfl rfl rfl rfl rfl ?_
    refine GQ.sg rfl rfl rfl rfl rfl rfl ?_
    refine GQ.sg rfl rfl rfl rfl rfl rfl ?_
    refine GQ.sgU rfl rfl rfl rfl rfl ?_
    refine GQ.sgU rfl rfl rfl rfl rfl ?_
    refine GQ.sgU rfl rfl rfl rfl rfl ?_
    refine GQ.sgU rfl rfl rfl rfl rfl ?_
    refine GQ.sgU rfl rfl rfl rfl rfl ?_
    refine GQ.sgU rfl rfl rfl rfl rfl ?_
    refine GQ.sgU rfl rfl rfl rfl rfl ?_
    refine GQ.sgU rfl rfl rfl rfl rfl ?_
    refine GQ.sg rfl rfl rfl rfl rfl rfl ?_
    refine GQ.v (V.pickF rfl rfl) rfl ?_
    refine GQ.nil ?_
    exact J38 _ _ ⟨.of rfl, rfl⟩
  ·refine GQ.sg rfl rfl rfl rfl rfl rfl ?_
   refine GQ.sg rfl rfl rfl rfl rfl rfl ?_
   refine GQ.sg rfl rfl rfl rfl rfl rfl ?_
   refine GQ.sg rfl rfl rfl rfl rfl rfl ?_
   refine GQ.sg rfl rfl rfl rfl rfl rfl ?_
   refine GQ.sg rfl rfl rfl rfl rfl rfl ?_
   refine GQ.sg rfl rfl rfl rfl rfl rfl ?_
   refine GQ.sg rfl rfl rfl rfl rfl rfl ?_
   refine GQ.sg rfl rfl rfl rfl rfl rfl ?_
   refine GQ.sg rfl rfl rfl rfl rfl rfl ?_
   refine GQ.sg rfl rfl rfl rfl rfl rfl ?_
   refine GQ.sg rfl rfl rfl rfl rfl rfl ?_
   refine GQ.v (V.pickF rfl rfl) rfl ?_
   refine GQ.v (V.mv rfl) rfl ?_
   refine GQ.sg rfl rfl rfl rfl rfl rfl ?_
   refine GQ.sg rfl rfl rfl rfl rfl rfl ?_
   refine GQ.sg rfl rfl rfl rfl rfl rfl ?_
   refine GQ.sg rfl rfl rfl rfl rfl rfl ?_
   refine GQ.sg rfl rfl rfl rfl rfl rfl ?_
   refine GQ.v (V.pickF rfl rfl) rfl ?_
   refine GQ.v (V.mv rfl) rfl ?_
   refine GQ.sg rfl rfl rfl rfl rfl rfl ?_
   refine GQ.sg rfl rfl rfl rfl rfl rfl ?_
   refine GQ.sg rfl rfl rfl rfl rfl rfl ?_
   refine GQ.sg rfl rfl rfl rfl rfl rfl ?_
   refine GQ.sg rfl rfl rfl rfl rfl rfl ?_
   refine GQ.sg rfl rfl rfl rfl rfl rfl ?_
   refine GQ.sg rfl rfl rfl rfl rfl rfl ?_
   refine GQ.sg rfl rfl rfl rfl rfl rfl ?_
   refine GQ.sg rfl rfl rfl rfl rfl rfl ?_
   refine GQ.sgU rfl rfl rfl rfl rfl ?_
   refine GQ.sgU rfl rfl rfl rfl rfl ?_
   refine GQ.sgU rfl rfl rfl rfl rfl ?_
   refine GQ.sgU rfl rfl rfl rfl rfl ?_
   refine GQ.sgU rfl rfl rfl rfl rfl ?_
   refine GQ.sgU rfl rfl rfl rfl rfl ?_
   refine GQ.sgU rfl rfl rfl rfl rfl ?_
   refine GQ.sgU rfl rfl rfl rfl rfl ?_
   refine GQ.sg rfl rfl rfl rfl rfl rfl ?_
   refine GQ.v (V.pickF rfl rfl) rfl ?_
   refine GQ.nil ?_
   exact J38 _ _ ⟨.of rfl, rfl⟩
 rintro fr' H' ⟨hs38, rfl⟩
 refine GC.weak hs38 ?_
 clear hs38
 refine GC.condF rfl ?_
 refine GC.skip ?_
 refine GC.seq ?_
 refine GC.reg ?_
 refine G.m1 ?_
 refine G.m2 ?_
 refine G.nil ?_
 refine GC.seq ?_
 refine GC.seq ?_
 refine GC.reg ?_
 refine G.m1 ?_
 refine G.v (V.nc rfl) rfl ?_
 refine G.v (V.fa F94_3 rfl) rfl ?_
 refine G.v (V.ld (b := cb) (off := 0 + 3) (wf := true) (l := nodeR kpath kidx kwild knt (kpr + 1) kkv khv kfull) (T := 94) (fz := (0, 0)) (v := .int .u8 (knt : Int)) Tryd.isAgg88 rfl (.head _) rfl) rfl ?_
 refine G.v (V.neI rfl rfl) rfl ?_
 refine G.nil ?_
 refine GC.join (fun fr' H' => ∃ a, a <+: p ∧ Sub [(0, Pt cb 0), (6, S full), (14, S a)] fr' ∧ H' = ⟨cb, true, .row (nodeR kpath kidx kwild knt (kpr + 1) kkv khv kfull) 94 (0, 0)⟩ :: ((Ks ++ (Kh ++ Kk)) ++ (⟨nb, true, .row (nodeR tp idx wl nt pr (.slice (some ⟨rb, 0, none⟩) kids.length cap) (.slice ad2 l2 c2) f0) 94 (0, 0)⟩ :: ([⟨rb, true, .row (bs.map (Pt · 0) ++ spare) 83 (0, 0)⟩] ++ (C2 ++ (Hh ++ (⟨hb, true, .row [I (num : Int)] 3 (0, 0)⟩ :: Hr))))))) (fun J322 => ?_) ?_
 ·refine GC.cond rfl (fun h322 => ?_) (fun h322 => ?_)
  ·refine GC.reg ?_
   refine G.m1 ?_
   refine G.callW (fun v H2 => ∃ a b t, a <+: p ∧ v = .tuple #[S a, S b, .bool t] ∧ H2 = ⟨cb, true, .row (nodeR kpath kidx kwild knt (kpr + 1) kkv khv kfull) 94 (0, 0)⟩ :: ((Ks ++ (Kh ++ Kk)) ++ (⟨nb, true, .row (nodeR tp idx wl nt pr (.slice (some ⟨rb, 0, none⟩) kids.length cap) (.slice ad2 l2 c2) f0) 94 (0, 0)⟩ :: ([⟨rb, true, .row (bs.map (Pt · 0) ++ spare) 83 (0, 0)⟩] ++ (C2 ++ (Hh ++ (⟨hb, true, .row [I (num : Int)] 3 (0, 0)⟩ :: Hr))))))) Tryd.call66 rfl rfl (fun w1 hw1 => (f83_any w1 p [47] (by omega) (by simp)).mono fun e w' ⟨a, b, t, h1, h2, h3⟩ => ⟨_, _, h2, hw1.after0 h3 (fun e he => by cases he), a, b, t, h1, rfl, rfl⟩) ?_
   rintro v H2 ⟨a, bb, tt, hap, rfl, rfl⟩
   refine G.m1 ?_
   refine G.v (V.ex rfl rfl) rfl ?_
   refine G.v (V.ex rfl rfl) rfl ?_
   refine G.v (V.ex rfl rfl) rfl ?_
   refine G.m2 ?_
   refine G.nil ?_
   exact J322 _ _ ⟨a, hap, .of rfl, rfl⟩
  refine GC.skip ?_
  exact J322 _ _ ⟨p, List.prefix_refl _, .of rfl, rfl⟩
 rintro fr' H' ⟨a, hap, hs322, rfl⟩
 refine GC.weak hs322 ?_
 clear hs322
 have hal := hap.length_le
 have hap2 := hsuf.length_le
 refine GC.seq ?_
 obtain ⟨r, hr⟩ := idx_ex full a
 obtain ⟨ri, rfl, hri⟩ := idx_some hsuf hap hr
 refine GC.regQ mixed (by kernel_rfl) ?_
 refine GQ.v (V.mv rfl) rfl ?_
 refine GQ.v (V.mv rfl) rfl ?_
 refine GQ.v (V.mv rfl) rfl ?_
 refine GQ.callP (v := I (ri : Int)) Tryd.call67 rfl rfl (fun w1 hw1 => (f84_any w1 full a (by omega) (by omega)).mono fun e w' ⟨r2, h1, h2, h3⟩ => ⟨by rw [h2, idx_uniq h1 hr], h3⟩) ?_
 refine GQ.v (V.slH (j := ri) Tryd.underlying9 rfl rfl hri) rfl ?_
 refine GQ.v (V.mv rfl) rfl ?_
 refine GQ.v (V.nc rfl) rfl ?_
 refine GQ.v (V.fa F94_0 rfl) rfl ?_
 refine GQ.v (V.ld (b := cb) (off := 0 + 0) (wf := true) (l := nodeR kpath kidx kwild knt (kpr + 1) kkv khv kfull) (T := 94) (fz := (0, 0)) (v := S kpath) Tryd.isAgg9 rfl (.head _) rfl) rfl ?_
 refine GQ.v (V.cat rfl rfl (by simp; omega)) rfl ?_
 refine GQ.v (V.asg rfl) rfl ?_
 refine GQ.nil ?_
 refine GC.reg ?_
 refine G.m1 ?_
 refine G.v (V.cat rfl rfl (by simp; omega)) rfl ?_
 refine G.v (V.cat rfl rfl (by simp; omega)) rfl ?_
 refine G.m1 ?_
 refine G.v (V.cat rfl rfl (by simp; omega)) rfl ?_
 refine G.v (V.cat rfl rfl (by simp; omega)) rfl ?_
 refine G.m1 ?_
 refine G.v (V.nc rfl) rfl ?_
 refine G.v (V.fa F94_0 rfl) rfl ?_
 refine G.v (V.ld (b := cb) (off := 0 + 0) (wf := true) (l := nodeR kpath kidx kwild knt (kpr + 1) kkv khv kfull) (T := 94) (fz := (0, 0)) (v := S kpath) Tryd.isAgg9 rfl (.head _) rfl) rfl ?_
 refine G.v (V.cat rfl rfl (by simp; omega)) rfl ?_
 refine G.v (V.cat rfl rfl (by simp; omega)) rfl ?_
 refine G.m1 ?_
 refine G.v (V.cat rfl rfl (by simp; omega)) rfl ?_
 refine G.v (V.cat rfl rfl (by simp; omega)) rfl ?_
 refine G.v (V.miS Tryd.underlying9 rfl) rfl ?_
 refine G.panic rfl fun w' hw' => pan _ _ ⟨_, _, rfl⟩ (hw'.sub (List.nil_sublist _))
end Go.Proofs
