/- Lemmas of the walk and plain facts (HsE6 .. HuN3). -/
import Derived.Test.YtdjnbehdiohggaaDoorP20
import Derived.Test.YtdjnbehdiohggaaDoorP21
import Derived.Test.YtdjnbehdiohggaaDoorP01
import Derived.Test.YtdjnbehdiohggaaDoorP19
import Derived.Test.YtdjnbehdiohggaaDoorP12
/- cleanPath cleans. Printed by wip/mk_gs6.py. -/
namespace Go.Proofs
open Go Bw
set_option maxRecDepth 20000
theorem BufSt.cut {p : List UInt8} {M : Nat} {out : List UInt8} {sv : Value} {Hb : SH} (h : BufSt p M out sv Hb) {k : Nat} (hk : k ≤ out.length) : BufSt p M (out.take k) sv Hb := by
 obtain ⟨b, m, l, h1, h2, h3, h4⟩ := h
 have hl : (out.take k).length = k := by simp; omega
 refine ⟨b, m, l, h1, h2, by omega, ?_⟩
 rcases h4 with ⟨a1, a2, a3, a4⟩ | ⟨a1, a2, a3, a4⟩
 ·refine .inl ⟨a1, a2, a3, ?_⟩
  rw [hl]
  conv => lhs; rw [a4]
  rw [List.take_take, Nat.min_eq_left hk]
 ·refine .inr ⟨a1, a2, a3, ?_⟩
  rw [hl]
  conv => rhs; rw [← a4]
  rw [List.take_take, Nat.min_eq_left hk]
theorem clean_nil : Gs.clean [] = [47] := by decide
theorem getLast_idx {p : List UInt8} {y : UInt8} (h : p[p.length - 1]? = some y) : p.getLast? = some y := by rw [List.getLast?_eq_getElem?]; exact h
theorem neI_val {x y : UInt8} (h : (!decide ((x.toNat : Int) = (y.toNat : Int))) = false) : x = y := by
 have : decide ((x.toNat : Int) = (y.toNat : Int)) = true := by simpa using h
 exact UInt8.toNat_inj.1 (by have := of_decide_eq_true this; omega)
theorem u46 {x : UInt8} (h : (x.toNat : Int) = 46) : x = 46 := UInt8.toNat_inj.1 (show x.toNat = 46 by omega)
theorem s27_any (w : World) (p : List UInt8) (hp : p.length ≤ 4000) : Calls Tryd.prog 54 #[S p] w fun e w' => e = .returned (S (Gs.clean p)) ∧ HF w (fun _ => False) [] w' := by
 refine enter (fun _ => False) [] Tryd.func54 rfl Tryd.ntmps54 rfl rfl (HF.start w _) fun c hc => ?_
 subst hc
 refine GC.seq ?_
 refine GC.reg ?_
 refine G.m2 ?_
 refine G.nil ?_
 refine GC.seq ?_
 refine GC.seq ?_
 refine GC.reg ?_
 refine G.m1 ?_
 refine G.v (V.eqS rfl rfl) rfl ?_
 refine G.nil ?_
 refine GC.condD rfl (fun h9 => ?_) (fun h9 => ?_)
 ·refine GC.seq ?_
  refine GC.reg ?_
  refine G.m2 ?_
  refine G.nil ?_
  subst h9
  exact GC.ret1 rfl rfl fun w' hw' => ⟨by rw [clean_nil], hw'⟩
 refine GC.skip ?_
 refine GC.seq ?_
 refine GC.reg ?_
 refine G.new (kb := .row (bC (List.replicate 128 0)) 5 (0, 0)) (v := fun b => .slice (some ⟨b, 0, none⟩) 0 128) (fun a w1 ha hw1 => mkB (i5 := Tryd.t5) (l := 0) (z := 128) Tryd.underlying44 rfl rfl rfl rfl ha rfl rfl (by omega) (by omega)) rfl (fun b0 hb0 => ?_)
 refine G.al Tryd.zeroValue44 rfl rfl (fun vb hvb => ?_)
 refine G.st Tryd.sizeOf44 rfl rfl rfl .z rfl rfl ?_
 refine G.nil ?_
 refine GC.seq ?_
 refine GC.turn (H' := [⟨vb, true, .row [.slice (some ⟨b0, 0, none⟩) 0 128] 44 (0, 0)⟩, ⟨b0, true, .row (bC (List.replicate 128 0)) 5 (0, 0)⟩]) (fun w1 hw1 => hw1) ?_
 have hpos : 0 < p.length := List.length_pos_iff.2 h9
 obtain ⟨x0, hx0⟩ : ∃ x0, p[0]? = some x0 := ⟨_, List.getElem?_eq_getElem hpos⟩
 have hr128 : (List.replicate 128 (0 : UInt8)).length = 128 := List.length_replicate
 refine GC.reg ?_
 refine G.m1 ?_
 refine G.v (V.lenS Tryd.underlying9 rfl) rfl ?_
 refine G.m2 ?_
 refine G.nil ?_
 refine GC.seq ?_
 refine GC.reg ?_
 refine G.m2 ?_
 refine G.nil ?_
 refine GC.seq ?_
 refine GC.reg ?_
 refine G.m2 ?_
 refine G.nil ?_
 refine GC.seq ?_
 refine GC.seq ?_
 refine GC.reg ?_
 refine G.m1 ?_
 refine G.v (V.idx (i := 0) (b := x0) Tryd.underlying9 rfl rfl hx0) rfl ?_
 refine G.v (V.neI rfl rfl) rfl ?_
 refine G.nil ?_
 refine GC.join (fun fr' H' => ∃ (r M : Nat) (sv : Value) (Hb : SH), BufSt p M [47] sv Hb ∧ (∀ x ∈ Hb, x.w = true) ∧ r ≤ 1 ∧ M + r = p.length + 1 ∧ Gs.pfold [] (Gs.secs (p.drop r)) = Gs.pfold [] (Gs.secs p) ∧ (Gs.ld p ↔ Gs.ld (p.drop r)) ∧ Sub [(0, S p), (3, Pt vb 0), (4, I (p.length : Nat)), (5, I ((r : Nat) : Int)), (6, I 1)] fr' ∧ (∀ w1, HF w (fun _ => False) H' w1 → HF w (fun _ => False) (⟨vb, true, .row [sv] 44 (0, 0)⟩ :: Hb) w1)) (fun J15 => ?_) ?_
 ·refine GC.cond rfl (fun h15 => ?_) (fun h15 => ?_)
  ·refine GC.seq ?_
   refine GC.reg ?_
   refine G.m2 ?_
   refine G.nil ?_
   refine GC.seq ?_
   refine GC.seq ?_
   refine GC.reg ?_
   refine G.m1 ?_
   refine G.v (V.addI (r := ((p.length + 1 : Nat) : Int)) rfl rfl rfl (by omega) (by omega)) rfl ?_
   refine G.v (V.gt rfl rfl) rfl ?_
   refine G.nil ?_
   refine GC.join (fun fr' H' => ∃ (b2 : Nat) (l2 : List UInt8), p.length + 1 ≤ l2.length ∧ Sub [(0, S p), (3, Pt vb 0), (4, I (p.length : Nat)), (5, I 0), (6, I 1)] fr' ∧ (∀ w1, HF w (fun _ => False) H' w1 → HF w (fun _ => False) [⟨vb, true, .row [.slice (some ⟨b2, 0, none⟩) (p.length + 1) l2.length] 44 (0, 0)⟩, ⟨b2, true, .row (bC l2) 5 (0, 0)⟩] w1)) (fun J18 => ?_) ?_
   ·refine GC.condD rfl (fun h18 => ?_) (fun h18 => ?_)
    ·refine GC.reg ?_
     refine G.m1 ?_
     refine G.v (V.addI (r := ((p.length + 1 : Nat) : Int)) rfl rfl rfl (by omega) (by omega)) rfl ?_
     refine G.new (kb := .row (bC (List.replicate (p.length + 1) 0)) 5 (0, 0)) (v := fun b => .slice (some ⟨b, 0, none⟩) (p.length + 1) (p.length + 1)) (fun a w1 ha hw1 => mkB (i5 := Tryd.t5) Tryd.underlying44 rfl rfl rfl rfl ha rfl rfl (Nat.le_refl _) (by omega)) rfl (fun b2 hb2 => ?_)
     refine G.st Tryd.sizeOf44 rfl rfl rfl (.s .z) rfl rfl ?_
     refine G.nil ?_
     have e : (List.replicate (p.length + 1) (0 : UInt8)).length = p.length + 1 := List.length_replicate
     refine J18 _ _ ⟨b2, List.replicate (p.length + 1) 0, by rw [e]; exact Nat.le_refl _, .of rfl, fun w1 h => ?_⟩
     rw [e]
     have h2 := (h.perm (List.Perm.swap _ _ _))
     exact h2.sub (by simp [setL])
    refine GC.reg ?_
    refine G.v (V.ld (b := vb) (off := 0) (wf := true) (T := 44) (fz := (0, 0)) (v := .slice (some ⟨b0, 0, none⟩) 0 128) Tryd.isAgg44 rfl (.head _) rfl) rfl ?_
    refine G.m1 ?_
    refine G.v (V.addI (r := ((p.length + 1 : Nat) : Int)) rfl rfl rfl (by omega) (by omega)) rfl ?_
    refine G.v (V.slTH (i := p.length + 1) Tryd.underlying44 Tryd.sizeOf5 rfl rfl (by omega)) rfl ?_
    refine G.st Tryd.sizeOf44 rfl rfl rfl .z rfl rfl ?_
    refine G.nil ?_
    exact J18 _ _ ⟨b0, List.replicate 128 0, by rw [hr128]; omega, .of rfl, fun w1 h => by rw [hr128]; exact h⟩
   rintro fr' H' ⟨b2, l2, hl2, hs18, hH18⟩
   refine GC.weak hs18 ?_
   clear hs18
   refine GC.turn hH18 ?_
   refine GC.reg ?_
   refine G.v (V.ld (b := vb) (off := 0) (wf := true) (T := 44) (fz := (0, 0)) (v := .slice (some ⟨b2, 0, none⟩) (p.length + 1) l2.length) Tryd.isAgg44 rfl (.head _) rfl) rfl ?_
   refine G.v (V.ia (i := 0) Tryd.underlying44 Tryd.sizeOf5 rfl rfl (by omega)) rfl ?_
   refine G.st (b := b2) (off := 0 + 0 * 1) (l := bC l2) (T := 5) (fz := (0, 0)) (v := .int .u8 ((47 : UInt8).toNat : Int)) Tryd.sizeOf5 rfl rfl rfl (.s .z) (by rw [nth_eq, Nat.zero_add, Nat.zero_mul, List.getElem?_eq_getElem (by rw [bC_len]; omega)]; rfl) rfl ?_
   rw [setL_bC]
   refine G.nil ?_
   refine J15 _ _ ⟨0, p.length + 1, _, _, ⟨b2, p.length + 1, l2.set 0 47, by rw [List.length_set], rfl, by simp, .inr ⟨by omega, rfl, by rw [List.length_set]; exact hl2, take_set (out := []) (by simp) (by simp; omega)⟩⟩, by simp, by omega, by omega, by simp, by simp, .of rfl, fun w1 h => h⟩
  refine GC.skip ?_
  have e47 : x0 = 47 := neI_val (y := 47) h15
  subst e47
  have hd1 : p = 47 :: p.drop 1 := by have := Gs.drop_cons hx0; simpa using this
  refine J15 _ _ ⟨1, p.length, _, _, ⟨b0, 0, List.replicate 128 0, by rw [hr128], rfl, by simp; omega, .inl ⟨rfl, hr128, rfl, ?_⟩⟩, by simp, by omega, by omega, ?_, ?_, .of rfl, fun w1 h => h⟩
  ·rw [hd1]; rfl
  ·conv => rhs; rw [hd1]
   rw [Gs.pf_cons]
  ·conv => lhs; rw [hd1]
   exact Gs.ld_slash [] _
 rintro fr' H' ⟨r0, M, sv0, Hb0, hB0, hHb0, hr0, hM, hpf0, hld0, hs15, hH15⟩
 refine GC.weak hs15 ?_
 clear hs15
 refine GC.turn hH15 ?_
 refine GC.seq ?_
 refine GC.join (fun fr' H' => ∃ T0 : Bool, (T0 = true ↔ 1 < p.length ∧ p.getLast? = some 47) ∧ Sub [(0, S p), (3, Pt vb 0), (4, I (p.length : Nat)), (5, I ((r0 : Nat) : Int)), (6, I 1), (7, .bool T0)] fr' ∧ ⟨vb, true, .row [sv0] 44 (0, 0)⟩ :: Hb0 = H') (fun J13 => ?_) ?_
 ·refine GC.reg ?_
  refine G.m1 ?_
  refine G.v (V.gt rfl rfl) rfl ?_
  refine G.m1 ?_
  refine G.bc 30 rfl (fun h30 => ?_) (fun h30 => ?_)
  ·obtain ⟨yl, hyl⟩ : ∃ yl, p[p.length - 1]? = some yl := ⟨_, List.getElem?_eq_getElem (by omega)⟩
   refine G.m5 ?_
   refine G.m5 ?_
   refine G.vg rfl rfl (V.subI (r := ((p.length - 1 : Nat) : Int)) rfl rfl (by omega) (by omega) (by omega)) rfl ?_
   refine G.vg rfl rfl (V.idx (i := p.length - 1) (b := yl) Tryd.underlying9 rfl rfl hyl) rfl ?_
   refine G.vg rfl rfl (V.eqI rfl rfl) rfl ?_
   refine G.m3 ?_
   refine G.m2 ?_
   refine G.nil ?_
   refine J13 _ _ ⟨_, ?_, .of rfl, rfl⟩
   rw [decide_eq_true_eq, getLast_idx hyl]
   have h1 := of_decide_eq_true h30
   exact ⟨fun e => ⟨by omega, by rw [u47 e]⟩, fun ⟨_, e⟩ => by rw [Option.some.inj e]; rfl⟩
  ·refine G.s1 ?_
   refine G.s1 ?_
   refine G.s1 ?_
   refine G.s1 ?_
   refine G.s1 ?_
   refine G.m4 ?_
   refine G.m2 ?_
   refine G.nil ?_
   exact J13 _ _ ⟨false, ⟨fun h => (by cases h), fun ⟨h1, _⟩ => by have := of_decide_eq_false h30; omega⟩, .of rfl, rfl⟩
 rintro fr' H' ⟨T0, hT0, hs13, rfl⟩
 refine GC.weak hs13 ?_
 clear hs13
 refine GC.seq ?_
 refine GC.block ?_
 have hci0 : Gs.CInv p M T0 r0 [] T0 := ⟨by simp, hpf0, .inl ⟨rfl, hld0⟩, by simp [Gs.pout]; omega, fun h => absurd rfl h⟩
 refine GC.loopJ (fun N fr' H' => ∃ (r : Nat) (ps : List (List UInt8)) (T : Bool) (sv : Value) (Hb : SH), r + N = p.length + 2 ∧ Gs.CInv p M T0 r ps T ∧ BufSt p M (Gs.pout ps) sv Hb ∧ (∀ x ∈ Hb, x.w = true) ∧ Sub [(0, S p), (3, Pt vb 0), (4, I (p.length : Nat)), (5, I ((r : Nat) : Int)), (6, I ((Gs.pout ps).length : Nat)), (7, .bool T)] fr' ∧ ⟨vb, true, .row [sv] 44 (0, 0)⟩ :: Hb = H') (p.length + 2 - r0)
  ⟨r0, [], T0, sv0, Hb0, by omega, hci0, hB0, hHb0, .of rfl, rfl⟩ ?_
 rintro N fr' H' ⟨r, ps, T, sv, Hb, hrN, hci, hB, hHb, hs, rfl⟩ ih
 refine GC.weak hs ?_
 clear hs
 have hpo1 := Gs.pout_one hci.ok
 refine GC.seq ?_
 refine GC.seq ?_
 refine GC.reg ?_
 refine G.m1 ?_
 refine G.m1 ?_
 refine G.v (V.lt rfl rfl) rfl ?_
 refine G.nil ?_
 refine GC.condD rfl (fun h39 => ?_) (fun h39 => ?_)
 ·refine GC.skip ?_
  refine GC.block ?_
  refine GC.block ?_
  refine GC.seq ?_
  have hrn : r < p.length := by omega
  obtain ⟨x, hx⟩ : ∃ x, p[r]? = some x := ⟨_, List.getElem?_eq_getElem hrn⟩
  refine GC.join (fun fr' H' => ∃ t : Bool, (t = true ↔ x = 47) ∧ Sub [(0, S p), (3, Pt vb 0), (4, I (p.length : Nat)), (5, I ((r : Nat) : Int)), (6, I ((Gs.pout ps).length : Nat)), (7, .bool T), (66, .bool t)] fr' ∧ ⟨vb, true, .row [sv] 44 (0, 0)⟩ :: Hb = H') (fun J22 => ?_) ?_
  ·refine GC.reg ?_
   refine G.m1 ?_
   refine G.m1 ?_
   refine G.v (V.idx (i := r) (b := x) Tryd.underlying9 rfl rfl hx) rfl ?_
   refine G.v (V.eqI rfl rfl) rfl ?_
   refine G.m2 ?_
   refine G.nil ?_
   exact J22 _ _ ⟨_, by rw [decide_eq_true_eq]; exact ⟨fun e => u47 e, fun e => by rw [e]; rfl⟩, .of rfl, rfl⟩
  rintro fr' H' ⟨t66, ht66, hs22, rfl⟩
  refine GC.weak hs22 ?_
  clear hs22
  refine GC.cond rfl (fun h66 => ?_) (fun h66 => ?_)
  ·refine GC.reg ?_
   refine G.m1 ?_
   refine G.v (V.addI (r := ((r + 1 : Nat) : Int)) rfl rfl rfl (by omega) (by omega)) rfl ?_
   refine G.m2 ?_
   refine G.nil ?_
   refine GC.inBlock ?_
   refine GC.inBlock ?_
   have e := ht66.1 h66
   subst e
   exact ih (p.length + 2 - (r + 1)) _ _ (by omega) ⟨r + 1, ps, T, sv, Hb, by omega, hci.slash hx, hB, hHb, .of rfl, rfl⟩
  refine GC.seq ?_
  refine GC.join (fun fr' H' => ∃ t : Bool, (t = true ↔ x = 46 ∧ r + 1 = p.length) ∧ Sub [(0, S p), (3, Pt vb 0), (4, I (p.length : Nat)), (5, I ((r : Nat) : Int)), (6, I ((Gs.pout ps).length : Nat)), (7, .bool T), (73, .bool t)] fr' ∧ ⟨vb, true, .row [sv] 44 (0, 0)⟩ :: Hb = H') (fun J24 => ?_) ?_
  ·refine GC.reg ?_
   refine G.m1 ?_
   refine G.m1 ?_
   refine G.v (V.idx (i := r) (b := x) Tryd.underlying9 rfl rfl hx) rfl ?_
   refine G.v (V.eqI rfl rfl) rfl ?_
   refine G.m1 ?_
   refine G.bc 78 rfl (fun h78 => ?_) (fun h78 => ?_)
   ·refine G.m5 ?_
    refine G.vg rfl rfl (V.addI (r := ((r + 1 : Nat) : Int)) rfl rfl rfl (by omega) (by omega)) rfl ?_
    refine G.m5 ?_
    refine G.vg rfl rfl (V.eqI rfl rfl) rfl ?_
    refine G.m3 ?_
    refine G.m2 ?_
    refine G.nil ?_
    have e := u46 (of_decide_eq_true h78)
    exact J24 _ _ ⟨_, by rw [decide_eq_true_eq]; exact ⟨fun h => ⟨e, by omega⟩, fun h => by omega⟩, .of rfl, rfl⟩
   ·refine G.s1 ?_
    refine G.s1 ?_
    refine G.s1 ?_
    refine G.s1 ?_
    refine G.m4 ?_
    refine G.m2 ?_
    refine G.nil ?_
    exact J24 _ _ ⟨false, ⟨fun h => (by cases h), fun h => by rw [h.1] at h78; exact absurd h78 (by decide)⟩, .of rfl, rfl⟩
  rintro fr' H' ⟨t73, ht73, hs24, rfl⟩
  refine GC.weak hs24 ?_
  clear hs24
  refine GC.cond rfl (fun h73 => ?_) (fun h73 => ?_)
  ·refine GC.seq ?_
   refine GC.reg ?_
   refine G.m2 ?_
   refine G.nil ?_
   refine GC.reg ?_
   refine G.m1 ?_
   refine G.v (V.addI (r := ((r + 1 : Nat) : Int)) rfl rfl rfl (by omega) (by omega)) rfl ?_
   refine G.m2 ?_
   refine G.nil ?_
   refine GC.inBlock ?_
   refine GC.inBlock ?_
   have e := ht73.1 h73
   exact ih (p.length + 2 - (r + 1)) _ _ (by omega) ⟨r + 1, ps, true, sv, Hb, by omega, hci.dot (by rw [hx, e.1]) e.2, hB, hHb, .of rfl, rfl⟩
  refine GC.seq ?_
  refine GC.join (fun fr' H' => ∃ t : Bool, (t = true ↔ x = 46 ∧ p[r + 1]? = some 47) ∧ Sub [(0, S p), (3, Pt vb 0), (4, I (p.length : Nat)), (5, I ((r : Nat) : Int)), (6, I ((Gs.pout ps).length : Nat)), (7, .bool T), (86, .bool t)] fr' ∧ ⟨vb, true, .row [sv] 44 (0, 0)⟩ :: Hb = H') (fun J27 => ?_) ?_
  ·refine GC.reg ?_
   refine G.m1 ?_
   refine G.m1 ?_
   refine G.v (V.idx (i := r) (b := x) Tryd.underlying9 rfl rfl hx) rfl ?_
   refine G.v (V.eqI rfl rfl) rfl ?_
   refine G.m1 ?_
   refine G.bc 91 rfl (fun h91 => ?_) (fun h91 => ?_)
   ·have e46 := u46 (of_decide_eq_true h91)
    obtain ⟨y, hy⟩ : ∃ y, p[r + 1]? = some y := ⟨_, List.getElem?_eq_getElem (by have : r + 1 ≠ p.length := fun h => absurd (ht73.2 ⟨e46, h⟩) (by simp [h73]); omega)⟩
    refine G.m5 ?_
    refine G.m5 ?_
    refine G.vg rfl rfl (V.addI (r := ((r + 1 : Nat) : Int)) rfl rfl rfl (by omega) (by omega)) rfl ?_
    refine G.vg rfl rfl (V.idx (i := r + 1) (b := y) Tryd.underlying9 rfl rfl hy) rfl ?_
    refine G.vg rfl rfl (V.eqI rfl rfl) rfl ?_
    refine G.m3 ?_
    refine G.m2 ?_
    refine G.nil ?_
    exact J27 _ _ ⟨_, by rw [decide_eq_true_eq, hy]; exact ⟨fun h => ⟨e46, by rw [u47 h]⟩, fun h => by rw [Option.some.inj h.2]; rfl⟩, .of rfl, rfl⟩
   ·refine G.s1 ?_
    refine G.s1 ?_
    refine G.s1 ?_
    refine G.s1 ?_
    refine G.s1 ?_
    refine G.m4 ?_
    refine G.m2 ?_
    refine G.nil ?_
    exact J27 _ _ ⟨false, ⟨fun h => (by cases h), fun h => by rw [h.1] at h91; exact absurd h91 (by decide)⟩, .of rfl, rfl⟩
  rintro fr' H' ⟨t86, ht86, hs27, rfl⟩
  refine GC.weak hs27 ?_
  clear hs27
  refine GC.cond rfl (fun h86 => ?_) (fun h86 => ?_)
  ·refine GC.reg ?_
   refine G.m1 ?_
   refine G.v (V.addI (r := ((r + 2 : Nat) : Int)) rfl rfl rfl (by omega) (by omega)) rfl ?_
   refine G.m2 ?_
   refine G.nil ?_
   refine GC.inBlock ?_
   refine GC.inBlock ?_
   have e := ht86.1 h86
   exact ih (p.length + 2 - (r + 2)) _ _ (by omega) ⟨r + 2, ps, T, sv, Hb, by omega, hci.dots (by rw [hx, e.1]) e.2, hB, hHb, .of rfl, rfl⟩
  refine GC.seq ?_
  refine GC.join (fun fr' H' => ∃ t : Bool, (t = true ↔ x = 46 ∧ p[r + 1]? = some 46 ∧ (r + 2 = p.length ∨ p[r + 2]? = some 47)) ∧ Sub [(0, S p), (3, Pt vb 0), (4, I (p.length : Nat)), (5, I ((r : Nat) : Int)), (6, I ((Gs.pout ps).length : Nat)), (7, .bool T), (100, .bool t)] fr' ∧ ⟨vb, true, .row [sv] 44 (0, 0)⟩ :: Hb = H') (fun J29 => ?_) ?_
  ·refine GC.reg ?_
   refine G.m1 ?_
   refine G.m1 ?_
   refine G.v (V.idx (i := r) (b := x) Tryd.underlying9 rfl rfl hx) rfl ?_
   refine G.v (V.eqI rfl rfl) rfl ?_
   refine G.m1 ?_
   refine G.bc 105 rfl (fun h105 => ?_) (fun h105 => ?_)
   ·have e46 := u46 (of_decide_eq_true h105)
    obtain ⟨y, hy⟩ : ∃ y, p[r + 1]? = some y := ⟨_, List.getElem?_eq_getElem (by have : r + 1 ≠ p.length := fun h => absurd (ht73.2 ⟨e46, h⟩) (by simp [h73]); omega)⟩
    refine G.m5 ?_
    refine G.m5 ?_
    refine G.vg rfl rfl (V.addI (r := ((r + 1 : Nat) : Int)) rfl rfl rfl (by omega) (by omega)) rfl ?_
    refine G.vg rfl rfl (V.idx (i := r + 1) (b := y) Tryd.underlying9 rfl rfl hy) rfl ?_
    refine G.vg rfl rfl (V.eqI rfl rfl) rfl ?_
    refine G.m3 ?_
    refine G.m1 ?_
    refine G.bc 112 rfl (fun h112 => ?_) (fun h112 => ?_)
    ·have f46 := u46 (of_decide_eq_true h112)
     have hl1 := (List.getElem?_eq_some_iff.1 hy).1
     refine G.m5 ?_
     refine G.vg rfl rfl (V.addI (r := ((r + 2 : Nat) : Int)) rfl rfl rfl (by omega) (by omega)) rfl ?_
     refine G.m5 ?_
     refine G.vg rfl rfl (V.eqI rfl rfl) rfl ?_
     refine G.m5 ?_
     refine G.bc 117 rfl (fun h117 => ?_) (fun h117 => ?_)
     ·refine G.s1 ?_
      refine G.s1 ?_
      refine G.s1 ?_
      refine G.s1 ?_
      refine G.s1 ?_
      refine G.vg rfl rfl (V.pickT rfl rfl) rfl ?_
      refine G.m3 ?_
      refine G.m2 ?_
      refine G.nil ?_
      refine J29 _ _ ⟨true, ⟨fun _ => ⟨e46, by rw [hy, f46], .inl (by have := of_decide_eq_true h117; omega)⟩, fun _ => rfl⟩, .of rfl, rfl⟩
     ·obtain ⟨z, hz⟩ : ∃ z, p[r + 2]? = some z := ⟨_, List.getElem?_eq_getElem (by have := of_decide_eq_false h117; omega)⟩
      refine G.m5 ?_
      refine G.m5 ?_
      refine G.vg rfl rfl (V.addI (r := ((r + 2 : Nat) : Int)) rfl rfl rfl (by omega) (by omega)) rfl ?_
      refine G.vg rfl rfl (V.idx (i := r + 2) (b := z) Tryd.underlying9 rfl rfl hz) rfl ?_
      refine G.vg rfl rfl (V.eqI rfl rfl) rfl ?_
      refine G.vg rfl rfl (V.pickF rfl rfl) rfl ?_
      refine G.m3 ?_
      refine G.m2 ?_
      refine G.nil ?_
      refine J29 _ _ ⟨_, ?_, .of rfl, rfl⟩
      rw [decide_eq_true_eq, hz]
      refine ⟨fun h => ⟨e46, by rw [hy, f46], .inr (by rw [u47 h])⟩, fun h => ?_⟩
      rcases h.2.2 with h2 | h2
      ·have := of_decide_eq_false h117; omega
      ·rw [Option.some.inj h2]; rfl
    ·refine G.s1 ?_
     refine G.s1 ?_
     refine G.s1 ?_
     refine G.s1 ?_
     refine G.s1 ?_
     refine G.sgU rfl rfl rfl rfl rfl ?_
     refine G.sgU rfl rfl rfl rfl rfl ?_
     refine G.sgU rfl rfl rfl rfl rfl ?_
     refine G.sgU rfl rfl rfl rfl rfl ?_
     refine G.sgU rfl rfl rfl rfl rfl ?_
     refine G.s1 ?_
     refine G.m4 ?_
     refine G.m2 ?_
     refine G.nil ?_
     exact J29 _ _ ⟨false, ⟨fun h => (by cases h), fun h => by rw [hy] at h; rw [Option.some.inj h.2.1] at h112; exact absurd h112 (by decide)⟩, .of rfl, rfl⟩
   ·refine G.s1 ?_
    refine G.s1 ?_
    refine G.s1 ?_
    refine G.s1 ?_
    refine G.s1 ?_
    refine G.m4 ?_
    refine G.m1 ?_
    refine G.s1 ?_
    refine G.s1 ?_
    refine G.s1 ?_
    refine G.s1 ?_
    refine G.s1 ?_
    refine G.sgU rfl rfl rfl rfl rfl ?_
    refine G.sgU rfl rfl rfl rfl rfl ?_
    refine G.sgU rfl rfl rfl rfl rfl ?_
    refine G.sgU rfl rfl rfl rfl rfl ?_
    refine G.sgU rfl rfl rfl rfl rfl ?_
    refine G.s1 ?_
    refine G.m4 ?_
    refine G.m2 ?_
    refine G.nil ?_
    exact J29 _ _ ⟨false, ⟨fun h => (by cases h), fun h => by rw [h.1] at h105; exact absurd h105 (by decide)⟩, .of rfl, rfl⟩
  rintro fr' H' ⟨t100, ht100, hs29, rfl⟩
  refine GC.weak hs29 ?_
  clear hs29
  refine GC.cond rfl (fun h100 => ?_) (fun h100 => ?_)
  ·refine GC.seq ?_
   refine GC.reg ?_
   refine G.m1 ?_
   refine G.v (V.addI (r := ((r + 3 : Nat) : Int)) rfl rfl rfl (by omega) (by omega)) rfl ?_
   refine G.m2 ?_
   refine G.nil ?_
   refine GC.seq ?_
   refine GC.reg ?_
   refine G.m1 ?_
   refine G.v (V.gt rfl rfl) rfl ?_
   refine G.nil ?_
   refine GC.join (fun fr' H' => Sub [(0, S p), (3, Pt vb 0), (4, I (p.length : Nat)), (5, I ((r + 3 : Nat) : Int)), (6, I ((Gs.pout ps.dropLast).length : Nat)), (7, .bool T)] fr' ∧ BufSt p M (Gs.pout ps.dropLast) sv Hb ∧ ⟨vb, true, .row [sv] 44 (0, 0)⟩ :: Hb = H') (fun J128 => ?_) ?_
   ·refine GC.condD rfl (fun h128 => ?_) (fun h128 => ?_)
    ·refine GC.seq ?_
     have hne : ps ≠ [] := hpo1.2.1 (by omega)
     obtain ⟨k1, k2, k3, k4⟩ := Gs.pout_back hci.ok hne
     have hpq := (Gs.pout_one (ps := ps.dropLast) (fun x hx => hci.ok x (List.dropLast_subset _ hx))).1
     have hBd : BufSt p M (Gs.pout ps.dropLast) sv Hb := by have := hB.cut (Nat.le_of_lt k2); rw [k1] at this; exact this
     obtain ⟨m0, hm0⟩ : ∃ m0, (Gs.pout ps.dropLast).length = m0 := ⟨_, rfl⟩
     obtain ⟨o, ho⟩ : ∃ o, Gs.pout ps = o := ⟨_, rfl⟩
     rw [hm0] at k2 k3 k4 hpq
     rw [ho] at k2 k3 k4
     have hBo := hB
     rw [ho] at hBo
     have hoM : o.length ≤ M := by
      obtain ⟨_, _, _, _, _, q, _⟩ := hBo
      exact q
     rw [ho]
     rw [ho] at hpo1
     refine GC.reg ?_
     refine G.m1 ?_
     refine G.v (V.subI (r := ((o.length - 1 : Nat) : Int)) rfl rfl (by omega) (by omega) (by omega)) rfl ?_
     refine G.m2 ?_
     refine G.nil ?_
     refine GC.seq ?_
     refine GC.reg ?_
     obtain ⟨bb, mm, ll, hsv, hHb2, q1, q2⟩ := id hBo
     subst hsv
     refine G.v (V.ld (b := vb) (off := 0) (wf := true) (T := 44) (fz := (0, 0)) (v := .slice (some ⟨bb, 0, none⟩) mm ll.length) Tryd.isAgg44 rfl (.head _) rfl) rfl ?_
     refine G.v (V.lenL Tryd.underlying44 rfl) rfl ?_
     refine G.v (V.eqI rfl rfl) rfl ?_
     refine G.nil ?_
     refine GC.condD rfl (fun h133 => ?_) (fun h133 => ?_)
     ·refine GC.block ?_
      refine GC.loopJ (fun N2 fr' H' => m0 + N2 < o.length ∧ Sub [(0, S p), (3, Pt vb 0), (4, I (p.length : Nat)), (5, I ((r + 3 : Nat) : Int)), (6, I ((m0 + N2 : Nat) : Int)), (7, .bool T)] fr' ∧ ⟨vb, true, .row [.slice (some ⟨bb, 0, none⟩) mm ll.length] 44 (0, 0)⟩ :: Hb = H') (o.length - 1 - m0)
       ⟨by omega, .cons rfl (.cons rfl (.cons rfl (.cons rfl (.cons (by rw [Nat.add_sub_cancel' (by omega)]; rfl) (.cons rfl .nil))))), rfl⟩ ?_
      rintro N2 fr' H' ⟨hN2, hs, rfl⟩ ih2
      refine GC.weak hs ?_
      clear hs
      obtain ⟨y, hy⟩ : ∃ y, o[m0 + N2]? = some y := ⟨_, List.getElem?_eq_getElem hN2⟩
      have hstop : (1 < m0 + N2 ∧ y ≠ 47) ↔ 0 < N2 := by
       constructor
       ·rintro ⟨h1, h2⟩
        rcases Nat.eq_zero_or_pos N2 with h0 | h0
        ·subst h0
         have := k4 (by omega)
         rw [Nat.add_zero, this] at hy
         exact absurd (Option.some.inj hy).symm h2
        ·exact h0
       ·exact fun h0 => ⟨by omega, k3 _ _ (by omega) hy⟩
      refine GC.seq ?_
      refine GC.seq ?_
      refine GC.join (fun fr' H' => ∃ t : Bool, (t = true ↔ 0 < N2) ∧ Sub [(0, S p), (3, Pt vb 0), (4, I (p.length : Nat)), (5, I ((r + 3 : Nat) : Int)), (6, I ((m0 + N2 : Nat) : Int)), (7, .bool T), (141, .bool t)] fr' ∧ ⟨vb, true, .row [.slice (some ⟨bb, 0, none⟩) mm ll.length] 44 (0, 0)⟩ :: Hb = H') (fun J34 => ?_) ?_
      ·refine GC.reg ?_
       refine G.m1 ?_
       refine G.v (V.gt rfl rfl) rfl ?_
       refine G.m1 ?_
       refine G.bc 136 rfl (fun h136 => ?_) (fun h136 => ?_)
       ·refine G.m5 ?_
        refine G.m5 ?_
        have hpy : p[m0 + N2]? = some y := by
         rcases q2 with ⟨_, _, _, z4⟩ | ⟨z1, _, _, _⟩
         ·rw [z4, List.getElem?_take_of_lt (by omega)] at hy; exact hy
         ·omega
        refine G.vg rfl rfl (V.idx (i := m0 + N2) (b := y) Tryd.underlying9 rfl rfl hpy) rfl ?_
        refine G.vg rfl rfl (V.neI rfl rfl) rfl ?_
        refine G.m3 ?_
        refine G.nil ?_
        refine J34 _ _ ⟨_, ?_, .of rfl, rfl⟩
        rw [← hstop]
        have h1 := of_decide_eq_true h136
        rw [Bool.not_eq_true', decide_eq_false_iff_not]
        exact ⟨fun e => ⟨by omega, fun e2 => e (by rw [e2]; rfl)⟩, fun e e2 => e.2 (u47 e2)⟩
       ·refine G.s1 ?_
        refine G.s1 ?_
        refine G.s1 ?_
        refine G.s1 ?_
        refine G.m4 ?_
        refine G.nil ?_
        exact J34 _ _ ⟨false, ⟨fun h => (by cases h), fun h => by have := hstop.2 h; have := of_decide_eq_false h136; omega⟩, .of rfl, rfl⟩
      rintro fr' H' ⟨tt, htt, hsj, rfl⟩
      refine GC.weak hsj ?_
      clear hsj
      refine GC.cond rfl (fun h141 => ?_) (fun h141 => ?_)
      ·refine GC.skip ?_
       refine GC.block ?_
       refine GC.reg ?_
       refine G.m1 ?_
       refine G.v (V.subI (r := ((m0 + (N2 - 1) : Nat) : Int)) rfl rfl (by have := htt.1 (by assumption); omega) (by omega) (by omega)) rfl ?_
       refine G.m2 ?_
       refine G.nil ?_
       refine GC.inBlock ?_
       have hN0 := htt.1 (by assumption)
       exact ih2 (N2 - 1) _ _ (by omega) ⟨by omega, .of rfl, rfl⟩
      refine GC.exit rfl ?_
      have h0 : N2 = 0 := by have := mt htt.2 (by simp_all); omega
      subst h0
      subst hm0
      exact J128 _ _ ⟨.of rfl, hBd, rfl⟩
     refine GC.block ?_
     refine GC.loopJ (fun N2 fr' H' => m0 + N2 < o.length ∧ Sub [(0, S p), (3, Pt vb 0), (4, I (p.length : Nat)), (5, I ((r + 3 : Nat) : Int)), (6, I ((m0 + N2 : Nat) : Int)), (7, .bool T)] fr' ∧ ⟨vb, true, .row [.slice (some ⟨bb, 0, none⟩) mm ll.length] 44 (0, 0)⟩ :: Hb = H') (o.length - 1 - m0)
      ⟨by omega, .cons rfl (.cons rfl (.cons rfl (.cons rfl (.cons (by rw [Nat.add_sub_cancel' (by omega)]; rfl) (.cons rfl .nil))))), rfl⟩ ?_
     rintro N2 fr' H' ⟨hN2, hs, rfl⟩ ih2
     refine GC.weak hs ?_
     clear hs
     obtain ⟨y, hy⟩ : ∃ y, o[m0 + N2]? = some y := ⟨_, List.getElem?_eq_getElem hN2⟩
     have hstop : (1 < m0 + N2 ∧ y ≠ 47) ↔ 0 < N2 := by
      constructor
      ·rintro ⟨h1, h2⟩
       rcases Nat.eq_zero_or_pos N2 with h0 | h0
       ·subst h0
        have := k4 (by omega)
        rw [Nat.add_zero, this] at hy
        exact absurd (Option.some.inj hy).symm h2
       ·exact h0
      ·exact fun h0 => ⟨by omega, k3 _ _ (by omega) hy⟩
     refine GC.seq ?_
     refine GC.seq ?_
     refine GC.join (fun fr' H' => ∃ t : Bool, (t = true ↔ 0 < N2) ∧ Sub [(0, S p), (3, Pt vb 0), (4, I (p.length : Nat)), (5, I ((r + 3 : Nat) : Int)), (6, I ((m0 + N2 : Nat) : Int)), (7, .bool T), (152, .bool t)] fr' ∧ ⟨vb, true, .row [.slice (some ⟨bb, 0, none⟩) mm ll.length] 44 (0, 0)⟩ :: Hb = H') (fun J36 => ?_) ?_
     ·refine GC.reg ?_
      refine G.m1 ?_
      refine G.v (V.gt rfl rfl) rfl ?_
      refine G.m1 ?_
      refine G.bc 146 rfl (fun h146 => ?_) (fun h146 => ?_)
      ·refine G.vg rfl rfl (V.ld (b := vb) (off := 0) (wf := true) (T := 44) (fz := (0, 0)) (v := .slice (some ⟨bb, 0, none⟩) mm ll.length) Tryd.isAgg44 rfl (.head _) rfl) rfl ?_
       refine G.m5 ?_
       refine G.vg rfl rfl (V.ia (i := m0 + N2) Tryd.underlying44 Tryd.sizeOf5 rfl rfl (by rcases q2 with ⟨z1, _⟩ | ⟨_, z2, _⟩ <;> omega)) rfl ?_
       have hly : ll[m0 + N2]? = some y := by
        rcases q2 with ⟨z1, _⟩ | ⟨_, _, _, z4⟩
        ·omega
        ·rw [← z4, List.getElem?_take_of_lt (by omega)] at hy; exact hy
       refine G.vg rfl rfl (V.ld (b := bb) (off := 0 + (m0 + N2) * 1) (wf := true) (l := bC ll) (T := 5) (fz := (0, 0)) (v := .int .u8 (y.toNat : Int)) Tryd.isAgg5 rfl (by rw [hHb2]; exact .tail _ (.head _)) (by rw [nth_eq, Nat.zero_add, Nat.mul_one]; simp [bC, Lib.byteCells, hly])) rfl ?_
       refine G.vg rfl rfl (V.neI rfl rfl) rfl ?_
       refine G.m3 ?_
       refine G.nil ?_
       refine J36 _ _ ⟨_, ?_, .of rfl, rfl⟩
       rw [← hstop]
       have h1 := of_decide_eq_true h146
       rw [Bool.not_eq_true', decide_eq_false_iff_not]
       exact ⟨fun e => ⟨by omega, fun e2 => e (by rw [e2]; rfl)⟩, fun e e2 => e.2 (u47 e2)⟩
      ·refine G.s1 ?_
       refine G.s1 ?_
       refine G.s1 ?_
       refine G.s1 ?_
       refine G.s1 ?_
       refine G.m4 ?_
       refine G.nil ?_
       exact J36 _ _ ⟨false, ⟨fun h => (by cases h), fun h => by have := hstop.2 h; have := of_decide_eq_false h146; omega⟩, .of rfl, rfl⟩
     rintro fr' H' ⟨tt, htt, hsj, rfl⟩
     refine GC.weak hsj ?_
     clear hsj
     refine GC.cond rfl (fun h152 => ?_) (fun h152 => ?_)
     ·refine GC.skip ?_
      refine GC.block ?_
      refine GC.reg ?_
      refine G.m1 ?_
      refine G.v (V.subI (r := ((m0 + (N2 - 1) : Nat) : Int)) rfl rfl (by have := htt.1 (by assumption); omega) (by omega) (by omega)) rfl ?_
      refine G.m2 ?_
      refine G.nil ?_
      refine GC.inBlock ?_
      have hN0 := htt.1 (by assumption)
      exact ih2 (N2 - 1) _ _ (by omega) ⟨by omega, .of rfl, rfl⟩
     refine GC.exit rfl ?_
     have h0 : N2 = 0 := by have := mt htt.2 (by simp_all); omega
     subst h0
     subst hm0
     exact J128 _ _ ⟨.of rfl, hBd, rfl⟩
    refine GC.skip ?_
    have he : ps = [] := by
     by_cases he : ps = []
     ·exact he
     ·have := hpo1.2.2 he; omega
    subst he
    exact J128 _ _ ⟨.of rfl, hB, rfl⟩
   rintro fr' H' ⟨hs128, hB128, rfl⟩
   refine GC.weak hs128 ?_
   clear hs128
   refine GC.inBlock ?_
   refine GC.inBlock ?_
   have e := ht100.1 h100
   exact ih (p.length + 2 - (r + 3)) _ _ (by omega) ⟨r + 3, ps.dropLast, T, sv, Hb, by omega, hci.back (by rw [hx, e.1]) e.2.1 e.2.2, hB128, hHb, .of rfl, rfl⟩
  refine GC.seq ?_
  refine GC.seq ?_
  obtain ⟨e, t, hde, he47, hte⟩ := Gs.esplit (p.drop r)
  have hx47 : x ≠ 47 := fun h => absurd (ht66.2 h) (by simp [h66])
  have hxs : ∀ {z}, p[r]? = some z → x = z := fun h => Option.some.inj (hx.symm.trans h)
  have hoe := Gs.okP_elem hde he47 hte hx hx47 (fun h => absurd (ht73.2 ⟨hxs h.1, h.2⟩) (by simp [h73])) (fun h => absurd (ht86.2 ⟨hxs h.1, h.2⟩) (by simp [h86])) (fun h => absurd (ht100.2 ⟨hxs h.1, h.2⟩) (by simp [h100]))
  have hci2 := hci.elem hrn hde hoe hte (fun h => hx47 (hxs h)) (fun h => (hT0.1 h).2)
  have hgk : ∀ k, p[r + k]? = (e ++ t)[k]? := fun k => by rw [← hde, List.getElem?_drop]
  have hlen : p.length - r = e.length + t.length := by have := congrArg List.length hde; simpa using this
  obtain ⟨o1, ho1⟩ : ∃ o1, (if ps = [] then [47] else Gs.pout ps ++ [47]) = o1 := ⟨_, rfl⟩
  have hpo2 : Gs.pout (ps ++ [e]) = o1 ++ e := by rw [← ho1]; exact Gs.pout_push e
  have hb1 := hci.b1
  have ho1l : o1.length + (p.length - r) ≤ M := by
   rw [← ho1]
   by_cases hq : ps = []
   ·subst hq; simp [Gs.pout] at hb1 ⊢; omega
   ·rw [if_neg hq]
    rcases hci.b2 hq with h2 | h2 | h2
    ·simp; omega
    ·exact absurd (hxs h2) hx47
    ·omega
  refine GC.reg ?_
  refine G.m1 ?_
  refine G.v (V.gt rfl rfl) rfl ?_
  refine G.nil ?_
  refine GC.join (fun fr' H' => ∃ (sv2 : Value) (Hb2 : SH), BufSt p M o1 sv2 Hb2 ∧ (∀ x ∈ Hb2, x.w = true) ∧ Sub [(0, S p), (3, Pt vb 0), (4, I (p.length : Nat)), (5, I ((r : Nat) : Int)), (6, I (o1.length : Nat)), (7, .bool T)] fr' ∧ ⟨vb, true, .row [sv2] 44 (0, 0)⟩ :: Hb2 = H') (fun J41 => ?_) ?_
  ·refine GC.condD rfl (fun h41 => ?_) (fun h41 => ?_)
   ·refine GC.seq ?_
    have hne : ps ≠ [] := hpo1.2.1 (by omega)
    rw [if_neg hne] at ho1
    have ho1e : (Gs.pout ps).length + 1 = o1.length := by rw [← ho1]; simp
    refine GC.reg ?_
    refine G.m1 ?_
    refine G.m1 ?_
    refine G.callL (H1 := ⟨vb, true, .row [sv] 44 (0, 0)⟩ :: Hb) (Hk := []) (fun v H1' => ∃ (sv2 : Value) (Hb2 : SH), BufSt p M (Gs.pout ps ++ [47]) sv2 Hb2 ∧ (∀ x ∈ Hb2, x.w = true) ∧ v = .tuple #[] ∧ ⟨vb, true, .row [sv2] 44 (0, 0)⟩ :: Hb2 = H1') (.of_eq (by simp)) (fun e0 he0 => by rcases List.mem_cons.1 he0 with rfl | he0; rfl; exact hHb e0 he0) Tryd.call60 rfl rfl (fun w1 hw1 _ => ?_) ?_
    ·exact (s39_any w1 _ vb M p (Gs.pout ps) 47 sv Hb hw1 hB (by omega) (by omega)).mono fun e w' ⟨h1, s2, b2, h2, h3, h4⟩ => ⟨_, _, h1, (fun e0 he0 => by rcases List.mem_cons.1 he0 with rfl | he0; rfl; exact h3 e0 he0), h4, s2, b2, h2, h3, rfl, rfl⟩
    rintro v H1' ⟨sv2, Hb2, hB2, hHb2, rfl, rfl⟩
    rw [List.append_nil]
    refine G.nil ?_
    refine GC.reg ?_
    refine G.m1 ?_
    refine G.v (V.addI (r := (((Gs.pout ps).length + 1 : Nat) : Int)) rfl rfl rfl (by omega) (by omega)) rfl ?_
    rw [ho1e]
    refine G.m2 ?_
    refine G.nil ?_
    rw [ho1] at hB2
    exact J41 _ _ ⟨sv2, Hb2, hB2, hHb2, .of rfl, rfl⟩
   refine GC.skip ?_
   have he : ps = [] := by
    by_cases he : ps = []
    ·exact he
    ·have := hpo1.2.2 he; omega
   rw [if_pos he] at ho1
   have ho2 : Gs.pout ps = o1 := by rw [he, ← ho1]; rfl
   rw [ho2] at hB ⊢
   exact J41 _ _ ⟨sv, Hb, hB, hHb, .of rfl, rfl⟩
  rintro fr' H' ⟨sv1, Hb1, hB1, hHb1, hs41, rfl⟩
  refine GC.weak hs41 ?_
  clear hs41
  refine GC.block ?_
  refine GC.loopJ (fun N3 fr' H' => ∃ (k : Nat) (sv2 : Value) (Hb2 : SH), k + N3 = e.length ∧ BufSt p M (o1 ++ e.take k) sv2 Hb2 ∧ (∀ x ∈ Hb2, x.w = true) ∧ Sub [(0, S p), (3, Pt vb 0), (4, I (p.length : Nat)), (5, I ((r + k : Nat) : Int)), (6, I ((o1.length + k : Nat) : Int)), (7, .bool T)] fr' ∧ ⟨vb, true, .row [sv2] 44 (0, 0)⟩ :: Hb2 = H') e.length
   ⟨0, sv1, Hb1, by omega, by simpa using hB1, hHb1, .of rfl, rfl⟩ ?_
  rintro N3 fr' H' ⟨k, sv3, Hb3, hk, hB3, hHb3, hs, rfl⟩ ih3
  refine GC.weak hs ?_
  clear hs
  refine GC.seq ?_
  refine GC.seq ?_
  refine GC.join (fun fr' H' => ∃ t : Bool, (t = true ↔ k < e.length) ∧ Sub [(0, S p), (3, Pt vb 0), (4, I (p.length : Nat)), (5, I ((r + k : Nat) : Int)), (6, I ((o1.length + k : Nat) : Int)), (7, .bool T), (55, .bool t)] fr' ∧ ⟨vb, true, .row [sv3] 44 (0, 0)⟩ :: Hb3 = H') (fun J18b => ?_) ?_
  ·refine GC.reg ?_
   refine G.m1 ?_
   refine G.m1 ?_
   refine G.v (V.lt rfl rfl) rfl ?_
   refine G.m1 ?_
   refine G.bc 50 rfl (fun h50 => ?_) (fun h50 => ?_)
   ·obtain ⟨y, hy⟩ : ∃ y, p[r + k]? = some y := ⟨_, List.getElem?_eq_getElem (by have := of_decide_eq_true h50; omega)⟩
    have hyk := hy
    rw [hgk] at hyk
    refine G.m5 ?_
    refine G.m5 ?_
    refine G.vg rfl rfl (V.idx (i := r + k) (b := y) Tryd.underlying9 rfl rfl hy) rfl ?_
    refine G.vg rfl rfl (V.neI rfl rfl) rfl ?_
    refine G.m3 ?_
    refine G.nil ?_
    refine J18b _ _ ⟨_, ?_, .of rfl, rfl⟩
    rw [Bool.not_eq_true', decide_eq_false_iff_not]
    constructor
    ·intro h1
     rcases Nat.lt_or_ge k e.length with h2 | h2
     ·exact h2
     ·exfalso
      have hke : k = e.length := by omega
      rw [hke, List.getElem?_append_right (Nat.le_refl _), Nat.sub_self] at hyk
      rcases hte with rfl | ⟨t', rfl⟩
      ·simp at hyk
      ·simp at hyk; exact h1 (by rw [← hyk]; rfl)
    ·intro h1 h2
     rw [List.getElem?_append_left h1] at hyk
     exact he47 (by rw [← u47 h2]; exact List.mem_of_getElem? hyk)
   ·refine G.s1 ?_
    refine G.s1 ?_
    refine G.s1 ?_
    refine G.s1 ?_
    refine G.m4 ?_
    refine G.nil ?_
    exact J18b _ _ ⟨false, ⟨fun h => (by cases h), fun h => by have := of_decide_eq_false h50; omega⟩, .of rfl, rfl⟩
  rintro fr' H' ⟨t55, ht55, hs18, rfl⟩
  refine GC.weak hs18 ?_
  clear hs18
  refine GC.cond rfl (fun h55 => ?_) (fun h55 => ?_)
  ·refine GC.skip ?_
   refine GC.block ?_
   refine GC.seq ?_
   have hke := ht55.1 (by assumption)
   obtain ⟨y, hy⟩ : ∃ y, p[r + k]? = some y := ⟨_, List.getElem?_eq_getElem (by omega)⟩
   have hyk := hy
   rw [hgk, List.getElem?_append_left hke] at hyk
   have hol : (o1 ++ e.take k).length = o1.length + k := by simp; omega
   refine GC.reg ?_
   refine G.m1 ?_
   refine G.m1 ?_
   refine G.m1 ?_
   refine G.m1 ?_
   refine G.v (V.idx (i := r + k) (b := y) Tryd.underlying9 rfl rfl hy) rfl ?_
   rw [← hol]
   refine G.callL (H1 := ⟨vb, true, .row [sv3] 44 (0, 0)⟩ :: Hb3) (Hk := []) (fun v H1' => ∃ (sv2 : Value) (Hb2 : SH), BufSt p M (o1 ++ e.take k ++ [y]) sv2 Hb2 ∧ (∀ x ∈ Hb2, x.w = true) ∧ v = .tuple #[] ∧ ⟨vb, true, .row [sv2] 44 (0, 0)⟩ :: Hb2 = H1') (.of_eq (by simp)) (fun e0 he0 => by rcases List.mem_cons.1 he0 with rfl | he0; rfl; exact hHb3 e0 he0) Tryd.call60 rfl rfl (fun w1 hw1 _ => ?_) ?_
   ·exact (s39_any w1 _ vb M p (o1 ++ e.take k) y sv3 Hb3 hw1 hB3 (by omega) (by omega)).mono fun e w' ⟨h1, s2, b2, h2, h3, h4⟩ => ⟨_, _, h1, (fun e0 he0 => by rcases List.mem_cons.1 he0 with rfl | he0; rfl; exact h3 e0 he0), h4, s2, b2, h2, h3, rfl, rfl⟩
   rintro v H1' ⟨sv2, Hb2, hB2, hHb2, rfl, rfl⟩
   rw [List.append_nil]
   rw [hol]
   refine G.nil ?_
   refine GC.seq ?_
   refine GC.reg ?_
   refine G.m1 ?_
   refine G.v (V.addI (r := ((o1.length + (k + 1) : Nat) : Int)) rfl rfl (by omega) (by omega) (by omega)) rfl ?_
   refine G.m2 ?_
   refine G.nil ?_
   refine GC.reg ?_
   refine G.m1 ?_
   refine G.v (V.addI (r := ((r + (k + 1) : Nat) : Int)) rfl rfl (by omega) (by omega) (by omega)) rfl ?_
   refine G.m2 ?_
   refine G.nil ?_
   refine GC.inBlock ?_
   have hB4 : BufSt p M (o1 ++ e.take (k + 1)) sv2 Hb2 := by
    rw [List.take_add_one, hyk]
    simpa using hB2
   exact ih3 (N3 - 1) _ _ (by omega) ⟨k + 1, sv2, Hb2, by omega, hB4, hHb2, .of rfl, rfl⟩
  refine GC.exit rfl ?_
  refine GC.inBlock ?_
  refine GC.inBlock ?_
  have hke : k = e.length := by have := mt ht55.2 (by simp_all); omega
  subst hke
  rw [List.take_length, ← hpo2] at hB3
  have hol2 : o1.length + e.length = (Gs.pout (ps ++ [e])).length := by rw [hpo2]; simp
  rw [hol2]
  have hel : 0 < e.length := List.length_pos_iff.2 hoe.1
  exact ih (p.length + 2 - (r + e.length)) _ _ (by omega) ⟨r + e.length, ps ++ [e], T, sv3, Hb3, by omega, hci2, hB3, hHb3, .of rfl, rfl⟩
 refine GC.exit rfl ?_
 refine GC.seq ?_
 refine GC.seq ?_
 clear ih
 obtain ⟨hcl, hroom⟩ := hci.fin (by omega) hT0
 refine GC.join (fun fr' H' => ∃ t : Bool, (t = true ↔ T = true ∧ ps ≠ []) ∧ Sub [(0, S p), (3, Pt vb 0), (4, I (p.length : Nat)), (6, I ((Gs.pout ps).length : Nat)), (159, .bool t)] fr' ∧ ⟨vb, true, .row [sv] 44 (0, 0)⟩ :: Hb = H') (fun J38 => ?_) ?_
 ·refine GC.reg ?_
  refine G.m1 ?_
  refine G.m1 ?_
  refine G.bc 156 rfl (fun h156 => ?_) (fun h156 => ?_)
  ·refine G.m5 ?_
   refine G.vg rfl rfl (V.gt rfl rfl) rfl ?_
   refine G.m3 ?_
   refine G.nil ?_
   exact J38 _ _ ⟨_, by rw [decide_eq_true_eq]; exact ⟨fun h => ⟨h156, hpo1.2.1 (by omega)⟩, fun h => by have := hpo1.2.2 h.2; omega⟩, .of rfl, rfl⟩
  ·refine G.s1 ?_
   refine G.s1 ?_
   refine G.m4 ?_
   refine G.nil ?_
   exact J38 _ _ ⟨false, ⟨fun h => (by cases h), fun h => by rw [h.1] at h156; cases h156⟩, .of rfl, rfl⟩
 rintro fr' H' ⟨t159, ht159, hs38, rfl⟩
 refine GC.weak hs38 ?_
 clear hs38
 refine GC.join (fun fr' H' => ∃ (o2 : List UInt8) (sv2 : Value) (Hb2 : SH), Gs.clean p = o2 ∧ BufSt p M o2 sv2 Hb2 ∧ Sub [(0, S p), (3, Pt vb 0), (4, I (p.length : Nat)), (6, I (o2.length : Nat))] fr' ∧ ⟨vb, true, .row [sv2] 44 (0, 0)⟩ :: Hb2 = H') (fun J159 => ?_) ?_
 ·refine GC.cond rfl (fun h159 => ?_) (fun h159 => ?_)
  ·refine GC.seq ?_
   have h9 := ht159.1 h159
   have hroom2 := hroom h9.1 h9.2
   refine GC.reg ?_
   refine G.m1 ?_
   refine G.m1 ?_
   refine G.callL (H1 := ⟨vb, true, .row [sv] 44 (0, 0)⟩ :: Hb) (Hk := []) (fun v H1' => ∃ (sv2 : Value) (Hb2 : SH), BufSt p M (Gs.pout ps ++ [47]) sv2 Hb2 ∧ (∀ x ∈ Hb2, x.w = true) ∧ v = .tuple #[] ∧ ⟨vb, true, .row [sv2] 44 (0, 0)⟩ :: Hb2 = H1') (.of_eq (by simp)) (fun e0 he0 => by rcases List.mem_cons.1 he0 with rfl | he0; rfl; exact hHb e0 he0) Tryd.call60 rfl rfl (fun w1 hw1 _ => ?_) ?_
   ·exact (s39_any w1 _ vb M p (Gs.pout ps) 47 sv Hb hw1 hB (by omega) (by omega)).mono fun e w' ⟨h1, s2, b2, h2, h3, h4⟩ => ⟨_, _, h1, (fun e0 he0 => by rcases List.mem_cons.1 he0 with rfl | he0; rfl; exact h3 e0 he0), h4, s2, b2, h2, h3, rfl, rfl⟩
   rintro v H1' ⟨sv2, Hb2, hB2, hHb2, rfl, rfl⟩
   rw [List.append_nil]
   refine G.nil ?_
   refine GC.reg ?_
   refine G.m1 ?_
   refine G.v (V.addI (r := (((Gs.pout ps).length + 1 : Nat) : Int)) rfl rfl rfl (by omega) (by omega)) rfl ?_
   refine G.m2 ?_
   refine G.nil ?_
   rw [if_pos h9] at hcl
   have hle : (Gs.pout ps).length + 1 = (Gs.pout ps ++ [47]).length := by simp
   rw [hle]
   exact J159 _ _ ⟨_, sv2, Hb2, hcl, hB2, .of rfl, rfl⟩
  refine GC.skip ?_
  rw [if_neg (fun h => absurd (ht159.2 h) (by simp_all)), List.append_nil] at hcl
  exact J159 _ _ ⟨_, sv, Hb, hcl, hB, .of rfl, rfl⟩
 rintro fr' H' ⟨o2, sv2, Hb2, hcl2, hB2, hs159, rfl⟩
 refine GC.weak hs159 ?_
 clear hs159
 refine GC.seq ?_
 refine GC.seq ?_
 obtain ⟨bb, mm, ll, rfl, rfl, q1, q2⟩ := hB2
 refine GC.reg ?_
 refine G.v (V.ld (b := vb) (off := 0) (wf := true) (T := 44) (fz := (0, 0)) (v := .slice (some ⟨bb, 0, none⟩) mm ll.length) Tryd.isAgg44 rfl (.head _) rfl) rfl ?_
 refine G.v (V.lenL Tryd.underlying44 rfl) rfl ?_
 refine G.v (V.eqI rfl rfl) rfl ?_
 refine G.nil ?_
 refine GC.condD rfl (fun h167 => ?_) (fun h167 => ?_)
 ·refine GC.seq ?_
  obtain ⟨z1, z2, z3, z4⟩ : mm = 0 ∧ ll.length = 128 ∧ M = p.length ∧ o2 = p.take o2.length := by
   rcases q2 with h | h
   ·exact h
   ·omega
  refine GC.reg ?_
  refine G.m1 ?_
  refine G.m1 ?_
  refine G.v (V.slH (j := o2.length) Tryd.underlying9 rfl rfl (by omega)) rfl ?_
  rw [← z4]
  refine G.m2 ?_
  refine G.nil ?_
  exact GC.ret1 rfl rfl fun w' hw' => ⟨by rw [hcl2], hw'.sub (List.nil_sublist _)⟩
 refine GC.skip ?_
 refine GC.seq ?_
 obtain ⟨z1, z2, z3, z4⟩ : 0 < mm ∧ mm = M ∧ M ≤ ll.length ∧ ll.take o2.length = o2 := by
  rcases q2 with h | h
  ·omega
  ·exact h
 refine GC.reg ?_
 refine G.v (V.ld (b := vb) (off := 0) (wf := true) (T := 44) (fz := (0, 0)) (v := .slice (some ⟨bb, 0, none⟩) mm ll.length) Tryd.isAgg44 rfl (.head _) rfl) rfl ?_
 refine G.m1 ?_
 refine G.v (V.slTH (i := o2.length) Tryd.underlying44 Tryd.sizeOf5 rfl rfl (by omega)) rfl ?_
 refine G.v (V.cvBS (l := ll) (T := 5) (wf := true) Tryd.underlying44 Tryd.underlying5 Tryd.underlying9 rfl (.tail _ (.head _)) (by omega)) rfl ?_
 rw [z4]
 refine G.m2 ?_
 refine G.nil ?_
 exact GC.ret1 rfl rfl fun w' hw' => ⟨by rw [hcl2], hw'.sub (List.nil_sublist _)⟩
theorem s17_any (w : World) (p : List UInt8) (hp : p.length ≤ 4000) : Calls Tryd.prog 41 #[S p] w fun e w' => e = .returned (S (Gs.clean p)) ∧ HF w (fun _ => False) [] w' := by
 refine enter (fun _ => False) [] Tryd.func41 rfl Tryd.ntmps41 rfl rfl (HF.start w _) fun c hc => ?_
 subst hc
 refine GC.seq ?_
 refine GC.reg ?_
 refine G.m2 ?_
 refine G.nil ?_
 refine GC.seq ?_
 refine GC.reg ?_
 refine G.m1 ?_
 refine G.callP Tryd.call54 rfl rfl (fun w1 hw1 => s27_any w1 p hp) ?_
 refine G.m2 ?_
 refine G.nil ?_
 exact GC.ret1 rfl rfl fun w' hw' => ⟨rfl, hw'⟩
theorem s9_any (w : World) (p : List UInt8) (hp : p.length ≤ 4000) : Calls Tryd.prog 26 #[S p] w fun e w' => e = .returned (S (Gs.clean p)) ∧ HF w (fun _ => False) [] w' := by
 refine enter (fun _ => False) [] Tryd.func26 rfl Tryd.ntmps26 rfl rfl (HF.start w _) fun c hc => ?_
 subst hc
 refine GC.seq ?_
 refine GC.reg ?_
 refine G.m2 ?_
 refine G.nil ?_
 refine GC.seq ?_
 refine GC.reg ?_
 refine G.m1 ?_
 refine G.callP Tryd.call41 rfl rfl (fun w1 hw1 => s17_any w1 p hp) ?_
 refine G.m2 ?_
 refine G.nil ?_
 exact GC.ret1 rfl rfl fun w' hw' => ⟨rfl, hw'⟩
end Go.Proofs

/- moreAwake. Printed by wip/mk_gs14.py. -/
namespace Go.Proofs
open Go Bw Gt
set_option maxRecDepth 20000
theorem _root_.Bw.G.bs2 {P : Program} {c : Cx} {n : Nat} {k : List Item} {fr : SF} {H : SH} {ops : Array Oper} {rest : List Oper} {ty : TypeId} {pos : String} {aft : Array Edge} {T e d : Nat} {z u v : Value} {x y : Operand} (hT : P.underlying T = some (.slice e)) (hs : ∀ w, (Go.sizeOf e).run P w = .ok 1 w) (hz : ∀ w, (zeroValue e).run P w = .ok z w) (hu : u.cells = #[u]) (hv : v.cells = #[v]) (hx : ev fr x = some u) (hy : ev fr y = some v) (hd : Nat.blt d n = true)
  (hk : ∀ b, c.w0.heap.size ≤ b → G P c n k ops rest ((d, .slice (some ⟨b, 0, none⟩) 2 2) :: fr) (⟨b, true, .row [u, v] e (0, 0)⟩ :: H)) : G P c n k ops (⟨some d, .buildSlice T 2 #[(0, x), (1, y)], ty, pos, aft, none⟩ :: rest) fr H := by
 refine G.new (kb := .row [u, v] e (0, 0)) (v := fun b => .slice (some ⟨b, 0, none⟩) 2 2) (fun a w ha hw => ?_) hd hk
 have h2 : Array.range 2 = #[0, 1] := rfl
 simp [execOp, ha.eval hx, ha.eval hy, Instr.buildSlice, underlying, hT, hs, hz, Instr.fill, newRow, h2, hu, hv, Blk.den]
theorem _root_.Bw.V.neB0 {P : Program} {c : Cx} {n : Nat} {fr : SF} {H : SH} {ty t u : TypeId} {x y : Operand} {b : Bool} (hU : P.underlying t = some .bool) (hx : ev fr x = some (.bool b)) (hy : ev fr y = some (.bool b)) : Val P c n (.binOp .neq t x y u) ty fr H (.bool false) := by
 intro a w ha hw dst pos aft g
 have h1 : ∀ d, (Op.equalIn (d + 1) t (.bool b) (.bool b)).run P w = .ok true w := fun d => by simp [Op.equalIn, underlying, hU]
 have h2 : (Op.equal t (.bool b) (.bool b)).run P w = .ok true w := h1 9999
 simp [execOp, ha.eval hx, ha.eval hy, eqGuard, binOp, h2]
theorem s16_same (w : World) (b1 o1 cp1 b2 o2 cp2 : Nat) (xs : List Bool) (hl : xs.length ≤ 1000) (h1 : ∀ i x, xs[i]? = some x → w.cell? ⟨b1, o1 + i, none⟩ = some (.bool x)) (h2 : ∀ i x, xs[i]? = some x → w.cell? ⟨b2, o2 + i, none⟩ = some (.bool x)) : Calls Tryd.prog 27 #[.slice (some ⟨b1, o1, none⟩) xs.length cp1, .slice (some ⟨b2, o2, none⟩) xs.length cp2] w fun e w' => e = .returned (.bool true) ∧ HF w (fun _ => False) [] w' := by
 refine enter (fun _ => False) [] Tryd.func27 rfl Tryd.ntmps27 rfl rfl (HF.start w _) fun c hc => ?_
 subst hc
 refine GC.seq ?_
 refine GC.reg ?_
 refine G.m2 ?_
 refine G.nil ?_
 refine GC.seq ?_
 refine GC.seq ?_
 refine GC.reg ?_
 refine G.m1 ?_
 refine G.v (V.lenL Tryd.underlying54 rfl) rfl ?_
 refine G.m1 ?_
 refine G.v (V.lenL Tryd.underlying54 rfl) rfl ?_
 refine G.v (V.neI0 rfl rfl) rfl ?_
 refine G.nil ?_
 refine GC.condF rfl ?_
 refine GC.skip ?_
 refine GC.seq ?_
 refine GC.seq ?_
 refine GC.reg ?_
 refine G.m1 ?_
 refine G.v (V.lenL Tryd.underlying54 rfl) rfl ?_
 refine G.m1 ?_
 refine G.nil ?_
 refine GC.block ?_
 refine GC.loopJ (fun N fr' H' => ∃ i, i + N = xs.length ∧ Sub [(0, .slice (some ⟨b1, o1, none⟩) xs.length cp1), (1, .slice (some ⟨b2, o2, none⟩) xs.length cp2), (12, I (xs.length : Nat)), (13, I ((i : Nat) : Int))] fr' ∧ H' = []) xs.length
  ⟨0, by omega, .of rfl, rfl⟩ ?_
 rintro N fr' H' ⟨i, hi, hs, rfl⟩ ih
 refine GC.weak hs ?_
 clear hs
 refine GC.seq ?_
 refine GC.reg ?_
 refine G.v (V.lt rfl rfl) rfl ?_
 refine G.nil ?_
 refine GC.seq ?_
 refine GC.condD rfl (fun h14 => ?_) (fun h14 => ?_)
 ·refine GC.skip ?_
  refine GC.seq ?_
  refine GC.block ?_
  refine GC.seq ?_
  have hlt : i < xs.length := by omega
  obtain ⟨x, hx⟩ : ∃ x, xs[i]? = some x := ⟨_, List.getElem?_eq_getElem hlt⟩
  have hx1 := h1 i x hx
  have hx2 := h2 i x hx
  refine GC.reg ?_
  refine G.m1 ?_
  refine G.m2 ?_
  refine G.nil ?_
  refine GC.seq ?_
  refine GC.regQ mixed (by kernel_rfl) ?_
  refine GQ.v (V.mv rfl) rfl ?_
  refine GQ.v (V.mv rfl) rfl ?_
  refine GQ.v (V.ia (i := i) Tryd.underlying54 Tryd.sizeOf4 rfl rfl hlt) rfl ?_
  refine GQ.v (V.ldC (v := .bool x) Tryd.isAgg4 rfl (by rw [Nat.mul_one]; exact hx1) id) rfl ?_
  refine GQ.v (V.mv rfl) rfl ?_
  refine GQ.v (V.mv rfl) rfl ?_
  refine GQ.v (V.ia (i := i) Tryd.underlying54 Tryd.sizeOf4 rfl rfl hlt) rfl ?_
  refine GQ.v (V.ldC (v := .bool x) Tryd.isAgg4 rfl (by rw [Nat.mul_one]; exact hx2) id) rfl ?_
  refine GQ.v (V.neB0 (b := x) Tryd.underlying4 rfl rfl) rfl ?_
  refine GQ.nil ?_
  refine GC.condF rfl ?_
  refine GC.skip ?_
  refine GC.inBlock ?_
  refine GC.reg ?_
  refine G.v (V.addI (r := ((i + 1 : Nat) : Int)) rfl rfl rfl (by omega) (by omega)) rfl ?_
  refine G.m1 ?_
  refine G.nil ?_
  exact ih (N - 1) _ _ (by omega) ⟨i + 1, by omega, .of rfl, rfl⟩
 refine GC.exit rfl ?_
 refine GC.seq ?_
 refine GC.reg ?_
 refine G.m2 ?_
 refine G.nil ?_
 exact GC.ret1 rfl rfl fun w' hw' => ⟨rfl, hw'⟩
def awk : List TF := [⟨[47, 97, 66, 67], some [47, 65, 98, 99]⟩, ⟨[47, 98], none⟩]
def awR : List (List Tok) := [[.b 47, .b 65, .b 98, .b 99]]
def awT : T0 := .node () [47, 65, 98, 99] [] false 1 1 (some 1) [47, 65, 98, 99] []
theorem awT_eq : addAll new (awR.map txt) 0 = .inl awT := by rfl
theorem awR_good : ∀ r ∈ awR, Gt.Good r := by
 intro r hr
 simp only [awR, List.mem_cons, List.not_mem_nil, or_false] at hr
 subst hr
 exact ⟨by simp [Ok, plainB], _, rfl⟩
theorem awT_ln : Ln awT := .mk (by decide) (by decide) (by decide) (by decide) (by simp)
theorem awk_told : ∀ x ∈ awk, x.q ≠ [] ∧ (∀ y ∈ x.q, y.toNat < 128) ∧ x.q.length ≤ 50000 ∧ ∃ g, caseC Ef false g awT x.q 0 [] = some x.r := by
 intro x hx
 simp only [awk, List.mem_cons, List.not_mem_nil, or_false] at hx
 rcases hx with rfl | rfl
 ·exact ⟨by simp, by decide, by decide, 1, by rfl⟩
 ·exact ⟨by simp, by decide, by decide, 1, by rfl⟩
end Go.Proofs

/- More small questions on routes. Printed by wip/mk_gn2.py. -/
set_option maxRecDepth 20000
namespace Go.Proofs
open Go Bw
open Gt
theorem f49_any (w : World) (s : List UInt8) (hs : s.length ≤ 1000000000000) : Calls Tryd.prog 46 #[S s] w fun e w' => e = .returned (.bool (dec (wordN s))) ∧ HF w (fun _ => False) [] w' := by
 refine enter (fun _ => False) [] Tryd.func46 rfl Tryd.ntmps46 rfl rfl (HF.start w _) fun c hc => ?_
 subst hc
 refine GC.seq ?_
 refine GC.reg ?_
 refine G.m2 ?_
 refine G.nil ?_
 refine GC.seq ?_
 refine GC.seq ?_
 refine GC.reg ?_
 refine G.m1 ?_
 refine G.v (V.lenS Tryd.underlying9 rfl) rfl ?_
 refine G.m1 ?_
 refine G.nil ?_
 refine GC.block ?_
 refine GC.loopJ (fun N fr' H' => ∃ i, i + N = s.length ∧ (∀ j x, j < i → s[j]? = some x → wordc x) ∧ Sub [(0, S s), (6, I (s.length : Nat)), (7, I (i : Nat))] fr' ∧ H' = []) s.length
  ⟨0, by omega, fun j x hj => by omega, .of rfl, rfl⟩ ?_
 rintro N fr' H' ⟨i, hi, hok, hs2, rfl⟩ ih
 refine GC.weak hs2 ?_
 clear hs2
 refine GC.seq ?_
 refine GC.reg ?_
 refine G.v (V.lt rfl rfl) rfl ?_
 refine G.nil ?_
 refine GC.seq ?_
 refine GC.condD rfl (fun h8 => ?_) (fun h8 => ?_)
 ·refine GC.skip ?_
  refine GC.seq ?_
  refine GC.block ?_
  refine GC.seq ?_
  refine GC.reg ?_
  refine G.m1 ?_
  refine G.m2 ?_
  refine G.nil ?_
  refine GC.seq ?_
  have hil : i < s.length := by omega
  obtain ⟨x, hx⟩ : ∃ x, s[i]? = some x := ⟨_, List.getElem?_eq_getElem hil⟩
  refine GC.reg ?_
  refine G.m1 ?_
  refine G.m1 ?_
  refine G.v (V.idx (i := i) (b := x) Tryd.underlying9 rfl rfl hx) rfl ?_
  refine G.m2 ?_
  refine G.nil ?_
  refine GC.seq ?_
  refine GC.join (fun fr' H' => Sub [(0, S s), (6, I (s.length : Nat)), (7, I (i : Nat)), (38, .bool (dec (¬ wordc x)))] fr' ∧ H' = []) (fun J5 => ?_) ?_
  ·refine GC.reg ?_
   refine G.m1 ?_
   refine G.v (V.neI rfl rfl) rfl ?_
   refine G.m1 ?_
   refine G.bc 15 rfl (fun h15 => ?_) (fun h15 => ?_)
   ·refine G.m5 ?_
    refine G.vg rfl rfl (V.lt rfl rfl) rfl ?_
    refine G.m5 ?_
    refine G.bc 18 rfl (fun h18 => ?_) (fun h18 => ?_)
    ·refine G.s1 ?_
     refine G.s1 ?_
     refine G.vg rfl rfl (V.pickT rfl rfl) rfl ?_
     refine G.m3 ?_
     refine G.m1 ?_
     refine G.m5 ?_
     refine G.vg rfl rfl (V.lt rfl rfl) rfl ?_
     refine G.m5 ?_
     refine G.bc 26 rfl (fun h26 => ?_) (fun h26 => ?_)
     ·refine G.s1 ?_
      refine G.s1 ?_
      refine G.vg rfl rfl (V.pickT rfl rfl) rfl ?_
      refine G.m3 ?_
      refine G.m1 ?_
      refine G.m5 ?_
      refine G.vg rfl rfl (V.lt rfl rfl) rfl ?_
      refine G.m5 ?_
      refine G.bc 34 rfl (fun h34 => ?_) (fun h34 => ?_)
      ·refine G.s1 ?_
       refine G.s1 ?_
       refine G.vg rfl rfl (V.pickT rfl rfl) rfl ?_
       refine G.m3 ?_
       refine G.nil ?_
       clear ih
       refine J5 _ _ ⟨.cons rfl (.cons rfl (.cons rfl (.cons (rfl.trans (congrArg (fun b => some (Value.bool b)) ?_)) .nil))), rfl⟩
       clear J5
       simp only [decide_eq_true_eq, decide_eq_false_iff_not, Bool.not_eq_true'] at *
       unfold wordc
       first | exact dec_d (by omega) | exact dec_n (by omega) | exact dec_f (by omega) | exact dec_t (by omega)
      ·refine G.m5 ?_
       refine G.vg rfl rfl (V.gt rfl rfl) rfl ?_
       refine G.vg rfl rfl (V.pickF rfl rfl) rfl ?_
       refine G.m3 ?_
       refine G.nil ?_
       clear ih
       refine J5 _ _ ⟨.cons rfl (.cons rfl (.cons rfl (.cons (rfl.trans (congrArg (fun b => some (Value.bool b)) ?_)) .nil))), rfl⟩
       clear J5
       simp only [decide_eq_true_eq, decide_eq_false_iff_not, Bool.not_eq_true'] at *
       unfold wordc
       first | exact dec_d (by omega) | exact dec_n (by omega) | exact dec_f (by omega) | exact dec_t (by omega)
     ·refine G.m5 ?_
      refine G.vg rfl rfl (V.gt rfl rfl) rfl ?_
      refine G.vg rfl rfl (V.pickF rfl rfl) rfl ?_
      refine G.m3 ?_
      refine G.m1 ?_
      refine G.bc 31 rfl (fun h31 => ?_) (fun h31 => ?_)
      ·refine G.m5 ?_
       refine G.vg rfl rfl (V.lt rfl rfl) rfl ?_
       refine G.m5 ?_
       refine G.bc 34 rfl (fun h34 => ?_) (fun h34 => ?_)
       ·refine G.s1 ?_
        refine G.s1 ?_
        refine G.vg rfl rfl (V.pickT rfl rfl) rfl ?_
        refine G.m3 ?_
        refine G.nil ?_
        clear ih
        refine J5 _ _ ⟨.cons rfl (.cons rfl (.cons rfl (.cons (rfl.trans (congrArg (fun b => some (Value.bool b)) ?_)) .nil))), rfl⟩
        clear J5
        simp only [decide_eq_true_eq, decide_eq_false_iff_not, Bool.not_eq_true'] at *
        unfold wordc
        first | exact dec_d (by omega) | exact dec_n (by omega) | exact dec_f (by omega) | exact dec_t (by omega)
       ·refine G.m5 ?_
        refine G.vg rfl rfl (V.gt rfl rfl) rfl ?_
        refine G.vg rfl rfl (V.pickF rfl rfl) rfl ?_
        refine G.m3 ?_
        refine G.nil ?_
        clear ih
        refine J5 _ _ ⟨.cons rfl (.cons rfl (.cons rfl (.cons (rfl.trans (congrArg (fun b => some (Value.bool b)) ?_)) .nil))), rfl⟩
        clear J5
        simp only [decide_eq_true_eq, decide_eq_false_iff_not, Bool.not_eq_true'] at *
        unfold wordc
        first | exact dec_d (by omega) | exact dec_n (by omega) | exact dec_f (by omega) | exact dec_t (by omega)
      ·refine G.s1 ?_
       refine G.s1 ?_
       refine G.s1 ?_
       refine G.sgU rfl rfl rfl rfl rfl ?_
       refine G.sgU rfl rfl rfl rfl rfl ?_
       refine G.s1 ?_
       refine G.m4 ?_
       refine G.nil ?_
       clear ih
       refine J5 _ _ ⟨.cons rfl (.cons rfl (.cons rfl (.cons (rfl.trans (congrArg (fun b => some (Value.bool b)) ?_)) .nil))), rfl⟩
       clear J5
       simp only [decide_eq_true_eq, decide_eq_false_iff_not, Bool.not_eq_true'] at *
       unfold wordc
       first | exact dec_d (by omega) | exact dec_n (by omega) | exact dec_f (by omega) | exact dec_t (by omega)
    ·refine G.m5 ?_
     refine G.vg rfl rfl (V.gt rfl rfl) rfl ?_
     refine G.vg rfl rfl (V.pickF rfl rfl) rfl ?_
     refine G.m3 ?_
     refine G.m1 ?_
     refine G.bc 23 rfl (fun h23 => ?_) (fun h23 => ?_)
     ·refine G.m5 ?_
      refine G.vg rfl rfl (V.lt rfl rfl) rfl ?_
      refine G.m5 ?_
      refine G.bc 26 rfl (fun h26 => ?_) (fun h26 => ?_)
      ·refine G.s1 ?_
       refine G.s1 ?_
       refine G.vg rfl rfl (V.pickT rfl rfl) rfl ?_
       refine G.m3 ?_
       refine G.m1 ?_
       refine G.m5 ?_
       refine G.vg rfl rfl (V.lt rfl rfl) rfl ?_
       refine G.m5 ?_
       refine G.bc 34 rfl (fun h34 => ?_) (fun h34 => ?_)
       ·refine G.s1 ?_
        refine G.s1 ?_
        refine G.vg rfl rfl (V.pickT rfl rfl) rfl ?_
        refine G.m3 ?_
        refine G.nil ?_
        clear ih
        refine J5 _ _ ⟨.cons rfl (.cons rfl (.cons rfl (.cons (rfl.trans (congrArg (fun b => some (Value.bool b)) ?_)) .nil))), rfl⟩
        clear J5
        simp only [decide_eq_true_eq, decide_eq_false_iff_not, Bool.not_eq_true'] at *
        unfold wordc
        first | exact dec_d (by omega) | exact dec_n (by omega) | exact dec_f (by omega) | exact dec_t (by omega)
       ·refine G.m5 ?_
        refine G.vg rfl rfl (V.gt rfl rfl) rfl ?_
        refine G.vg rfl rfl (V.pickF rfl rfl) rfl ?_
        refine G.m3 ?_
        refine G.nil ?_
        clear ih
        refine J5 _ _ ⟨.cons rfl (.cons rfl (.cons rfl (.cons (rfl.trans (congrArg (fun b => some (Value.bool b)) ?_)) .nil))), rfl⟩
        clear J5
        simp only [decide_eq_true_eq, decide_eq_false_iff_not, Bool.not_eq_true'] at *
        unfold wordc
        first | exact dec_d (by omega) | exact dec_n (by omega) | exact dec_f (by omega) | exact dec_t (by omega)
      ·refine G.m5 ?_
       refine G.vg rfl rfl (V.gt rfl rfl) rfl ?_
       refine G.vg rfl rfl (V.pickF rfl rfl) rfl ?_
       refine G.m3 ?_
       refine G.m1 ?_
       refine G.bc 31 rfl (fun h31 => ?_) (fun h31 => ?_)
       ·refine G.m5 ?_
        refine G.vg rfl rfl (V.lt rfl rfl) rfl ?_
        refine G.m5 ?_
        refine G.bc 34 rfl (fun h34 => ?_) (fun h34 => ?_)
        ·refine G.s1 ?_
         refine G.s1 ?_
         refine G.vg rfl rfl (V.pickT rfl rfl) rfl ?_
         refine G.m3 ?_
         refine G.nil ?_
         clear ih
         refine J5 _ _ ⟨.cons rfl (.cons rfl (.cons rfl (.cons (rfl.trans (congrArg (fun b => some (Value.bool b)) ?_)) .nil))), rfl⟩
         clear J5
         simp only [decide_eq_true_eq, decide_eq_false_iff_not, Bool.not_eq_true'] at *
         unfold wordc
         first | exact dec_d (by omega) | exact dec_n (by omega) | exact dec_f (by omega) | exact dec_t (by omega)
        ·refine G.m5 ?_
         refine G.vg rfl rfl (V.gt rfl rfl) rfl ?_
         refine G.vg rfl rfl (V.pickF rfl rfl) rfl ?_
         refine G.m3 ?_
         refine G.nil ?_
         clear ih
         refine J5 _ _ ⟨.cons rfl (.cons rfl (.cons rfl (.cons (rfl.trans (congrArg (fun b => some (Value.bool b)) ?_)) .nil))), rfl⟩
         clear J5
         simp only [decide_eq_true_eq, decide_eq_false_iff_not, Bool.not_eq_true'] at *
         unfold wordc
         first | exact dec_d (by omega) | exact dec_n (by omega) | exact dec_f (by omega) | exact dec_t (by omega)
       ·refine G.s1 ?_
        refine G.s1 ?_
        refine G.s1 ?_
        refine G.sgU rfl rfl rfl rfl rfl ?_
        refine G.sgU rfl rfl rfl rfl rfl ?_
        refine G.s1 ?_
        refine G.m4 ?_
        refine G.nil ?_
        clear ih
        refine J5 _ _ ⟨.cons rfl (.cons rfl (.cons rfl (.cons (rfl.trans (congrArg (fun b => some (Value.bool b)) ?_)) .nil))), rfl⟩
        clear J5
        simp only [decide_eq_true_eq, decide_eq_false_iff_not, Bool.not_eq_true'] at *
        unfold wordc
        first | exact dec_d (by omega) | exact dec_n (by omega) | exact dec_f (by omega) | exact dec_t (by omega)
     ·refine G.s1 ?_
      refine G.s1 ?_
      refine G.s1 ?_
      refine G.sgU rfl rfl rfl rfl rfl ?_
      refine G.sgU rfl rfl rfl rfl rfl ?_
      refine G.s1 ?_
      refine G.m4 ?_
      refine G.m1 ?_
      refine G.s1 ?_
      refine G.s1 ?_
      refine G.s1 ?_
      refine G.sgU rfl rfl rfl rfl rfl ?_
      refine G.sgU rfl rfl rfl rfl rfl ?_
      refine G.s1 ?_
      refine G.m4 ?_
      refine G.nil ?_
      clear ih
      refine J5 _ _ ⟨.cons rfl (.cons rfl (.cons rfl (.cons (rfl.trans (congrArg (fun b => some (Value.bool b)) ?_)) .nil))), rfl⟩
      clear J5
      simp only [decide_eq_false_iff_not, Bool.not_eq_true'] at *
      unfold wordc
      first | exact dec_d (by omega) | exact dec_n (by omega) | exact dec_f (by omega) | exact dec_t (by omega)
   ·refine G.s1 ?_
    refine G.s1 ?_
    refine G.s1 ?_
    refine G.sgU rfl rfl rfl rfl rfl ?_
    refine G.sgU rfl rfl rfl rfl rfl ?_
    refine G.s1 ?_
    refine G.m4 ?_
    refine G.m1 ?_
    refine G.s1 ?_
    refine G.s1 ?_
    refine G.s1 ?_
    refine G.sgU rfl rfl rfl rfl rfl ?_
    refine G.sgU rfl rfl rfl rfl rfl ?_
    refine G.s1 ?_
    refine G.m4 ?_
    refine G.m1 ?_
    refine G.s1 ?_
    refine G.s1 ?_
    refine G.s1 ?_
    refine G.sgU rfl rfl rfl rfl rfl ?_
    refine G.sgU rfl rfl rfl rfl rfl ?_
    refine G.s1 ?_
    refine G.m4 ?_
    refine G.nil ?_
    clear ih
    refine J5 _ _ ⟨.cons rfl (.cons rfl (.cons rfl (.cons (rfl.trans (congrArg (fun b => some (Value.bool b)) ?_)) .nil))), rfl⟩
    clear J5
    simp only [decide_eq_true_eq, Bool.not_eq_false'] at *
    unfold wordc
    first | exact dec_d (by omega) | exact dec_n (by omega) | exact dec_f (by omega) | exact dec_t (by omega)
  rintro fr' H' ⟨hs4, rfl⟩
  refine GC.weak hs4 ?_
  clear hs4
  refine GC.cond rfl (fun h38 => ?_) (fun h38 => ?_)
  ·refine GC.seq ?_
   refine GC.reg ?_
   refine G.m2 ?_
   refine G.nil ?_
   refine GC.ret1 rfl rfl fun w' hw' => ⟨?_, hw'⟩
   refine congrArg (fun b => Ending.returned (Value.bool b)) ?_
   exact dec_f fun h => dec_true.1 h38 (h.1 x (List.mem_of_getElem? hx))
  refine GC.skip ?_
  refine GC.inBlock ?_
  refine GC.reg ?_
  refine G.v (V.addI (r := ((i + 1 : Nat) : Int)) rfl rfl rfl (by omega) (by omega)) rfl ?_
  refine G.m1 ?_
  refine G.nil ?_
  refine ih (N - 1) _ _ (by omega) ⟨i + 1, by omega, fun j y hj hy => ?_, .of rfl, rfl⟩
  by_cases hji : j = i
  ·subst hji
   rw [hx] at hy
   cases hy
   exact Classical.not_not.1 (dec_false.1 h38)
  ·exact hok j y (by omega) hy
 refine GC.exit rfl ?_
 refine GC.seq ?_
 refine GC.reg ?_
 refine G.m1 ?_
 refine G.v (V.neS rfl rfl) rfl ?_
 refine G.m1 ?_
 refine G.bc 42 rfl (fun h42 => ?_) (fun h42 => ?_)
 ·refine G.m5 ?_
  refine G.vg rfl rfl (V.lenS Tryd.underlying9 rfl) rfl ?_
  refine G.vg rfl rfl (V.le rfl rfl) rfl ?_
  refine G.m3 ?_
  refine G.m2 ?_
  refine G.nil ?_
  have hall : ∀ x ∈ s, wordc x := fun x hx => by
   obtain ⟨j, hj⟩ := List.getElem?_of_mem hx
   exact hok j x (by have := (List.getElem?_eq_some_iff.1 hj).1; omega) hj
  refine GC.ret1 rfl rfl fun w' hw' => ⟨?_, hw'⟩
  refine congrArg (fun b => Ending.returned (Value.bool b)) ?_
  have h41' : s ≠ [] := by simpa using h42
  exact dec_d ⟨fun h => ⟨hall, h41', by omega⟩, fun h => by have := h.2.2; omega⟩
 ·refine G.s1 ?_
  refine G.s1 ?_
  refine G.s1 ?_
  refine G.m4 ?_
  refine G.m2 ?_
  refine G.nil ?_
  refine GC.ret1 rfl rfl fun w' hw' => ⟨?_, hw'⟩
  refine congrArg (fun b => Ending.returned (Value.bool b)) ?_
  have h41' : s = [] := by simpa using h42
  exact dec_f fun h => h.2.1 h41'
theorem f45_any (w : World) (p : Prt) : Calls Tryd.prog 31 #[.agg (prV p).toArray] w fun e w' => e = .returned (.bool (dec (Fits6 p))) ∧ HF w (fun _ => False) [] w' := by
 refine enter (fun _ => False) [] Tryd.func31 rfl Tryd.ntmps31 rfl rfl (HF.start w _) fun c hc => ?_
 subst hc
 refine GC.seq ?_
 refine GC.reg ?_
 refine G.bx (l := prV p) rfl (by simp [prV, cells_agg]) rfl (fun bb hbb => ?_)
 refine G.m2 ?_
 refine G.nil ?_
 refine GC.seq ?_
 refine GC.seq ?_
 refine GC.reg ?_
 refine G.v (V.fa F32_1 rfl) rfl ?_
 refine G.v (V.ld (b := bb) (off := 0 + 1) (wf := true) (l := prV p) (T := 32) (fz := (0, 0)) (v := S p.nm) Tryd.isAgg9 rfl (.head _) rfl) rfl ?_
 refine G.v (V.lenS Tryd.underlying9 rfl) rfl ?_
 refine G.v (V.gt rfl rfl) rfl ?_
 refine G.nil ?_
 refine GC.condD rfl (fun h6 => ?_) (fun h6 => ?_)
 ·refine GC.seq ?_
  refine GC.reg ?_
  refine G.m2 ?_
  refine G.nil ?_
  refine GC.ret1 rfl rfl fun w' hw' => ⟨?_, hw'.sub (List.nil_sublist _)⟩
  refine congrArg (fun b => Ending.returned (Value.bool b)) ?_
  exact dec_f fun h => by unfold Fits6 at h; omega
 refine GC.skip ?_
 refine GC.seq ?_
 refine GC.reg ?_
 refine G.m2 ?_
 refine G.nil ?_
 refine GC.ret1 rfl rfl fun w' hw' => ⟨?_, hw'.sub (List.nil_sublist _)⟩
 refine congrArg (fun b => Ending.returned (Value.bool b)) ?_
 exact dec_t (by unfold Fits6; omega)
theorem f18_any (w : World) (l : List Prt) (sv : Value) (hsv : Prts w sv l) : Calls Tryd.prog 17 #[sv] w fun e w' => e = .returned (.bool (dec (Fits5 l))) ∧ HF w (fun _ => False) [] w' := by
 refine enter (fun _ => False) [] Tryd.func17 rfl Tryd.ntmps17 rfl rfl (HF.start w _) fun c hc => ?_
 subst hc
 obtain ⟨ad, cp, rfl, hcp, hc⟩ := hsv
 refine GC.seq ?_
 refine GC.reg ?_
 refine G.m2 ?_
 refine G.nil ?_
 refine GC.seq ?_
 refine GC.seq ?_
 refine GC.reg ?_
 refine G.m1 ?_
 refine G.v (V.lenL Tryd.underlying30 rfl) rfl ?_
 refine G.v (V.gt rfl rfl) rfl ?_
 refine G.nil ?_
 refine GC.condD rfl (fun h7 => ?_) (fun h7 => ?_)
 ·refine GC.seq ?_
  refine GC.reg ?_
  refine G.m2 ?_
  refine G.nil ?_
  refine GC.ret1 rfl rfl fun w' hw' => ⟨?_, hw'.sub (List.nil_sublist _)⟩
  refine congrArg (fun b => Ending.returned (Value.bool b)) ?_
  exact dec_f fun h => by have := h.1; omega
 refine GC.skip ?_
 refine GC.seq ?_
 refine GC.seq ?_
 refine GC.reg ?_
 refine G.m1 ?_
 refine G.v (V.lenL Tryd.underlying30 rfl) rfl ?_
 refine G.m1 ?_
 refine G.nil ?_
 refine GC.block ?_
 refine GC.loopJ (fun N fr' H' => ∃ i, i + N = l.length ∧ (∀ j x, j < i → l[j]? = some x → Fits6 x) ∧ Sub [(8, .slice ad l.length cp), (9, I (l.length : Nat)), (10, I (i : Nat))] fr' ∧ H' = []) l.length
  ⟨0, by omega, fun j x hj => by omega, .of rfl, rfl⟩ ?_
 rintro N fr' H' ⟨i, hi, hok, hs2, rfl⟩ ih
 refine GC.weak hs2 ?_
 clear hs2
 refine GC.seq ?_
 refine GC.reg ?_
 refine G.v (V.lt rfl rfl) rfl ?_
 refine G.nil ?_
 refine GC.seq ?_
 refine GC.condD rfl (fun h11 => ?_) (fun h11 => ?_)
 ·refine GC.skip ?_
  refine GC.seq ?_
  refine GC.block ?_
  refine GC.seq ?_
  have hil : i < l.length := by omega
  obtain ⟨p, hp⟩ : ∃ p, l[i]? = some p := ⟨_, List.getElem?_eq_getElem hil⟩
  obtain ⟨b, o, rfl, hc1, hc2⟩ := hc i p hp
  refine GC.reg ?_
  refine G.v (V.ia (i := i) Tryd.underlying30 Tryd.sizeOf32 rfl rfl hil) rfl ?_
  refine G.v (V.ldAC (s := 2) (cs := prV p) Tryd.isAgg32 Tryd.sizeOf32 rfl (cells2 hc1 hc2) rfl id) rfl ?_
  refine G.al Tryd.zeroValue32 rfl rfl (fun cb hcb => ?_)
  refine G.stA (cs := prV p) Tryd.sizeOf32 rfl rfl (by simp [prV, Value.oneCell']) .z rfl ?_
  refine G.nil ?_
  refine GC.seq ?_
  refine GC.reg ?_
  refine G.v (V.ldA (b := cb) (off := 0) (s := 2) (wf := true) (l := prV p) (T := 32) (fz := (0, 0)) (cs := prV p) Tryd.isAgg32 Tryd.sizeOf32 rfl (.head _) rfl rfl) rfl ?_
  refine G.callP (v := .bool (dec (Fits6 p))) Tryd.call31 rfl rfl (fun w1 hw1 => f45_any w1 p) ?_
  refine G.v (V.not rfl) rfl ?_
  refine G.nil ?_
  refine GC.cond rfl (fun h16 => ?_) (fun h16 => ?_)
  ·refine GC.seq ?_
   refine GC.reg ?_
   refine G.m2 ?_
   refine G.nil ?_
   refine GC.ret1 rfl rfl fun w' hw' => ⟨?_, hw'.sub (List.nil_sublist _)⟩
   refine congrArg (fun b => Ending.returned (Value.bool b)) ?_
   exact dec_f fun h => dec_false.1 (by simpa using h16) (h.2 p (List.mem_of_getElem? hp))
  refine GC.skip ?_
  refine GC.inBlock ?_
  refine GC.reg ?_
  refine G.v (V.addI (r := ((i + 1 : Nat) : Int)) rfl rfl rfl (by omega) (by omega)) rfl ?_
  refine G.m1 ?_
  refine G.nil ?_
  refine GC.turn (H' := []) (fun w1 h1 => h1.sub (List.nil_sublist _)) ?_
  refine ih (N - 1) _ _ (by omega) ⟨i + 1, by omega, fun j y hj hy => ?_, .of rfl, rfl⟩
  by_cases hji : j = i
  ·subst hji
   rw [hp] at hy
   cases hy
   exact dec_true.1 (by simpa using h16)
  ·exact hok j y (by omega) hy
 refine GC.exit rfl ?_
 refine GC.seq ?_
 refine GC.reg ?_
 refine G.m2 ?_
 refine G.nil ?_
 refine GC.ret1 rfl rfl fun w' hw' => ⟨?_, hw'.sub (List.nil_sublist _)⟩
 refine congrArg (fun b => Ending.returned (Value.bool b)) ?_
 refine dec_t ⟨by omega, fun x hx => ?_⟩
 obtain ⟨j, hj⟩ := List.getElem?_of_mem hx
 exact hok j x (by have := (List.getElem?_eq_some_iff.1 hj).1; omega) hj
theorem f17_any (w : World) (l : List (List Prt)) (sv : Value) (hsv : Tbl w sv l) : Calls Tryd.prog 5 #[sv] w fun e w' => e = .returned (.bool (dec (Fits4 l))) ∧ HF w (fun _ => False) [] w' := by
 refine enter (fun _ => False) [] Tryd.func5 rfl Tryd.ntmps5 rfl rfl (HF.start w _) fun c hc => ?_
 subst hc
 obtain ⟨ad, cp, rfl, hcp, hc⟩ := hsv
 refine GC.seq ?_
 refine GC.reg ?_
 refine G.m2 ?_
 refine G.nil ?_
 refine GC.seq ?_
 refine GC.seq ?_
 refine GC.reg ?_
 refine G.m1 ?_
 refine G.v (V.lenL Tryd.underlying22 rfl) rfl ?_
 refine G.v (V.gt rfl rfl) rfl ?_
 refine G.nil ?_
 refine GC.condD rfl (fun h7 => ?_) (fun h7 => ?_)
 ·refine GC.seq ?_
  refine GC.reg ?_
  refine G.m2 ?_
  refine G.nil ?_
  refine GC.ret1 rfl rfl fun w' hw' => ⟨?_, hw'⟩
  refine congrArg (fun b => Ending.returned (Value.bool b)) ?_
  exact dec_f fun h => by have := h.1; omega
 refine GC.skip ?_
 refine GC.seq ?_
 refine GC.seq ?_
 refine GC.reg ?_
 refine G.m1 ?_
 refine G.v (V.lenL Tryd.underlying22 rfl) rfl ?_
 refine G.m1 ?_
 refine G.nil ?_
 refine GC.block ?_
 refine GC.loopJ (fun N fr' H' => ∃ i, i + N = l.length ∧ (∀ j x, j < i → l[j]? = some x → Fits5 x) ∧ Sub [(8, .slice ad l.length cp), (9, I (l.length : Nat)), (10, I (i : Nat))] fr' ∧ H' = []) l.length
  ⟨0, by omega, fun j x hj => by omega, .of rfl, rfl⟩ ?_
 rintro N fr' H' ⟨i, hi, hok, hs2, rfl⟩ ih
 refine GC.weak hs2 ?_
 clear hs2
 refine GC.seq ?_
 refine GC.reg ?_
 refine G.v (V.lt rfl rfl) rfl ?_
 refine G.nil ?_
 refine GC.seq ?_
 refine GC.condD rfl (fun h11 => ?_) (fun h11 => ?_)
 ·refine GC.skip ?_
  refine GC.seq ?_
  refine GC.block ?_
  refine GC.seq ?_
  have hil : i < l.length := by omega
  obtain ⟨p, hp⟩ : ∃ p, l[i]? = some p := ⟨_, List.getElem?_eq_getElem hil⟩
  obtain ⟨b, o, rv, rfl, hc1, hc2⟩ := hc i p hp
  refine GC.reg ?_
  refine G.v (V.ia (i := i) Tryd.underlying22 Tryd.sizeOf30 rfl rfl hil) rfl ?_
  refine G.v (V.ldC (v := rv) Tryd.isAgg30 rfl (by rw [Nat.mul_one]; exact hc1) id) rfl ?_
  refine G.m2 ?_
  refine G.nil ?_
  refine GC.seq ?_
  refine GC.reg ?_
  refine G.m1 ?_
  refine G.callP (v := .bool (dec (Fits5 p))) Tryd.call17 rfl rfl (fun w1 hw1 => f18_any w1 p rv (hc2.old hw1)) ?_
  refine G.v (V.not rfl) rfl ?_
  refine G.nil ?_
  refine GC.cond rfl (fun h16 => ?_) (fun h16 => ?_)
  ·refine GC.seq ?_
   refine GC.reg ?_
   refine G.m2 ?_
   refine G.nil ?_
   refine GC.ret1 rfl rfl fun w' hw' => ⟨?_, hw'⟩
   refine congrArg (fun b => Ending.returned (Value.bool b)) ?_
   exact dec_f fun h => dec_false.1 (by simpa using h16) (h.2 p (List.mem_of_getElem? hp))
  refine GC.skip ?_
  refine GC.inBlock ?_
  refine GC.reg ?_
  refine G.v (V.addI (r := ((i + 1 : Nat) : Int)) rfl rfl rfl (by omega) (by omega)) rfl ?_
  refine G.m1 ?_
  refine G.nil ?_
  refine ih (N - 1) _ _ (by omega) ⟨i + 1, by omega, fun j y hj hy => ?_, .of rfl, rfl⟩
  by_cases hji : j = i
  ·subst hji
   rw [hp] at hy
   cases hy
   exact dec_true.1 (by simpa using h16)
  ·exact hok j y (by omega) hy
 refine GC.exit rfl ?_
 refine GC.seq ?_
 refine GC.reg ?_
 refine G.m2 ?_
 refine G.nil ?_
 refine GC.ret1 rfl rfl fun w' hw' => ⟨?_, hw'⟩
 refine congrArg (fun b => Ending.returned (Value.bool b)) ?_
 refine dec_t ⟨by omega, fun x hx => ?_⟩
 obtain ⟨j, hj⟩ := List.getElem?_of_mem hx
 exact hok j x (by have := (List.getElem?_eq_some_iff.1 hj).1; omega) hj
end Go.Proofs

/- Rules: a slice's tail with elements of several cells; nothing appended; tokens compared. -/
namespace Bw
open Go
variable {P : Program} {c : Cx} {n : Nat} {k : List Item} {fr : SF} {H : SH} {ops : Array Oper} {rest tail : List Oper} {ty t u : TypeId} {pos : String} {aft : Array Edge} {S : World → Prop} {m fuel : Nat} {listed : Array Bool}
/-- a slice's tail -/
theorem V.slTk {e : TypeId} {x y : Operand} {ad : Option Addr} {len cp i s : Nat} {kd : IntKind} (hU : P.underlying t = some (.slice e)) (hs : ∀ w, (Go.sizeOf e).run P w = .ok s w) (hx : ev fr x = some (.slice ad len cp)) (hy : ev fr y = some (.int kd (i : Int))) (hi : i ≤ len) (_hc : len ≤ cp) :
  Val P c n (.slice t x (some y) none none) ty fr H (.slice (if cp = i then ad else ad.map (·.add (i * s))) (len - i) (cp - i)) := by
 intro a w ha hw dst pos aft g
 simp [execOp, ha.eval hx, ha.eval hy, Instr.sliceAt, Instr.slice, underlying, hU, Instr.sliceBounds, Instr.sliceBound, asIntOf, hi, hs]
/-- append(xs, ys...) where ys is empty -/
theorem V.app0 {T e : TypeId} {i : TypeInfo} {z : Value} {x y : Operand} {n0 cap m2 : Nat} {ad ad2 : Option Addr} (hT : P.underlying T = some (.slice e)) (hi : P.info? e = some i) (hz : i.zero = some z)
  (hx : ev fr x = some (.slice ad n0 cap)) (hy : ev fr y = some (.slice ad2 0 m2)) (hle : n0 ≤ cap) : Val P c n (.call ⟨.builtin .append, #[x, y], #[T, T]⟩) ty fr H (.slice ad n0 cap) := by
 intro a w ha hw dst pos aft g
 have hr : (Builtin.append_ #[T, T] ty #[.slice ad n0 cap, .slice ad2 0 m2]).run P w = .ok (.slice ad n0 cap) w := by
  have hf : (Builtin.firstCells i.size 0 (.slice ad2 0 m2)).run P w = .ok #[] w := by
   cases ad2 with
   | none => exact run_firstCells_none (P := P) w _ _ _ _
   | some b => exact run_firstCells_some (P := P) w i.size 0 b 0 m2 [] (by simp) (fun j v hj => by simp at hj)
  cases ad <;> simp [Builtin.append_, run_underlying hT, Go.sizeOf, typeInfo, zeroValue, hi, hz, Builtin.lenOf, hle, hf, storeCells]
 simp [execOp, resolve, invoke, builtin, ha.eval hx, ha.eval hy, hr]
theorem GMB.bs0 {T e d s : Nat} {z : Value} (hT : P.underlying T = some (.slice e)) (hs : ∀ w, (Go.sizeOf e).run P w = .ok s w) (_hz : ∀ w, (zeroValue e).run P w = .ok z w) (hS : ∀ w, HF c.w0 c.D H w → S w) (hd : Nat.blt d n = true)
  (hk : ∀ b, GM P c n k ops S m tail fuel listed ((d, .slice (some ⟨b, 0, none⟩) 0 0) :: fr) (⟨b, true, .row [] e (0, 0)⟩ :: H)) : GMB P c n k ops S m tail fuel listed ⟨some d, .buildSlice T 0 #[], ty, pos, aft, none⟩ fr H := by
 refine GMB.new (kb := .row [] e (0, 0)) (v := fun b => .slice (some ⟨b, 0, none⟩) 0 0) (fun a w ha hw => ?_) hS hd hk
 have h0 : Array.range 0 = #[] := rfl
 simp [execOp, Instr.buildSlice, underlying, hT, hs, Instr.fill, newRow, Blk.den, h0]
end Bw
namespace Go.Proofs
open Go Bw
open Gt
theorem eqIn5d (d : Nat) (a c : Nat) (w : World) : (Op.equalIn (d + 1) 5 (.int .u8 (a : Int)) (.int .u8 (c : Int))).run Tryd.prog w = .ok (decide (a = c)) w := by
 simp [Op.equalIn, underlying, Tryd.underlying5]
 rw [Bool.eq_iff_iff, decide_eq_true_iff, beq_iff_eq]
 omega
/-- a token as a value -/
def tkV (t : Tk) : List Value := [.int .u8 (t.k.toNat : Int), .int .u8 (t.c.toNat : Int), S t.nm]
theorem toNat_inj {a b : UInt8} : a.toNat = b.toNat ↔ a = b := ⟨fun h => UInt8.toNat_inj.1 h, fun h => by rw [h]⟩
theorem Tk.eq_iff {x y : Tk} : x = y ↔ x.k.toNat = y.k.toNat ∧ x.c.toNat = y.c.toNat ∧ x.nm = y.nm := by
 rw [toNat_inj, toNat_inj]
 constructor
 ·intro h; subst h; exact ⟨rfl, rfl, rfl⟩
 ·obtain ⟨a, b, d⟩ := x
  obtain ⟨a', b', d'⟩ := y
  rintro ⟨h1, h2, h3⟩
  cases h1; cases h2; cases h3; rfl
theorem eqIn102 (x y : Tk) (w : World) : (Op.equalIn 10000 75 (.agg (tkV x).toArray) (.agg (tkV y).toArray)).run Tryd.prog w = .ok (dec (x = y)) w := by
 have e : Tryd.prog.underlying 75 = some (.struct (Tryd.prog.fieldsOf 75)) := by kernel_rfl
 rw [show (10000 : Nat) = 9999 + 1 from rfl, run_equalIn_agg w 9999 75 _ _ e (by kernel_rfl)]
 have hf : Tryd.prog.fieldsOf 75 = #[{ name := "kind", type := 5, offset := 0, embedded := false, tag := "", pkgPath := "pub-bridleway/spec", byteOffset := 0 }, { name := "c", type := 5, offset := 1, embedded := false, tag := "", pkgPath := "pub-bridleway/spec", byteOffset := 1 }, { name := "name", type := 9, offset := 2, embedded := false, tag := "", pkgPath := "pub-bridleway/spec", byteOffset := 8 }] := by kernel_rfl
 have hp : ∀ (xs : Array Value) (i : Nat) (v : Value) (w : World), xs[i]? = some v → (part 9 xs i).run Tryd.prog w = .ok v w := fun xs i v w h => by
  simp [part, Tryd.isAgg9, h]
 have hp5 : ∀ (xs : Array Value) (i : Nat) (v : Value) (w : World), xs[i]? = some v → (part 5 xs i).run Tryd.prog w = .ok v w := fun xs i v w h => by
  simp [part, Tryd.isAgg5, h]
 have g0 : ∀ q : Tk, (tkV q).toArray[0]? = some (.int .u8 (q.k.toNat : Int)) := fun q => rfl
 have g1 : ∀ q : Tk, (tkV q).toArray[1]? = some (.int .u8 (q.c.toNat : Int)) := fun q => rfl
 have g2 : ∀ q : Tk, (tkV q).toArray[2]? = some (S q.nm) := fun q => rfl
 rw [hf]
 simp only [Op.eqFields]
 have d5 : ∀ (a c : Nat), (Op.equalIn 9999 5 (.int .u8 (a : Int)) (.int .u8 (c : Int))).run Tryd.prog w = .ok (decide (a = c)) w := fun a c => eqIn5d 9998 a c w
 simp [hp5 _ _ _ _ (g0 x), hp5 _ _ _ _ (g0 y), hp5 _ _ _ _ (g1 x), hp5 _ _ _ _ (g1 y), hp _ _ _ _ (g2 x), hp _ _ _ _ (g2 y), eqIn9, d5]
 have hiff := Tk.eq_iff (x := x) (y := y)
 by_cases h1 : x.k.toNat = y.k.toNat <;> by_cases h2 : x.c.toNat = y.c.toNat <;> by_cases h3 : x.nm = y.nm <;> simp [h1, h2, h3] <;> first | exact dec_true.2 (hiff.2 ⟨h1, h2, h3⟩) | (refine dec_false.2 fun h => ?_; have h4 := hiff.1 h; first | exact h1 h4.1 | exact h2 h4.2.1 | exact h3 h4.2.2)
theorem V.eq102 {c : Cx} {n : Nat} {fr : SF} {H : SH} {ty u : TypeId} {x y : Operand} {p q : Tk} (hx : ev fr x = some (.agg (tkV p).toArray)) (hy : ev fr y = some (.agg (tkV q).toArray)) : Val Tryd.prog c n (.binOp .eql 75 x y u) ty fr H (.bool (dec (p = q))) := by
 intro a1 w ha hw dst pos aft g
 simp [execOp, ha.eval hx, ha.eval hy, run_eqGuard_agg (P := Tryd.prog) w .eql 75 x y _ _ (by kernel_rfl), run_eql_struct, eqIn102]
end Go.Proofs

/- The tokens of a route. Printed by wip/mk_gn3.py. -/
set_option maxRecDepth 20000
namespace Go.Proofs
open Go Bw
open Gt
/-- tokens in a row -/
def flatK (l : List Tk) : List Value := l.flatMap tkV
theorem flatK_app (a b : List Tk) : flatK (a ++ b) = flatK a ++ flatK b := by simp [flatK]
theorem flatK_len (l : List Tk) : (flatK l).length = 3 * l.length := by
 induction l with
 | nil => rfl
 | cons t l ih =>
  have : flatK (t :: l) = tkV t ++ flatK l := rfl
  rw [this, List.length_append, ih]
  simp [tkV]; omega
theorem tkV_one (t : Tk) : ∀ u ∈ tkV t, u.oneCell' = true := by
 intro u hu
 simp only [tkV, List.mem_cons, List.not_mem_nil, or_false] at hu
 rcases hu with rfl | rfl | rfl <;> rfl
theorem bd_tk1 (k : UInt8) (s : List UInt8) (w : World) : (Instr.build 75 #[(0, .int .u8 (k.toNat : Int)), (2, S s)]).run Tryd.prog w = .ok (.agg (tkV ⟨k, 0, s⟩).toArray) w := by
 simp [Instr.build, Tryd.zeroValue75, Tryd.runUnderlying75, Tryd.sizeOf5, Tryd.sizeOf9, Instr.fill, cells_str, tkV, Value.cells]
theorem bd_tk0 (c : UInt8) (w : World) : (Instr.build 75 #[(1, .int .u8 (c.toNat : Int))]).run Tryd.prog w = .ok (.agg (tkV ⟨0, c, []⟩).toArray) w := by
 simp [Instr.build, Tryd.zeroValue75, Tryd.runUnderlying75, Tryd.sizeOf5, Tryd.sizeOf9, Instr.fill, tkV, Value.cells]
theorem tks_snoc {l : List Prt} {j : Nat} {p : Prt} (h : l[j]? = some p) : tks (l.take (j + 1)) = tks (l.take j) ++ tkP p := by
 rw [take_snoc h]; simp [tks]
theorem tks_take_le {l : List Prt} (j : Nat) : (tks (l.take j)).length ≤ (tks l).length := by
 have : tks l = tks (l.take j) ++ tks (l.drop j) := by unfold tks; rw [← List.flatMap_append, List.take_append_drop]
 rw [this, List.length_append]; omega
theorem f57_any (w : World) (l : List Prt) (sv : Value) (hsv : Prts w sv l) (hlen : (tks l).length ≤ 1000000) (hll : l.length ≤ 1000000) : Calls Tryd.prog 43 #[sv] w fun e w' => ∃ kv Hs, e = .returned kv ∧ Own 75 3 kv (tks l).length (flatK (tks l)) Hs ∧ HF w (fun _ => False) Hs w' := by
 refine enter (fun _ => False) [] Tryd.func43 rfl Tryd.ntmps43 rfl rfl (HF.start w _) fun c hc => ?_
 subst hc
 obtain ⟨ad, cp, rfl, hcp, hc⟩ := hsv
 refine GC.seq ?_
 refine GC.reg ?_
 refine G.m2 ?_
 refine G.nil ?_
 refine GC.seq ?_
 refine GC.reg ?_
 refine G.m2 ?_
 refine G.nil ?_
 refine GC.seq ?_
 refine GC.seq ?_
 refine GC.reg ?_
 refine G.m1 ?_
 refine G.v (V.lenL Tryd.underlying30 rfl) rfl ?_
 refine G.m1 ?_
 refine G.nil ?_
 refine GC.block ?_
 refine GC.loopJ (fun N fr' H' => ∃ j kv Hs, j + N = l.length ∧ Own 75 3 kv (tks (l.take j)).length (flatK (tks (l.take j))) Hs ∧ Sub [(3, kv), (7, .slice ad l.length cp), (8, I (l.length : Nat)), (9, I (j : Nat))] fr' ∧ Hs = H') l.length
  ⟨0, .slice none 0 0, [], by omega, Own.nil, .of rfl, rfl⟩ ?_
 rintro N fr' H' ⟨j, kv, Hs, hj, hown, hs2, rfl⟩ ih
 refine GC.weak hs2 ?_
 clear hs2
 refine GC.seq ?_
 refine GC.reg ?_
 refine G.v (V.lt rfl rfl) rfl ?_
 refine G.nil ?_
 refine GC.seq ?_
 refine GC.condD rfl (fun h10 => ?_) (fun h10 => ?_)
 ·refine GC.skip ?_
  refine GC.seq ?_
  refine GC.block ?_
  refine GC.seq ?_
  have hjl : j < l.length := by omega
  obtain ⟨p, hp⟩ : ∃ p, l[j]? = some p := ⟨_, List.getElem?_eq_getElem hjl⟩
  obtain ⟨b, o, rfl, hc1, hc2⟩ := hc j p hp
  have hsn := tks_snoc hp
  have hle := tks_take_le (l := l) (j + 1)
  rw [hsn, List.length_append] at hle
  refine GC.reg ?_
  refine G.v (V.ia (i := j) Tryd.underlying30 Tryd.sizeOf32 rfl rfl hjl) rfl ?_
  refine G.v (V.ldAC (s := 2) (cs := prV p) Tryd.isAgg32 Tryd.sizeOf32 rfl (cells2 hc1 hc2) rfl id) rfl ?_
  refine G.al Tryd.zeroValue32 rfl rfl (fun pb hpb => ?_)
  refine G.stA (cs := prV p) Tryd.sizeOf32 rfl rfl (by simp [prV, Value.oneCell']) .z rfl ?_
  refine G.nil ?_
  refine GC.seq ?_
  refine GC.seq ?_
  refine GC.reg ?_
  refine G.v (V.fa F32_0 rfl) rfl ?_
  refine G.v (V.ld (b := pb) (off := 0 + 0) (wf := true) (l := prV p) (T := 32) (fz := (0, 0)) (v := .int .u8 (p.k.toNat : Int)) Tryd.isAgg5 rfl (.head _) rfl) rfl ?_
  refine G.v (V.neI rfl rfl) rfl ?_
  refine G.nil ?_
  refine GC.cond rfl (fun h15 => ?_) (fun h15 => ?_)
  ·refine GC.seq ?_
   have hk0 : p.k.toNat ≠ 0 := by simpa using h15
   have htk : tkP p = [⟨p.k, 0, p.nm⟩] := if_neg hk0
   rw [htk] at hsn hle
   simp only [List.length_singleton] at hle
   refine GC.reg ?_
   refine G.m1 ?_
   refine G.v (V.fa F32_0 rfl) rfl ?_
   refine G.v (V.ld (b := pb) (off := 0 + 0) (wf := true) (l := prV p) (T := 32) (fz := (0, 0)) (v := .int .u8 (p.k.toNat : Int)) Tryd.isAgg5 rfl (.head _) rfl) rfl ?_
   refine G.v (V.fa F32_1 rfl) rfl ?_
   refine G.v (V.ld (b := pb) (off := 0 + 1) (wf := true) (l := prV p) (T := 32) (fz := (0, 0)) (v := S p.nm) Tryd.isAgg9 rfl (.head _) rfl) rfl ?_
   refine G.v (V.bd (vs := [(0, .int .u8 (p.k.toNat : Int)), (2, S p.nm)]) rfl (fun w1 => bd_tk1 _ _ w1)) rfl ?_
   refine G.bs (vs := tkV ⟨p.k, 0, p.nm⟩) (BS.three Tryd.underlying72 Tryd.sizeOf75 Tryd.zeroValue75) rfl rfl (fun sb hsb => ?_)
   refine G.app (i := Tryd.t75) (sz := 3) (by_ := 24) Tryd.underlying72 rfl rfl rfl rfl rfl rfl rfl hown (H' := [⟨sb, true, .row (tkV ⟨p.k, 0, p.nm⟩) 75 (0, 0)⟩, ⟨pb, true, .row (prV p) 32 (0, 0)⟩]) (List.perm_append_comm (l₁ := ([⟨sb, true, .row (tkV ⟨p.k, 0, p.nm⟩) 75 (0, 0)⟩, ⟨pb, true, .row (prV p) 32 (0, 0)⟩] : SH))) (src_row (vs := tkV ⟨p.k, 0, p.nm⟩) (r := []) (by rw [List.append_nil]; exact .head _)) rfl (tkV_one _) (by omega) (by omega) (by omega) rfl (fun kv2 Hs2 hown2 => ?_)
   refine G.m2 ?_
   refine G.nil ?_
   refine GC.exit rfl ?_
   refine GC.reg ?_
   refine G.v (V.addI (r := ((j + 1 : Nat) : Int)) rfl rfl rfl (by omega) (by omega)) rfl ?_
   refine G.m1 ?_
   refine G.nil ?_
   refine GC.turn (H' := Hs2) (fun w1 h1 => h1.sub (List.sublist_append_right _ _)) ?_
   refine ih (N - 1) _ _ (by omega) ⟨j + 1, kv2, Hs2, by omega, ?_, .of rfl, rfl⟩
   rw [hsn, flatK_app, List.length_append]
   exact hown2
  refine GC.skip ?_
  refine GC.seq ?_
  have hk0 : p.k.toNat = 0 := by simpa using h15
  have htk : tkP p = p.nm.map fun c => ⟨0, c, []⟩ := if_pos hk0
  rw [htk] at hsn hle
  rw [List.length_map] at hle
  refine GC.reg ?_
  refine G.v (V.fa F32_1 rfl) rfl ?_
  refine G.v (V.ld (b := pb) (off := 0 + 1) (wf := true) (l := prV p) (T := 32) (fz := (0, 0)) (v := S p.nm) Tryd.isAgg9 rfl (.head _) rfl) rfl ?_
  refine G.v (V.lenS Tryd.underlying9 rfl) rfl ?_
  refine G.m1 ?_
  refine G.nil ?_
  refine GC.block ?_
  refine GC.loopJ (fun N2 fr' H' => ∃ i kv Hs, i + N2 = p.nm.length ∧ Own 75 3 kv (tks (l.take j) ++ (p.nm.take i).map fun c => (⟨0, c, []⟩ : Tk)).length (flatK (tks (l.take j) ++ (p.nm.take i).map fun c => (⟨0, c, []⟩ : Tk))) Hs ∧ Sub [(3, kv), (5, Pt pb 0), (7, .slice (some ⟨b, o, none⟩) l.length cp), (8, I (l.length : Nat)), (9, I (j : Nat)), (26, I (p.nm.length : Nat)), (27, I (i : Nat))] fr' ∧ H' = ⟨pb, true, .row (prV p) 32 (0, 0)⟩ :: Hs) p.nm.length
   ⟨0, kv, Hs, by omega, by rw [List.take_zero, List.map_nil, List.append_nil]; exact hown, .of rfl, rfl⟩ ?_
  rintro N2 fr' H' ⟨i, kv, Hs, hi, hown, hs2, rfl⟩ ih2
  refine GC.weak hs2 ?_
  clear hs2
  refine GC.seq ?_
  refine GC.reg ?_
  refine G.v (V.lt rfl rfl) rfl ?_
  refine G.nil ?_
  refine GC.seq ?_
  refine GC.condD rfl (fun h28 => ?_) (fun h28 => ?_)
  ·refine GC.skip ?_
   refine GC.seq ?_
   refine GC.block ?_
   refine GC.seq ?_
   have hil : i < p.nm.length := by omega
   obtain ⟨c, hcx⟩ : ∃ c, p.nm[i]? = some c := ⟨_, List.getElem?_eq_getElem hil⟩
   have htl : (tks (l.take j) ++ (p.nm.take i).map fun c => (⟨0, c, []⟩ : Tk)).length = (tks (l.take j)).length + i := by
    simp; omega
   have hnx : (tks (l.take j) ++ (p.nm.take (i + 1)).map fun c => (⟨0, c, []⟩ : Tk)) = (tks (l.take j) ++ (p.nm.take i).map fun c => (⟨0, c, []⟩ : Tk)) ++ [⟨0, c, []⟩] := by
    rw [take_snoc hcx]; simp
   refine GC.reg ?_
   refine G.m1 ?_
   refine G.m2 ?_
   refine G.nil ?_
   refine GC.reg ?_
   refine G.m1 ?_
   refine G.v (V.fa F32_1 rfl) rfl ?_
   refine G.v (V.ld (b := pb) (off := 0 + 1) (wf := true) (l := prV p) (T := 32) (fz := (0, 0)) (v := S p.nm) Tryd.isAgg9 rfl (.head _) rfl) rfl ?_
   refine G.m1 ?_
   refine G.v (V.idx (i := i) (b := c) Tryd.underlying9 rfl rfl hcx) rfl ?_
   refine G.v (V.bd (vs := [(1, .int .u8 (c.toNat : Int))]) rfl (fun w1 => bd_tk0 _ w1)) rfl ?_
   refine G.bs (vs := tkV ⟨0, c, []⟩) (BS.three Tryd.underlying72 Tryd.sizeOf75 Tryd.zeroValue75) rfl rfl (fun sb hsb => ?_)
   refine G.app (i := Tryd.t75) (sz := 3) (by_ := 24) Tryd.underlying72 rfl rfl rfl rfl rfl rfl rfl hown (H' := [⟨sb, true, .row (tkV ⟨0, c, []⟩) 75 (0, 0)⟩, ⟨pb, true, .row (prV p) 32 (0, 0)⟩]) (List.perm_append_comm (l₁ := ([⟨sb, true, .row (tkV ⟨0, c, []⟩) 75 (0, 0)⟩, ⟨pb, true, .row (prV p) 32 (0, 0)⟩] : SH))) (src_row (vs := tkV ⟨0, c, []⟩) (r := []) (by rw [List.append_nil]; exact .head _)) rfl (tkV_one _) (by omega) (by omega) (by omega) rfl (fun kv2 Hs2 hown2 => ?_)
   refine G.m2 ?_
   refine G.nil ?_
   refine GC.inBlock ?_
   refine GC.reg ?_
   refine G.v (V.addI (r := ((i + 1 : Nat) : Int)) rfl rfl rfl (by omega) (by omega)) rfl ?_
   refine G.m1 ?_
   refine G.nil ?_
   refine GC.turn (H' := ⟨pb, true, .row (prV p) 32 (0, 0)⟩ :: Hs2) (fun w1 h1 => h1.sub (List.sublist_cons_self _ _)) ?_
   refine ih2 (N2 - 1) _ _ (by omega) ⟨i + 1, kv2, Hs2, by omega, ?_, .of rfl, rfl⟩
   rw [hnx, flatK_app, List.length_append]
   exact hown2
  refine GC.exit rfl ?_
  refine GC.inBlock ?_
  refine GC.reg ?_
  refine G.v (V.addI (r := ((j + 1 : Nat) : Int)) rfl rfl rfl (by omega) (by omega)) rfl ?_
  refine G.m1 ?_
  refine G.nil ?_
  have hie : i = p.nm.length := by omega
  refine GC.turn (H' := Hs) (fun w1 h1 => h1.sub (List.sublist_cons_self _ _)) ?_
  refine ih (N - 1) _ _ (by omega) ⟨j + 1, kv, Hs, by omega, ?_, .of rfl, rfl⟩
  rw [hie, List.take_length] at hown
  rw [hsn]
  exact hown
 refine GC.exit rfl ?_
 refine GC.seq ?_
 refine GC.reg ?_
 refine G.m1 ?_
 refine G.m2 ?_
 refine G.nil ?_
 have hje : j = l.length := by omega
 rw [hje, List.take_length] at hown
 exact GC.ret1 rfl rfl fun w' hw' => ⟨_, _, rfl, hown, hw'⟩
end Go.Proofs
