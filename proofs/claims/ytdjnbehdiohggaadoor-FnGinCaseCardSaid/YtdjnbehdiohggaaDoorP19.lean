/- Lemmas of the walk and plain facts (HxB3 .. HuD2). -/
import Derived.Test.YtdjnbehdiohggaaDoorP18
import Derived.Test.YtdjnbehdiohggaaDoorP01
import Derived.Test.YtdjnbehdiohggaaDoorP17
import Derived.Test.YtdjnbehdiohggaaDoorP12
/- findCaseInsensitivePathRec: the kids by index, where there is no wildcard. Printed by wip/mk_hx5.py. -/
set_option maxRecDepth 20000
namespace Go.Proofs
open Go Bw
open Gt
theorem x59_keepY {R : Ending → World → Prop} {w : World} {D : Nat → Prop} {qb bb cp : Nat} {Ht : SH} {fx : Bool} {c0 : List UInt8} {n : T0} {p cu bl : List UInt8} {rb : UInt8} {nb : Nat} {fr : SF}
  (hn : Rd Ht n nb) (hbl : bl.length = cp) (hbt : bl.take cu.length = cu) (_hpa : ∀ x ∈ p, x.toNat < 128) (_hpl : p.length ≤ 100000) (hLp : n.path.length ≤ p.length) (hnL : Lk n) (_hc0 : c0 <+: cu) (_hHw : ∀ e ∈ Ht, e.w = true) (hsub : Sub [(0, Pt nb 0), (1, S (p.drop n.path.length)), (2, .slice (some ⟨bb, 0, none⟩) cu.length cp), (4, .bool fx), (8, Pt qb 0), (11, I (n.path.length : Nat)), (12, S p)] fr) {i : Nat} {k : T0} (hj : idxOf (rbK n.path rb) n.idx = some i) (hkid : n.kids[i]? = some k)
  (go : LpX fx R w D qb bb cp Ht k (p.drop n.path.length) (rbK n.path rb) cu) :
  GC Tryd.prog ⟨59, Tryd.f59, R, w, D⟩ 606 K59k fr (⟨qb, true, .row (rbR (rbK n.path rb)) 98 (0, 0)⟩ :: ⟨bb, true, .row (bC bl) 5 (0, 0)⟩ :: Ht) := by
 refine GC.weak hsub ?_
 clear hsub
 have hn0 := hn
 cases hn with
 | @mk path idx wild nt pr h full kids _ bs kv hv Hs hm hs hsm hbl2 hh hk =>
 try simp only [n_path] at *
 try simp only [n_idx] at *
 try simp only [n_kids] at *
 try simp only [n_wild] at *
 try simp only [n_h] at *
 have hil : idx.length ≤ 100000 := hnL.1
 have hkil : kids.length ≤ 100000 := hnL.2.1
 obtain ⟨ad, cap, rfl⟩ := hs.slice
 obtain ⟨ad2, l2, c2, rfl, hnn⟩ := hh.slice
 obtain ⟨hjc, hjn⟩ := idxOf_some hj
 have hjl : i < idx.length := (List.getElem?_eq_some_iff.1 hjc).1
 refine GC.seq ?_
 refine GC.reg ?_
 refine G.v (V.iaA (i := 0) Tryd.underlying98 Tryd.sizeOf5 rfl rfl (by decide)) rfl ?_
 refine G.v (V.ld (b := qb) (off := 0 + 0 * 1) (wf := true) (l := rbR (rbK path rb)) (T := 98) (fz := (0, 0)) (v := .int .u8 ((rbK path rb).toNat : Int)) Tryd.isAgg5 rfl (.head _) rfl) rfl ?_
 refine G.m2 ?_
 refine G.nil ?_
 refine GC.seq ?_
 refine GC.reg ?_
 refine G.m1 ?_
 refine G.v (V.nc rfl) rfl ?_
 refine G.v (V.fa F94_1 rfl) rfl ?_
 refine G.v (V.ld (b := nb) (off := 0 + 1) (wf := true) (l := nodeR path idx wild nt pr (.slice ad kids.length cap) (.slice ad2 l2 c2) full) (T := 94) (fz := (0, 0)) (v := S idx) Tryd.isAgg9 rfl (m2 hm) rfl) rfl ?_
 refine G.cvSB Tryd.underlying9 Tryd.underlying44 Tryd.underlying5 rfl rfl (fun tb cpp z fz hrb hcp => ?_)
 refine G.v (V.lenL Tryd.underlying44 rfl) rfl ?_
 refine G.m1 ?_
 refine G.nil ?_
 refine GC.block ?_
 refine GC.loopJ (fun N fr' H' => ∃ j, j + N = i ∧ Sub [(0, Pt nb 0), (1, S (p.drop path.length)), (2, .slice (some ⟨bb, 0, none⟩) cu.length cp), (4, .bool fx), (8, Pt qb 0), (11, I (path.length : Nat)), (12, S p), (15, .int .u8 ((rbK path rb).toNat : Int)), (167, .slice (some ⟨tb, 0, none⟩) idx.length cpp), (168, I (idx.length : Nat)), (169, I (j : Nat))] fr' ∧ H' = ⟨tb, true, .row (bC (idx ++ z)) 5 fz⟩ :: (⟨qb, true, .row (rbR (rbK path rb)) 98 (0, 0)⟩ :: ⟨bb, true, .row (bC bl) 5 (0, 0)⟩ :: Ht)) i
  ⟨0, by omega, .of rfl, rfl⟩ ?_
 rintro N fr' H' ⟨j, hj0, hs2, rfl⟩ ih
 refine GC.weak hs2 ?_
 clear hs2
 refine GC.seq ?_
 refine GC.reg ?_
 refine G.v (V.lt rfl rfl) rfl ?_
 refine G.nil ?_
 refine GC.seq ?_
 refine GC.condD rfl (fun h170 => ?_) (fun h170 => absurd (by omega) h170)
 refine GC.skip ?_
 refine GC.seq ?_
 refine GC.block ?_
 refine GC.seq ?_
 have hql : j < idx.length := by omega
 obtain ⟨y, hy⟩ : ∃ y, idx[j]? = some y := ⟨_, List.getElem?_eq_getElem hql⟩
 refine GC.reg ?_
 refine G.m1 ?_
 refine G.v (V.ia (i := j) Tryd.underlying44 Tryd.sizeOf5 rfl rfl hql) rfl ?_
 refine G.v (V.ld (b := tb) (off := 0 + j * 1) (wf := true) (l := bC (idx ++ z)) (T := 5) (fz := fz) (v := .int .u8 (y.toNat : Int)) Tryd.isAgg5 rfl (.head _) (by rw [nth_eq, Nat.zero_add, Nat.mul_one, bC_app, List.getElem?_append_left (by rw [bC_len]; exact hql)]; simp [bC, Lib.byteCells, hy])) rfl ?_
 refine G.m2 ?_
 refine G.m2 ?_
 refine G.nil ?_
 refine GC.seq ?_
 refine GC.reg ?_
 refine G.m1 ?_
 refine G.m1 ?_
 refine G.v (V.eqI rfl rfl) rfl ?_
 refine G.nil ?_
 refine GC.condD rfl (fun h176 => ?_) (fun h176 => ?_)
 ·refine GC.seq ?_
  have hjj : j = i := by
   have hyx := UInt8.toNat_inj.1 (by have := h176; omega : y.toNat = ((rbK path rb)).toNat)
   rcases Nat.lt_or_ge j i with h | h
   ·exact absurd (by rw [hy, hyx]) (hjn j h)
   ·omega
  subst hjj
  have hkl := (List.getElem?_eq_some_iff.1 hkid).1
  obtain ⟨kb, hkb⟩ : ∃ kb, bs[j]? = some kb := ⟨_, List.getElem?_eq_getElem (by omega)⟩
  have hrk := hk j k kb hkid hkb
  obtain ⟨rw0, cap2, spare, e1, rfl⟩ := hs.at hkl
  cases e1
  have hrbm := hsm _ (.head _)
  refine GC.reg ?_
  refine G.m1 ?_
  refine G.v (V.nc rfl) rfl ?_
  refine G.v (V.fa F94_5 rfl) rfl ?_
  refine G.v (V.ld (b := nb) (off := 0 + 5) (wf := true) (l := nodeR path idx wild nt pr (.slice (some ⟨rw0, 0, none⟩) kids.length cap) (.slice ad2 l2 c2) full) (T := 94) (fz := (0, 0)) (v := (.slice (some ⟨rw0, 0, none⟩) kids.length cap)) Tryd.isAgg90 rfl (m3 hm) rfl) rfl ?_
  refine G.m1 ?_
  refine G.v (V.ia (i := j) Tryd.underlying90 Tryd.sizeOf83 rfl rfl hkl) rfl ?_
  refine G.v (V.ld (b := rw0) (off := 0 + j * 1) (wf := true) (l := bs.map (Pt · 0) ++ spare) (T := 83) (fz := (0, 0)) (v := Pt kb 0) Tryd.isAgg83 rfl (m3 hrbm) (by rw [nth_eq, Nat.zero_add, Nat.mul_one, List.getElem?_append_left (by rw [List.length_map]; omega), List.getElem?_map, hkb]; rfl)) rfl ?_
  refine G.m2 ?_
  refine G.nil ?_
  refine GC.seq ?_
  obtain ⟨kl, khm⟩ := hrk.has
  refine GC.reg ?_
  refine G.m1 ?_
  refine G.v (V.nc rfl) rfl ?_
  refine G.v (V.fa F94_0 rfl) rfl ?_
  refine G.v (V.ld (b := kb) (off := 0 + 0) (wf := true) (l := kl) (T := 94) (fz := (0, 0)) (v := S k.path) Tryd.isAgg9 rfl (m3 khm.1) khm.2) rfl ?_
  refine G.v (V.lenS Tryd.underlying9 rfl) rfl ?_
  refine G.m2 ?_
  refine G.nil ?_
  refine GC.exit rfl ?_
  refine GC.inLoop ?_
  refine GC.turn (H' := (⟨qb, true, .row (rbR (rbK path rb)) 98 (0, 0)⟩ :: ⟨bb, true, .row (bC bl) 5 (0, 0)⟩ :: Ht)) (fun w1 h1 => h1.sub (List.sublist_cons_self _ _)) ?_
  exact go kb bl _ hrk hbl hbt (.of rfl)
 refine GC.skip ?_
 refine GC.inBlock ?_
 refine GC.reg ?_
 refine G.v (V.addI (r := ((j + 1 : Nat) : Int)) rfl rfl rfl (by omega) (by omega)) rfl ?_
 refine G.m1 ?_
 refine G.nil ?_
 have hyx : y ≠ (rbK path rb) := fun e => h176 (by rw [e])
 have hjj : j ≠ i := fun e => hyx (by rw [e, hjc] at hy; exact (Option.some.inj hy).symm)
 exact ih (N - 1) _ _ (by omega) ⟨j + 1, by omega, .of rfl, rfl⟩
theorem x59_keepN {R : Ending → World → Prop} {w : World} {D : Nat → Prop} {qb bb cp : Nat} {Ht : SH} {fx : Bool} {c0 : List UInt8} {n : T0} {p cu bl : List UInt8} {rb : UInt8} {nb : Nat} {fr : SF}
  (hn : Rd Ht n nb) (hbl : bl.length = cp) (hbt : bl.take cu.length = cu) (hpa : ∀ x ∈ p, x.toNat < 128) (hpl : p.length ≤ 100000) (hLp : n.path.length ≤ p.length) (hnL : Lk n) (hc0 : c0 <+: cu) (hHw : ∀ e ∈ Ht, e.w = true) (hsub : Sub [(0, Pt nb 0), (1, S (p.drop n.path.length)), (2, .slice (some ⟨bb, 0, none⟩) cu.length cp), (4, .bool fx), (8, Pt qb 0), (11, I (n.path.length : Nat)), (12, S p)] fr) (hj : idxOf (rbK n.path rb) n.idx = none)
  (fin : Fin59 R w D bb cp Ht c0 (missX fx (p.drop n.path.length) n.h cu)) :
  GC Tryd.prog ⟨59, Tryd.f59, R, w, D⟩ 606 K59k fr (⟨qb, true, .row (rbR (rbK n.path rb)) 98 (0, 0)⟩ :: ⟨bb, true, .row (bC bl) 5 (0, 0)⟩ :: Ht) := by
 refine GC.weak hsub ?_
 clear hsub
 have hn0 := hn
 cases hn with
 | @mk path idx wild nt pr h full kids _ bs kv hv Hs hm hs hsm hbl2 hh hk =>
 try simp only [n_path] at *
 try simp only [n_idx] at *
 try simp only [n_kids] at *
 try simp only [n_wild] at *
 try simp only [n_h] at *
 have hil : idx.length ≤ 100000 := hnL.1
 have hkil : kids.length ≤ 100000 := hnL.2.1
 obtain ⟨ad, cap, rfl⟩ := hs.slice
 obtain ⟨ad2, l2, c2, rfl, hnn⟩ := hh.slice
 have hjn := idxOf_none hj
 refine GC.seq ?_
 refine GC.reg ?_
 refine G.v (V.iaA (i := 0) Tryd.underlying98 Tryd.sizeOf5 rfl rfl (by decide)) rfl ?_
 refine G.v (V.ld (b := qb) (off := 0 + 0 * 1) (wf := true) (l := rbR (rbK path rb)) (T := 98) (fz := (0, 0)) (v := .int .u8 ((rbK path rb).toNat : Int)) Tryd.isAgg5 rfl (.head _) rfl) rfl ?_
 refine G.m2 ?_
 refine G.nil ?_
 refine GC.seq ?_
 refine GC.reg ?_
 refine G.m1 ?_
 refine G.v (V.nc rfl) rfl ?_
 refine G.v (V.fa F94_1 rfl) rfl ?_
 refine G.v (V.ld (b := nb) (off := 0 + 1) (wf := true) (l := nodeR path idx wild nt pr (.slice ad kids.length cap) (.slice ad2 l2 c2) full) (T := 94) (fz := (0, 0)) (v := S idx) Tryd.isAgg9 rfl (m2 hm) rfl) rfl ?_
 refine G.cvSB Tryd.underlying9 Tryd.underlying44 Tryd.underlying5 rfl rfl (fun tb cpp z fz hrb hcp => ?_)
 refine G.v (V.lenL Tryd.underlying44 rfl) rfl ?_
 refine G.m1 ?_
 refine G.nil ?_
 refine GC.block ?_
 refine GC.loopJ (fun N fr' H' => ∃ j, j + N = idx.length ∧ Sub [(0, Pt nb 0), (1, S (p.drop path.length)), (2, .slice (some ⟨bb, 0, none⟩) cu.length cp), (4, .bool fx), (8, Pt qb 0), (11, I (path.length : Nat)), (12, S p), (15, .int .u8 ((rbK path rb).toNat : Int)), (167, .slice (some ⟨tb, 0, none⟩) idx.length cpp), (168, I (idx.length : Nat)), (169, I (j : Nat))] fr' ∧ H' = ⟨tb, true, .row (bC (idx ++ z)) 5 fz⟩ :: (⟨qb, true, .row (rbR (rbK path rb)) 98 (0, 0)⟩ :: ⟨bb, true, .row (bC bl) 5 (0, 0)⟩ :: Ht)) idx.length
  ⟨0, by omega, .of rfl, rfl⟩ ?_
 rintro N fr' H' ⟨j, hj0, hs2, rfl⟩ ih
 refine GC.weak hs2 ?_
 clear hs2
 refine GC.seq ?_
 refine GC.reg ?_
 refine G.v (V.lt rfl rfl) rfl ?_
 refine G.nil ?_
 refine GC.seq ?_
 refine GC.condD rfl (fun h170 => ?_) (fun h170 => ?_)
 ·refine GC.skip ?_
  refine GC.seq ?_
  refine GC.block ?_
  refine GC.seq ?_
  have hql : j < idx.length := by omega
  obtain ⟨y, hy⟩ : ∃ y, idx[j]? = some y := ⟨_, List.getElem?_eq_getElem hql⟩
  refine GC.reg ?_
  refine G.m1 ?_
  refine G.v (V.ia (i := j) Tryd.underlying44 Tryd.sizeOf5 rfl rfl hql) rfl ?_
  refine G.v (V.ld (b := tb) (off := 0 + j * 1) (wf := true) (l := bC (idx ++ z)) (T := 5) (fz := fz) (v := .int .u8 (y.toNat : Int)) Tryd.isAgg5 rfl (.head _) (by rw [nth_eq, Nat.zero_add, Nat.mul_one, bC_app, List.getElem?_append_left (by rw [bC_len]; exact hql)]; simp [bC, Lib.byteCells, hy])) rfl ?_
  refine G.m2 ?_
  refine G.m2 ?_
  refine G.nil ?_
  refine GC.seq ?_
  refine GC.reg ?_
  refine G.m1 ?_
  refine G.m1 ?_
  refine G.v (V.eqI rfl rfl) rfl ?_
  refine G.nil ?_
  refine GC.condD rfl (fun h176 => absurd (by rw [hy, UInt8.toNat_inj.1 (by have := h176; omega : y.toNat = ((rbK path rb)).toNat)]) (hjn j)) (fun h176 => ?_)
  refine GC.skip ?_
  refine GC.inBlock ?_
  refine GC.reg ?_
  refine G.v (V.addI (r := ((j + 1 : Nat) : Int)) rfl rfl rfl (by omega) (by omega)) rfl ?_
  refine G.m1 ?_
  refine G.nil ?_
  exact ih (N - 1) _ _ (by omega) ⟨j + 1, by omega, .of rfl, rfl⟩
 refine GC.exit rfl ?_
 refine GC.turn (H' := (⟨qb, true, .row (rbR (rbK path rb)) 98 (0, 0)⟩ :: ⟨bb, true, .row (bC bl) 5 (0, 0)⟩ :: Ht)) (fun w1 h1 => h1.sub (List.sublist_cons_self _ _)) ?_
 exact x59_miss hn0 hbl hbt hpa hpl hLp hnL hc0 hHw (.of rfl) fin
theorem x59_loY {R : Ending → World → Prop} {w : World} {D : Nat → Prop} {qb bb cp : Nat} {Ht : SH} {fx : Bool} {c0 : List UInt8} {n : T0} {p cu bl : List UInt8} {nb : Nat} {fr : SF}
  (hn : Rd Ht n nb) (hbl : bl.length = cp) (hbt : bl.take cu.length = cu) (_hpa : ∀ x ∈ p, x.toNat < 128) (_hpl : p.length ≤ 100000) (hLp : n.path.length ≤ p.length) (hnL : Lk n) (_hc0 : c0 <+: cu) (hHw : ∀ e ∈ Ht, e.w = true) (hsub : Sub [(0, Pt nb 0), (1, S (p.drop n.path.length)), (2, .slice (some ⟨bb, 0, none⟩) cu.length cp), (4, .bool fx), (8, Pt qb 0), (11, I (n.path.length : Nat)), (12, S p), (18, .int .i32 ((runeK n.path (p.drop n.path.length)).toNat : Int)), (19, I (0 : Nat)), (22, .int .i32 ((lo (runeK n.path (p.drop n.path.length))).toNat : Int)), (23, .int .u8 ((lo (runeK n.path (p.drop n.path.length))).toNat : Int))] fr) {i : Nat} {k : T0} (hj : idxOf (lo (runeK n.path (p.drop n.path.length))) n.idx = some i) (hkid : n.kids[i]? = some k) {res : Option (List UInt8)} (hL : LaidF w D) (hrec : RecX fx bb cp Ht k (p.drop n.path.length) (lo (runeK n.path (p.drop n.path.length))) cu res)
  (gs : ∀ o, res = some o → Fin59 R w D bb cp Ht c0 (some o)) (gn : res = none → ∀ bl' fr', bl'.length = cp → bl'.take cu.length = cu → Sub [(0, Pt nb 0), (1, S (p.drop n.path.length)), (2, .slice (some ⟨bb, 0, none⟩) cu.length cp), (4, .bool fx), (8, Pt qb 0), (11, I (n.path.length : Nat)), (12, S p), (18, .int .i32 ((runeK n.path (p.drop n.path.length)).toNat : Int)), (19, I (0 : Nat)), (22, .int .i32 ((lo (runeK n.path (p.drop n.path.length))).toNat : Int))] fr' → GC Tryd.prog ⟨59, Tryd.f59, R, w, D⟩ 606 K59d fr' (⟨qb, true, .row (rbR (lo (runeK n.path (p.drop n.path.length)))) 98 (0, 0)⟩ :: ⟨bb, true, .row (bC bl') 5 (0, 0)⟩ :: Ht)) :
  GC Tryd.prog ⟨59, Tryd.f59, R, w, D⟩ 606 K59c fr (⟨qb, true, .row (rbR (lo (runeK n.path (p.drop n.path.length)))) 98 (0, 0)⟩ :: ⟨bb, true, .row (bC bl) 5 (0, 0)⟩ :: Ht) := by
 refine GC.weak hsub ?_
 clear hsub
 have hn0 := hn
 cases hn with
 | @mk path idx wild nt pr h full kids _ bs kv hv Hs hm hs hsm hbl2 hh hk =>
 try simp only [n_path] at *
 try simp only [n_idx] at *
 try simp only [n_kids] at *
 try simp only [n_wild] at *
 try simp only [n_h] at *
 have hil : idx.length ≤ 100000 := hnL.1
 have hkil : kids.length ≤ 100000 := hnL.2.1
 obtain ⟨ad, cap, rfl⟩ := hs.slice
 obtain ⟨ad2, l2, c2, rfl, hnn⟩ := hh.slice
 obtain ⟨hjc, hjn⟩ := idxOf_some hj
 have hjl : i < idx.length := (List.getElem?_eq_some_iff.1 hjc).1
 refine GC.seq ?_
 refine GC.seq ?_
 refine GC.reg ?_
 refine G.m1 ?_
 refine G.v (V.nc rfl) rfl ?_
 refine G.v (V.fa F94_1 rfl) rfl ?_
 refine G.v (V.ld (b := nb) (off := 0 + 1) (wf := true) (l := nodeR path idx wild nt pr (.slice ad kids.length cap) (.slice ad2 l2 c2) full) (T := 94) (fz := (0, 0)) (v := S idx) Tryd.isAgg9 rfl (m2 hm) rfl) rfl ?_
 refine G.cvSB Tryd.underlying9 Tryd.underlying44 Tryd.underlying5 rfl rfl (fun tb cpp z fz hrb hcp => ?_)
 refine G.v (V.lenL Tryd.underlying44 rfl) rfl ?_
 refine G.m1 ?_
 refine G.nil ?_
 refine GC.block ?_
 refine GC.loopJ (fun N fr' H' => ∃ j, j + N = i ∧ Sub [(0, Pt nb 0), (1, S (p.drop path.length)), (2, .slice (some ⟨bb, 0, none⟩) cu.length cp), (4, .bool fx), (8, Pt qb 0), (11, I (path.length : Nat)), (12, S p), (18, .int .i32 ((runeK path (p.drop path.length)).toNat : Int)), (19, I (0 : Nat)), (22, .int .i32 ((lo (runeK path (p.drop path.length))).toNat : Int)), (23, .int .u8 ((lo (runeK path (p.drop path.length))).toNat : Int)), (225, .slice (some ⟨tb, 0, none⟩) idx.length cpp), (226, I (idx.length : Nat)), (227, I (j : Nat))] fr' ∧ H' = ⟨tb, true, .row (bC (idx ++ z)) 5 fz⟩ :: (⟨qb, true, .row (rbR (lo (runeK path (p.drop path.length)))) 98 (0, 0)⟩ :: ⟨bb, true, .row (bC bl) 5 (0, 0)⟩ :: Ht)) i
  ⟨0, by omega, .of rfl, rfl⟩ ?_
 rintro N fr' H' ⟨j, hj0, hs2, rfl⟩ ih
 refine GC.weak hs2 ?_
 clear hs2
 refine GC.seq ?_
 refine GC.reg ?_
 refine G.v (V.lt rfl rfl) rfl ?_
 refine G.nil ?_
 refine GC.seq ?_
 refine GC.condD rfl (fun h228 => ?_) (fun h228 => absurd (by omega) h228)
 refine GC.skip ?_
 refine GC.seq ?_
 refine GC.block ?_
 refine GC.seq ?_
 have hql : j < idx.length := by omega
 obtain ⟨y, hy⟩ : ∃ y, idx[j]? = some y := ⟨_, List.getElem?_eq_getElem hql⟩
 refine GC.reg ?_
 refine G.m1 ?_
 refine G.v (V.ia (i := j) Tryd.underlying44 Tryd.sizeOf5 rfl rfl hql) rfl ?_
 refine G.v (V.ld (b := tb) (off := 0 + j * 1) (wf := true) (l := bC (idx ++ z)) (T := 5) (fz := fz) (v := .int .u8 (y.toNat : Int)) Tryd.isAgg5 rfl (.head _) (by rw [nth_eq, Nat.zero_add, Nat.mul_one, bC_app, List.getElem?_append_left (by rw [bC_len]; exact hql)]; simp [bC, Lib.byteCells, hy])) rfl ?_
 refine G.m2 ?_
 refine G.m2 ?_
 refine G.nil ?_
 refine GC.seq ?_
 refine GC.reg ?_
 refine G.m1 ?_
 refine G.m1 ?_
 refine G.v (V.eqI rfl rfl) rfl ?_
 refine G.nil ?_
 refine GC.condD rfl (fun h234 => ?_) (fun h234 => ?_)
 ·refine GC.seq ?_
  refine GC.seq ?_
  have hjj : j = i := by
   have hyx := UInt8.toNat_inj.1 (by have := h234; omega : y.toNat = ((lo (runeK path (p.drop path.length)))).toNat)
   rcases Nat.lt_or_ge j i with h | h
   ·exact absurd (by rw [hy, hyx]) (hjn j h)
   ·omega
  subst hjj
  have hkl := (List.getElem?_eq_some_iff.1 hkid).1
  obtain ⟨kb, hkb⟩ : ∃ kb, bs[j]? = some kb := ⟨_, List.getElem?_eq_getElem (by omega)⟩
  have hrk := hk j k kb hkid hkb
  obtain ⟨rw0, cap2, spare, e1, rfl⟩ := hs.at hkl
  cases e1
  have hrbm := hsm _ (.head _)
  refine GC.regT 11 mixed (by kernel_rfl) rfl rfl ?_
  refine GS.v (V.mv rfl) rfl ?_
  refine GS.v (V.nc rfl) rfl ?_
  refine GS.v (V.fa F94_5 rfl) rfl ?_
  refine GS.v (V.ld (b := nb) (off := 0 + 5) (wf := true) (l := nodeR path idx wild nt pr (.slice (some ⟨rw0, 0, none⟩) kids.length cap) (.slice ad2 l2 c2) full) (T := 94) (fz := (0, 0)) (v := (.slice (some ⟨rw0, 0, none⟩) kids.length cap)) Tryd.isAgg90 rfl (m3 hm) rfl) rfl ?_
  refine GS.v (V.mv rfl) rfl ?_
  refine GS.v (V.ia (i := j) Tryd.underlying90 Tryd.sizeOf83 rfl rfl hkl) rfl ?_
  refine GS.v (V.ld (b := rw0) (off := 0 + j * 1) (wf := true) (l := bs.map (Pt · 0) ++ spare) (T := 83) (fz := (0, 0)) (v := Pt kb 0) Tryd.isAgg83 rfl (m3 hrbm) (by rw [nth_eq, Nat.zero_add, Nat.mul_one, List.getElem?_append_left (by rw [List.length_map]; omega), List.getElem?_map, hkb]; rfl)) rfl ?_
  refine GS.v (V.mv rfl) rfl ?_
  refine GS.v (V.mv rfl) rfl ?_
  refine GS.v (V.ldA (b := qb) (off := 0) (s := 4) (wf := true) (l := rbR (lo (runeK path (p.drop path.length)))) (T := 98) (fz := (0, 0)) (cs := rbR (lo (runeK path (p.drop path.length)))) Tryd.isAgg98 Tryd.sizeOf98 rfl (.tail _ (.head _)) rfl rfl) rfl ?_
  refine GS.v (V.mv rfl) rfl ?_
  refine GS.nil ?_
  refine G.callG (H1 := ⟨bb, true, .row (bC bl) 5 (0, 0)⟩ :: Ht) (Hk := [⟨tb, true, .row (bC (idx ++ z)) 5 fz⟩, ⟨qb, true, .row (rbR (lo (runeK path (p.drop path.length)))) 98 (0, 0)⟩]) (fun v H1' => ∃ bl', v = outV bb cp res ∧ bl'.length = cp ∧ tkO cu res bl' ∧ H1' = ⟨bb, true, .row (bC bl') 5 (0, 0)⟩ :: Ht) ?_ (fun e0 he0 => ?_) Tryd.call59 rfl rfl (fun w1 hw0 hw1 => ?_) ?_
  ·have p1 := perm_idx [[⟨tb, true, .row (bC (idx ++ z)) 5 fz⟩], [⟨qb, true, .row (rbR (lo (runeK path (p.drop path.length)))) 98 (0, 0)⟩], [⟨bb, true, .row (bC bl) 5 (0, 0)⟩], Ht] [0, 1, 2, 3] [2, 3, 0, 1] (by decide)
   simpa using p1
  ·rcases List.mem_cons.1 he0 with rfl | he0
   ·rfl
   ·exact hHw e0 he0
  ·have hL1 := hL.sub hw0 (fun e he => List.mem_cons_of_mem _ (List.mem_cons_of_mem _ he)) (fun e0 he0 => by
    rcases List.mem_cons.1 he0 with rfl | he0
    ·rfl
    ·exact hHw e0 he0)
   refine (hrec w1 _ kb bl hL1 hrk hbl hbt hw1).mono fun e w' ⟨bl', h1, h2, h3, h4⟩ => ⟨_, _, h1, fun e0 he0 => ?_, h4, bl', rfl, h2, h3, rfl⟩
   rcases List.mem_cons.1 he0 with rfl | he0
   ·rfl
   ·exact hHw e0 he0
  rintro v H1' ⟨bl', rfl, hbl', htk', rfl⟩
  refine G.m2 ?_
  refine G.nil ?_
  refine GC.turn (H' := (⟨qb, true, .row (rbR (lo (runeK path (p.drop path.length)))) 98 (0, 0)⟩ :: ⟨bb, true, .row (bC bl') 5 (0, 0)⟩ :: Ht)) (fun w1 h1 => ?_) ?_
  ·have h2 : HF w D (⟨bb, true, .row (bC bl') 5 (0, 0)⟩ :: (Ht ++ [⟨tb, true, .row (bC (idx ++ z)) 5 fz⟩, ⟨qb, true, .row (rbR (lo (runeK path (p.drop path.length)))) 98 (0, 0)⟩])) w1 := h1
   have p1 := perm_idx [[⟨bb, true, .row (bC bl') 5 (0, 0)⟩], Ht, [⟨tb, true, .row (bC (idx ++ z)) 5 fz⟩], [⟨qb, true, .row (rbR (lo (runeK path (p.drop path.length)))) 98 (0, 0)⟩]] [0, 1, 2, 3] [2, 3, 0, 1] (by decide)
   have h3 := h2.perm (H' := ⟨tb, true, .row (bC (idx ++ z)) 5 fz⟩ :: (⟨qb, true, .row (rbR (lo (runeK path (p.drop path.length)))) 98 (0, 0)⟩ :: ⟨bb, true, .row (bC bl') 5 (0, 0)⟩ :: Ht)) (by simpa using p1)
   exact h3.sub (List.sublist_cons_self _ _)
  refine GC.seq ?_
  refine GC.reg ?_
  refine G.m1 ?_
  refine G.v (v := .bool res.isSome) (neL_out Tryd.underlying44 rfl) rfl ?_
  refine G.nil ?_
  refine GC.cond rfl (fun h248 => ?_) (fun h248 => ?_)
  ·refine GC.seq ?_
   refine GC.reg ?_
   refine G.m1 ?_
   refine G.m2 ?_
   refine G.nil ?_
   cases res with
   | none => exact absurd h248 (by decide)
   | some o => exact GC.ret1 rfl rfl fun w' hw' => gs o rfl bl' w' hbl' htk' (hw'.sub (List.sublist_cons_self _ _))
  refine GC.skip ?_
  refine GC.exit rfl ?_
  have hrn : res = none := by cases res with
   | none => rfl
   | some o => exact absurd h248 (by simp)
  subst hrn
  exact gn rfl _ _ hbl' htk' (.of rfl)
 refine GC.skip ?_
 refine GC.inBlock ?_
 refine GC.reg ?_
 refine G.v (V.addI (r := ((j + 1 : Nat) : Int)) rfl rfl rfl (by omega) (by omega)) rfl ?_
 refine G.m1 ?_
 refine G.nil ?_
 have hyx : y ≠ (lo (runeK path (p.drop path.length))) := fun e => h234 (by rw [e])
 have hjj : j ≠ i := fun e => hyx (by rw [e, hjc] at hy; exact (Option.some.inj hy).symm)
 exact ih (N - 1) _ _ (by omega) ⟨j + 1, by omega, .of rfl, rfl⟩
theorem x59_loN {R : Ending → World → Prop} {w : World} {D : Nat → Prop} {qb bb cp : Nat} {Ht : SH} {fx : Bool} {c0 : List UInt8} {n : T0} {p cu bl : List UInt8} {nb : Nat} {fr : SF}
  (hn : Rd Ht n nb) (_hbl : bl.length = cp) (_hbt : bl.take cu.length = cu) (_hpa : ∀ x ∈ p, x.toNat < 128) (_hpl : p.length ≤ 100000) (hLp : n.path.length ≤ p.length) (hnL : Lk n) (_hc0 : c0 <+: cu) (_hHw : ∀ e ∈ Ht, e.w = true) (hsub : Sub [(0, Pt nb 0), (1, S (p.drop n.path.length)), (2, .slice (some ⟨bb, 0, none⟩) cu.length cp), (4, .bool fx), (8, Pt qb 0), (11, I (n.path.length : Nat)), (12, S p), (18, .int .i32 ((runeK n.path (p.drop n.path.length)).toNat : Int)), (19, I (0 : Nat)), (22, .int .i32 ((lo (runeK n.path (p.drop n.path.length))).toNat : Int)), (23, .int .u8 ((lo (runeK n.path (p.drop n.path.length))).toNat : Int))] fr) (hj : idxOf (lo (runeK n.path (p.drop n.path.length))) n.idx = none)
  (gn : ∀ fr', Sub [(0, Pt nb 0), (1, S (p.drop n.path.length)), (2, .slice (some ⟨bb, 0, none⟩) cu.length cp), (4, .bool fx), (8, Pt qb 0), (11, I (n.path.length : Nat)), (12, S p), (18, .int .i32 ((runeK n.path (p.drop n.path.length)).toNat : Int)), (19, I (0 : Nat)), (22, .int .i32 ((lo (runeK n.path (p.drop n.path.length))).toNat : Int))] fr' → GC Tryd.prog ⟨59, Tryd.f59, R, w, D⟩ 606 K59d fr' (⟨qb, true, .row (rbR (lo (runeK n.path (p.drop n.path.length)))) 98 (0, 0)⟩ :: ⟨bb, true, .row (bC bl) 5 (0, 0)⟩ :: Ht)) :
  GC Tryd.prog ⟨59, Tryd.f59, R, w, D⟩ 606 K59c fr (⟨qb, true, .row (rbR (lo (runeK n.path (p.drop n.path.length)))) 98 (0, 0)⟩ :: ⟨bb, true, .row (bC bl) 5 (0, 0)⟩ :: Ht) := by
 refine GC.weak hsub ?_
 clear hsub
 have hn0 := hn
 cases hn with
 | @mk path idx wild nt pr h full kids _ bs kv hv Hs hm hs hsm hbl2 hh hk =>
 try simp only [n_path] at *
 try simp only [n_idx] at *
 try simp only [n_kids] at *
 try simp only [n_wild] at *
 try simp only [n_h] at *
 have hil : idx.length ≤ 100000 := hnL.1
 have hkil : kids.length ≤ 100000 := hnL.2.1
 obtain ⟨ad, cap, rfl⟩ := hs.slice
 obtain ⟨ad2, l2, c2, rfl, hnn⟩ := hh.slice
 have hjn := idxOf_none hj
 refine GC.seq ?_
 refine GC.seq ?_
 refine GC.reg ?_
 refine G.m1 ?_
 refine G.v (V.nc rfl) rfl ?_
 refine G.v (V.fa F94_1 rfl) rfl ?_
 refine G.v (V.ld (b := nb) (off := 0 + 1) (wf := true) (l := nodeR path idx wild nt pr (.slice ad kids.length cap) (.slice ad2 l2 c2) full) (T := 94) (fz := (0, 0)) (v := S idx) Tryd.isAgg9 rfl (m2 hm) rfl) rfl ?_
 refine G.cvSB Tryd.underlying9 Tryd.underlying44 Tryd.underlying5 rfl rfl (fun tb cpp z fz hrb hcp => ?_)
 refine G.v (V.lenL Tryd.underlying44 rfl) rfl ?_
 refine G.m1 ?_
 refine G.nil ?_
 refine GC.block ?_
 refine GC.loopJ (fun N fr' H' => ∃ j, j + N = idx.length ∧ Sub [(0, Pt nb 0), (1, S (p.drop path.length)), (2, .slice (some ⟨bb, 0, none⟩) cu.length cp), (4, .bool fx), (8, Pt qb 0), (11, I (path.length : Nat)), (12, S p), (18, .int .i32 ((runeK path (p.drop path.length)).toNat : Int)), (19, I (0 : Nat)), (22, .int .i32 ((lo (runeK path (p.drop path.length))).toNat : Int)), (23, .int .u8 ((lo (runeK path (p.drop path.length))).toNat : Int)), (225, .slice (some ⟨tb, 0, none⟩) idx.length cpp), (226, I (idx.length : Nat)), (227, I (j : Nat))] fr' ∧ H' = ⟨tb, true, .row (bC (idx ++ z)) 5 fz⟩ :: (⟨qb, true, .row (rbR (lo (runeK path (p.drop path.length)))) 98 (0, 0)⟩ :: ⟨bb, true, .row (bC bl) 5 (0, 0)⟩ :: Ht)) idx.length
  ⟨0, by omega, .of rfl, rfl⟩ ?_
 rintro N fr' H' ⟨j, hj0, hs2, rfl⟩ ih
 refine GC.weak hs2 ?_
 clear hs2
 refine GC.seq ?_
 refine GC.reg ?_
 refine G.v (V.lt rfl rfl) rfl ?_
 refine G.nil ?_
 refine GC.seq ?_
 refine GC.condD rfl (fun h228 => ?_) (fun h228 => ?_)
 ·refine GC.skip ?_
  refine GC.seq ?_
  refine GC.block ?_
  refine GC.seq ?_
  have hql : j < idx.length := by omega
  obtain ⟨y, hy⟩ : ∃ y, idx[j]? = some y := ⟨_, List.getElem?_eq_getElem hql⟩
  refine GC.reg ?_
  refine G.m1 ?_
  refine G.v (V.ia (i := j) Tryd.underlying44 Tryd.sizeOf5 rfl rfl hql) rfl ?_
  refine G.v (V.ld (b := tb) (off := 0 + j * 1) (wf := true) (l := bC (idx ++ z)) (T := 5) (fz := fz) (v := .int .u8 (y.toNat : Int)) Tryd.isAgg5 rfl (.head _) (by rw [nth_eq, Nat.zero_add, Nat.mul_one, bC_app, List.getElem?_append_left (by rw [bC_len]; exact hql)]; simp [bC, Lib.byteCells, hy])) rfl ?_
  refine G.m2 ?_
  refine G.m2 ?_
  refine G.nil ?_
  refine GC.seq ?_
  refine GC.reg ?_
  refine G.m1 ?_
  refine G.m1 ?_
  refine G.v (V.eqI rfl rfl) rfl ?_
  refine G.nil ?_
  refine GC.condD rfl (fun h234 => absurd (by rw [hy, UInt8.toNat_inj.1 (by have := h234; omega : y.toNat = ((lo (runeK path (p.drop path.length)))).toNat)]) (hjn j)) (fun h234 => ?_)
  refine GC.skip ?_
  refine GC.inBlock ?_
  refine GC.reg ?_
  refine G.v (V.addI (r := ((j + 1 : Nat) : Int)) rfl rfl rfl (by omega) (by omega)) rfl ?_
  refine G.m1 ?_
  refine G.nil ?_
  exact ih (N - 1) _ _ (by omega) ⟨j + 1, by omega, .of rfl, rfl⟩
 refine GC.exit rfl ?_
 refine GC.turn (H' := (⟨qb, true, .row (rbR (lo (runeK path (p.drop path.length)))) 98 (0, 0)⟩ :: ⟨bb, true, .row (bC bl) 5 (0, 0)⟩ :: Ht)) (fun w1 h1 => h1.sub (List.sublist_cons_self _ _)) ?_
 exact gn _ (.of rfl)
theorem x59_up0 {R : Ending → World → Prop} {w : World} {D : Nat → Prop} {qb bb cp : Nat} {Ht : SH} {fx : Bool} {c0 : List UInt8} {n : T0} {p cu bl : List UInt8} {nb : Nat} {fr : SF}
  (hn : Rd Ht n nb) (hbl : bl.length = cp) (hbt : bl.take cu.length = cu) (hpa : ∀ x ∈ p, x.toNat < 128) (hpl : p.length ≤ 100000) (hLp : n.path.length ≤ p.length) (hnL : Lk n) (hc0 : c0 <+: cu) (hHw : ∀ e ∈ Ht, e.w = true) (hsub : Sub [(0, Pt nb 0), (1, S (p.drop n.path.length)), (2, .slice (some ⟨bb, 0, none⟩) cu.length cp), (4, .bool fx), (8, Pt qb 0), (11, I (n.path.length : Nat)), (12, S p), (18, .int .i32 ((runeK n.path (p.drop n.path.length)).toNat : Int)), (19, I (0 : Nat)), (22, .int .i32 ((lo (runeK n.path (p.drop n.path.length))).toNat : Int))] fr) (hul : (up (runeK n.path (p.drop n.path.length))) = (lo (runeK n.path (p.drop n.path.length))))
  (fin : Fin59 R w D bb cp Ht c0 (missX fx (p.drop n.path.length) n.h cu)) :
  GC Tryd.prog ⟨59, Tryd.f59, R, w, D⟩ 606 K59d fr (⟨qb, true, .row (rbR (lo (runeK n.path (p.drop n.path.length)))) 98 (0, 0)⟩ :: ⟨bb, true, .row (bC bl) 5 (0, 0)⟩ :: Ht) := by
 refine GC.weak hsub ?_
 clear hsub
 have hn0 := hn
 cases hn with
 | @mk path idx wild nt pr h full kids _ bs kv hv Hs hm hs hsm hbl2 hh hk =>
 try simp only [n_path] at *
 try simp only [n_idx] at *
 try simp only [n_kids] at *
 try simp only [n_wild] at *
 try simp only [n_h] at *
 have hil : idx.length ≤ 100000 := hnL.1
 have hkil : kids.length ≤ 100000 := hnL.2.1
 obtain ⟨ad, cap, rfl⟩ := hs.slice
 obtain ⟨ad2, l2, c2, rfl, hnn⟩ := hh.slice
 have hrl : (runeK path (p.drop path.length)).toNat < 128 := runeK_low fun x hx => hpa x (List.mem_of_mem_drop hx)
 refine GC.seq ?_
 refine GC.reg ?_
 refine G.m1 ?_
 refine G.callP (v := .int .i32 ((up (runeK path (p.drop path.length))).toNat : Int)) Tryd.call76 rfl rfl (fun w1 _ => f76_low w1 _ hrl) ?_
 refine G.m2 ?_
 refine G.nil ?_
 refine GC.seq ?_
 refine GC.reg ?_
 refine G.m1 ?_
 refine G.m1 ?_
 refine G.v (V.neI rfl rfl) rfl ?_
 refine G.nil ?_
 refine GC.cond rfl (fun h255 => absurd h255 (by rw [hul]; simp)) (fun h255 => ?_)
 refine GC.skip ?_
 exact x59_miss hn0 hbl hbt hpa hpl hLp hnL hc0 hHw (.of rfl) fin
theorem x59_upY {R : Ending → World → Prop} {w : World} {D : Nat → Prop} {qb bb cp : Nat} {Ht : SH} {fx : Bool} {c0 : List UInt8} {n : T0} {p cu bl : List UInt8} {nb : Nat} {fr : SF}
  (hn : Rd Ht n nb) (hbl : bl.length = cp) (hbt : bl.take cu.length = cu) (hpa : ∀ x ∈ p, x.toNat < 128) (_hpl : p.length ≤ 100000) (hLp : n.path.length ≤ p.length) (hnL : Lk n) (_hc0 : c0 <+: cu) (_hHw : ∀ e ∈ Ht, e.w = true) (hsub : Sub [(0, Pt nb 0), (1, S (p.drop n.path.length)), (2, .slice (some ⟨bb, 0, none⟩) cu.length cp), (4, .bool fx), (8, Pt qb 0), (11, I (n.path.length : Nat)), (12, S p), (18, .int .i32 ((runeK n.path (p.drop n.path.length)).toNat : Int)), (19, I (0 : Nat)), (22, .int .i32 ((lo (runeK n.path (p.drop n.path.length))).toNat : Int))] fr) {i : Nat} {k : T0} (hj : idxOf (up (runeK n.path (p.drop n.path.length))) n.idx = some i) (hkid : n.kids[i]? = some k) (hul : (up (runeK n.path (p.drop n.path.length))) ≠ (lo (runeK n.path (p.drop n.path.length))))
  (go : LpX fx R w D qb bb cp Ht k (p.drop n.path.length) (up (runeK n.path (p.drop n.path.length))) cu) :
  GC Tryd.prog ⟨59, Tryd.f59, R, w, D⟩ 606 K59d fr (⟨qb, true, .row (rbR (lo (runeK n.path (p.drop n.path.length)))) 98 (0, 0)⟩ :: ⟨bb, true, .row (bC bl) 5 (0, 0)⟩ :: Ht) := by
 refine GC.weak hsub ?_
 clear hsub
 have hn0 := hn
 cases hn with
 | @mk path idx wild nt pr h full kids _ bs kv hv Hs hm hs hsm hbl2 hh hk =>
 try simp only [n_path] at *
 try simp only [n_idx] at *
 try simp only [n_kids] at *
 try simp only [n_wild] at *
 try simp only [n_h] at *
 have hil : idx.length ≤ 100000 := hnL.1
 have hkil : kids.length ≤ 100000 := hnL.2.1
 obtain ⟨ad, cap, rfl⟩ := hs.slice
 obtain ⟨ad2, l2, c2, rfl, hnn⟩ := hh.slice
 have hrl : (runeK path (p.drop path.length)).toNat < 128 := runeK_low fun x hx => hpa x (List.mem_of_mem_drop hx)
 obtain ⟨hjc, hjn⟩ := idxOf_some hj
 have hjl : i < idx.length := (List.getElem?_eq_some_iff.1 hjc).1
 refine GC.seq ?_
 refine GC.reg ?_
 refine G.m1 ?_
 refine G.callP (v := .int .i32 ((up (runeK path (p.drop path.length))).toNat : Int)) Tryd.call76 rfl rfl (fun w1 _ => f76_low w1 _ hrl) ?_
 refine G.m2 ?_
 refine G.nil ?_
 refine GC.seq ?_
 refine GC.reg ?_
 refine G.m1 ?_
 refine G.m1 ?_
 refine G.v (V.neI rfl rfl) rfl ?_
 refine G.nil ?_
 refine GC.cond rfl (fun h255 => ?_) (fun h255 => absurd (UInt8.toNat_inj.1 (by have h := h255; simp at h; omega)) hul)
 refine GC.seq ?_
 refine GC.reg ?_
 refine G.v (V.slAr Tryd.underlying98 Tryd.sizeOf5 rfl) rfl ?_
 refine G.m1 ?_
 refine G.callL (H1 := [⟨qb, true, .row (rbR (lo (runeK path (p.drop path.length)))) 98 (0, 0)⟩]) (Hk := ⟨bb, true, .row (bC bl) 5 (0, 0)⟩ :: Ht) (fun v H1' => v = I 1 ∧ H1' = [⟨qb, true, .row (rbR (up (runeK path (p.drop path.length)))) 98 (0, 0)⟩]) (.of_eq rfl) (fun e0 he0 => by rw [List.mem_singleton.1 he0]) Tryd.call75 rfl rfl (fun w1 hw1 _ => ?_) ?_
 ·exact (c75_any w1 _ (up_low hrl) hw1).mono fun e w' ⟨h1, h2⟩ => ⟨_, _, h1, fun e0 he0 => by rw [List.mem_singleton.1 he0], h2, rfl, rfl⟩
 rintro v H1' ⟨rfl, rfl⟩
 refine G.nil ?_
 refine GC.turn (H' := (⟨qb, true, .row (rbR (up (runeK path (p.drop path.length)))) 98 (0, 0)⟩ :: ⟨bb, true, .row (bC bl) 5 (0, 0)⟩ :: Ht)) (fun w1 h1 => h1) ?_
 refine GC.seq ?_
 refine GC.reg ?_
 refine G.v (V.ldA (b := qb) (off := 0) (s := 4) (wf := true) (l := rbR (up (runeK path (p.drop path.length)))) (T := 98) (fz := (0, 0)) (cs := rbR (up (runeK path (p.drop path.length)))) Tryd.isAgg98 Tryd.sizeOf98 rfl (.head _) rfl rfl) rfl ?_
 refine G.m1 ?_
 refine G.callP (v := .agg (rbR (up (runeK path (p.drop path.length)))).toArray) Tryd.call71 rfl rfl (fun w1 _ => c71_any w1 (up (runeK path (p.drop path.length))) 0) ?_
 refine G.stA (cs := rbR (up (runeK path (p.drop path.length)))) Tryd.sizeOf98 rfl rfl (rbR_one _) .z rfl ?_
 refine G.nil ?_
 refine GC.turn (H' := (⟨qb, true, .row (rbR (up (runeK path (p.drop path.length)))) 98 (0, 0)⟩ :: ⟨bb, true, .row (bC bl) 5 (0, 0)⟩ :: Ht)) (fun w1 h1 => h1) ?_
 refine GC.seq ?_
 refine GC.reg ?_
 refine G.v (V.iaA (i := 0) Tryd.underlying98 Tryd.sizeOf5 rfl rfl (by decide)) rfl ?_
 refine G.v (V.ld (b := qb) (off := 0 + 0 * 1) (wf := true) (l := rbR (up (runeK path (p.drop path.length)))) (T := 98) (fz := (0, 0)) (v := .int .u8 ((up (runeK path (p.drop path.length))).toNat : Int)) Tryd.isAgg5 rfl (.head _) rfl) rfl ?_
 refine G.m2 ?_
 refine G.nil ?_
 refine GC.seq ?_
 refine GC.reg ?_
 refine G.m1 ?_
 refine G.v (V.nc rfl) rfl ?_
 refine G.v (V.fa F94_1 rfl) rfl ?_
 refine G.v (V.ld (b := nb) (off := 0 + 1) (wf := true) (l := nodeR path idx wild nt pr (.slice ad kids.length cap) (.slice ad2 l2 c2) full) (T := 94) (fz := (0, 0)) (v := S idx) Tryd.isAgg9 rfl (m2 hm) rfl) rfl ?_
 refine G.cvSB Tryd.underlying9 Tryd.underlying44 Tryd.underlying5 rfl rfl (fun tb cpp z fz hrb hcp => ?_)
 refine G.v (V.lenL Tryd.underlying44 rfl) rfl ?_
 refine G.m1 ?_
 refine G.nil ?_
 refine GC.block ?_
 refine GC.loopJ (fun N fr' H' => ∃ j, j + N = i ∧ Sub [(0, Pt nb 0), (1, S (p.drop path.length)), (2, .slice (some ⟨bb, 0, none⟩) cu.length cp), (4, .bool fx), (8, Pt qb 0), (11, I (path.length : Nat)), (12, S p), (18, .int .i32 ((runeK path (p.drop path.length)).toNat : Int)), (19, I (0 : Nat)), (22, .int .i32 ((lo (runeK path (p.drop path.length))).toNat : Int)), (27, .int .i32 ((up (runeK path (p.drop path.length))).toNat : Int)), (28, .int .u8 ((up (runeK path (p.drop path.length))).toNat : Int)), (268, .slice (some ⟨tb, 0, none⟩) idx.length cpp), (269, I (idx.length : Nat)), (270, I (j : Nat))] fr' ∧ H' = ⟨tb, true, .row (bC (idx ++ z)) 5 fz⟩ :: (⟨qb, true, .row (rbR (up (runeK path (p.drop path.length)))) 98 (0, 0)⟩ :: ⟨bb, true, .row (bC bl) 5 (0, 0)⟩ :: Ht)) i
  ⟨0, by omega, .of rfl, rfl⟩ ?_
 rintro N fr' H' ⟨j, hj0, hs2, rfl⟩ ih
 refine GC.weak hs2 ?_
 clear hs2
 refine GC.seq ?_
 refine GC.reg ?_
 refine G.v (V.lt rfl rfl) rfl ?_
 refine G.nil ?_
 refine GC.seq ?_
 refine GC.condD rfl (fun h271 => ?_) (fun h271 => absurd (by omega) h271)
 refine GC.skip ?_
 refine GC.seq ?_
 refine GC.block ?_
 refine GC.seq ?_
 have hql : j < idx.length := by omega
 obtain ⟨y, hy⟩ : ∃ y, idx[j]? = some y := ⟨_, List.getElem?_eq_getElem hql⟩
 refine GC.reg ?_
 refine G.m1 ?_
 refine G.v (V.ia (i := j) Tryd.underlying44 Tryd.sizeOf5 rfl rfl hql) rfl ?_
 refine G.v (V.ld (b := tb) (off := 0 + j * 1) (wf := true) (l := bC (idx ++ z)) (T := 5) (fz := fz) (v := .int .u8 (y.toNat : Int)) Tryd.isAgg5 rfl (.head _) (by rw [nth_eq, Nat.zero_add, Nat.mul_one, bC_app, List.getElem?_append_left (by rw [bC_len]; exact hql)]; simp [bC, Lib.byteCells, hy])) rfl ?_
 refine G.m2 ?_
 refine G.m2 ?_
 refine G.nil ?_
 refine GC.seq ?_
 refine GC.reg ?_
 refine G.m1 ?_
 refine G.m1 ?_
 refine G.v (V.eqI rfl rfl) rfl ?_
 refine G.nil ?_
 refine GC.condD rfl (fun h277 => ?_) (fun h277 => ?_)
 ·refine GC.seq ?_
  have hjj : j = i := by
   have hyx := UInt8.toNat_inj.1 (by have := h277; omega : y.toNat = ((up (runeK path (p.drop path.length)))).toNat)
   rcases Nat.lt_or_ge j i with h | h
   ·exact absurd (by rw [hy, hyx]) (hjn j h)
   ·omega
  subst hjj
  have hkl := (List.getElem?_eq_some_iff.1 hkid).1
  obtain ⟨kb, hkb⟩ : ∃ kb, bs[j]? = some kb := ⟨_, List.getElem?_eq_getElem (by omega)⟩
  have hrk := hk j k kb hkid hkb
  obtain ⟨rw0, cap2, spare, e1, rfl⟩ := hs.at hkl
  cases e1
  have hrbm := hsm _ (.head _)
  refine GC.reg ?_
  refine G.m1 ?_
  refine G.v (V.nc rfl) rfl ?_
  refine G.v (V.fa F94_5 rfl) rfl ?_
  refine G.v (V.ld (b := nb) (off := 0 + 5) (wf := true) (l := nodeR path idx wild nt pr (.slice (some ⟨rw0, 0, none⟩) kids.length cap) (.slice ad2 l2 c2) full) (T := 94) (fz := (0, 0)) (v := (.slice (some ⟨rw0, 0, none⟩) kids.length cap)) Tryd.isAgg90 rfl (m3 hm) rfl) rfl ?_
  refine G.m1 ?_
  refine G.v (V.ia (i := j) Tryd.underlying90 Tryd.sizeOf83 rfl rfl hkl) rfl ?_
  refine G.v (V.ld (b := rw0) (off := 0 + j * 1) (wf := true) (l := bs.map (Pt · 0) ++ spare) (T := 83) (fz := (0, 0)) (v := Pt kb 0) Tryd.isAgg83 rfl (m3 hrbm) (by rw [nth_eq, Nat.zero_add, Nat.mul_one, List.getElem?_append_left (by rw [List.length_map]; omega), List.getElem?_map, hkb]; rfl)) rfl ?_
  refine G.m2 ?_
  refine G.nil ?_
  refine GC.seq ?_
  obtain ⟨kl, khm⟩ := hrk.has
  refine GC.reg ?_
  refine G.m1 ?_
  refine G.v (V.nc rfl) rfl ?_
  refine G.v (V.fa F94_0 rfl) rfl ?_
  refine G.v (V.ld (b := kb) (off := 0 + 0) (wf := true) (l := kl) (T := 94) (fz := (0, 0)) (v := S k.path) Tryd.isAgg9 rfl (m3 khm.1) khm.2) rfl ?_
  refine G.v (V.lenS Tryd.underlying9 rfl) rfl ?_
  refine G.m2 ?_
  refine G.nil ?_
  refine GC.exit rfl ?_
  refine GC.inLoop ?_
  refine GC.turn (H' := (⟨qb, true, .row (rbR (up (runeK path (p.drop path.length)))) 98 (0, 0)⟩ :: ⟨bb, true, .row (bC bl) 5 (0, 0)⟩ :: Ht)) (fun w1 h1 => h1.sub (List.sublist_cons_self _ _)) ?_
  exact go kb bl _ hrk hbl hbt (.of rfl)
 refine GC.skip ?_
 refine GC.inBlock ?_
 refine GC.reg ?_
 refine G.v (V.addI (r := ((j + 1 : Nat) : Int)) rfl rfl rfl (by omega) (by omega)) rfl ?_
 refine G.m1 ?_
 refine G.nil ?_
 have hyx : y ≠ (up (runeK path (p.drop path.length))) := fun e => h277 (by rw [e])
 have hjj : j ≠ i := fun e => hyx (by rw [e, hjc] at hy; exact (Option.some.inj hy).symm)
 exact ih (N - 1) _ _ (by omega) ⟨j + 1, by omega, .of rfl, rfl⟩
theorem x59_upN {R : Ending → World → Prop} {w : World} {D : Nat → Prop} {qb bb cp : Nat} {Ht : SH} {fx : Bool} {c0 : List UInt8} {n : T0} {p cu bl : List UInt8} {nb : Nat} {fr : SF}
  (hn : Rd Ht n nb) (hbl : bl.length = cp) (hbt : bl.take cu.length = cu) (hpa : ∀ x ∈ p, x.toNat < 128) (hpl : p.length ≤ 100000) (hLp : n.path.length ≤ p.length) (hnL : Lk n) (hc0 : c0 <+: cu) (hHw : ∀ e ∈ Ht, e.w = true) (hsub : Sub [(0, Pt nb 0), (1, S (p.drop n.path.length)), (2, .slice (some ⟨bb, 0, none⟩) cu.length cp), (4, .bool fx), (8, Pt qb 0), (11, I (n.path.length : Nat)), (12, S p), (18, .int .i32 ((runeK n.path (p.drop n.path.length)).toNat : Int)), (19, I (0 : Nat)), (22, .int .i32 ((lo (runeK n.path (p.drop n.path.length))).toNat : Int))] fr) (hj : idxOf (up (runeK n.path (p.drop n.path.length))) n.idx = none) (hul : (up (runeK n.path (p.drop n.path.length))) ≠ (lo (runeK n.path (p.drop n.path.length))))
  (fin : Fin59 R w D bb cp Ht c0 (missX fx (p.drop n.path.length) n.h cu)) :
  GC Tryd.prog ⟨59, Tryd.f59, R, w, D⟩ 606 K59d fr (⟨qb, true, .row (rbR (lo (runeK n.path (p.drop n.path.length)))) 98 (0, 0)⟩ :: ⟨bb, true, .row (bC bl) 5 (0, 0)⟩ :: Ht) := by
 refine GC.weak hsub ?_
 clear hsub
 have hn0 := hn
 cases hn with
 | @mk path idx wild nt pr h full kids _ bs kv hv Hs hm hs hsm hbl2 hh hk =>
 try simp only [n_path] at *
 try simp only [n_idx] at *
 try simp only [n_kids] at *
 try simp only [n_wild] at *
 try simp only [n_h] at *
 have hil : idx.length ≤ 100000 := hnL.1
 have hkil : kids.length ≤ 100000 := hnL.2.1
 obtain ⟨ad, cap, rfl⟩ := hs.slice
 obtain ⟨ad2, l2, c2, rfl, hnn⟩ := hh.slice
 have hrl : (runeK path (p.drop path.length)).toNat < 128 := runeK_low fun x hx => hpa x (List.mem_of_mem_drop hx)
 have hjn := idxOf_none hj
 refine GC.seq ?_
 refine GC.reg ?_
 refine G.m1 ?_
 refine G.callP (v := .int .i32 ((up (runeK path (p.drop path.length))).toNat : Int)) Tryd.call76 rfl rfl (fun w1 _ => f76_low w1 _ hrl) ?_
 refine G.m2 ?_
 refine G.nil ?_
 refine GC.seq ?_
 refine GC.reg ?_
 refine G.m1 ?_
 refine G.m1 ?_
 refine G.v (V.neI rfl rfl) rfl ?_
 refine G.nil ?_
 refine GC.cond rfl (fun h255 => ?_) (fun h255 => absurd (UInt8.toNat_inj.1 (by have h := h255; simp at h; omega)) hul)
 refine GC.seq ?_
 refine GC.reg ?_
 refine G.v (V.slAr Tryd.underlying98 Tryd.sizeOf5 rfl) rfl ?_
 refine G.m1 ?_
 refine G.callL (H1 := [⟨qb, true, .row (rbR (lo (runeK path (p.drop path.length)))) 98 (0, 0)⟩]) (Hk := ⟨bb, true, .row (bC bl) 5 (0, 0)⟩ :: Ht) (fun v H1' => v = I 1 ∧ H1' = [⟨qb, true, .row (rbR (up (runeK path (p.drop path.length)))) 98 (0, 0)⟩]) (.of_eq rfl) (fun e0 he0 => by rw [List.mem_singleton.1 he0]) Tryd.call75 rfl rfl (fun w1 hw1 _ => ?_) ?_
 ·exact (c75_any w1 _ (up_low hrl) hw1).mono fun e w' ⟨h1, h2⟩ => ⟨_, _, h1, fun e0 he0 => by rw [List.mem_singleton.1 he0], h2, rfl, rfl⟩
 rintro v H1' ⟨rfl, rfl⟩
 refine G.nil ?_
 refine GC.turn (H' := (⟨qb, true, .row (rbR (up (runeK path (p.drop path.length)))) 98 (0, 0)⟩ :: ⟨bb, true, .row (bC bl) 5 (0, 0)⟩ :: Ht)) (fun w1 h1 => h1) ?_
 refine GC.seq ?_
 refine GC.reg ?_
 refine G.v (V.ldA (b := qb) (off := 0) (s := 4) (wf := true) (l := rbR (up (runeK path (p.drop path.length)))) (T := 98) (fz := (0, 0)) (cs := rbR (up (runeK path (p.drop path.length)))) Tryd.isAgg98 Tryd.sizeOf98 rfl (.head _) rfl rfl) rfl ?_
 refine G.m1 ?_
 refine G.callP (v := .agg (rbR (up (runeK path (p.drop path.length)))).toArray) Tryd.call71 rfl rfl (fun w1 _ => c71_any w1 (up (runeK path (p.drop path.length))) 0) ?_
 refine G.stA (cs := rbR (up (runeK path (p.drop path.length)))) Tryd.sizeOf98 rfl rfl (rbR_one _) .z rfl ?_
 refine G.nil ?_
 refine GC.turn (H' := (⟨qb, true, .row (rbR (up (runeK path (p.drop path.length)))) 98 (0, 0)⟩ :: ⟨bb, true, .row (bC bl) 5 (0, 0)⟩ :: Ht)) (fun w1 h1 => h1) ?_
 refine GC.seq ?_
 refine GC.reg ?_
 refine G.v (V.iaA (i := 0) Tryd.underlying98 Tryd.sizeOf5 rfl rfl (by decide)) rfl ?_
 refine G.v (V.ld (b := qb) (off := 0 + 0 * 1) (wf := true) (l := rbR (up (runeK path (p.drop path.length)))) (T := 98) (fz := (0, 0)) (v := .int .u8 ((up (runeK path (p.drop path.length))).toNat : Int)) Tryd.isAgg5 rfl (.head _) rfl) rfl ?_
 refine G.m2 ?_
 refine G.nil ?_
 refine GC.seq ?_
 refine GC.reg ?_
 refine G.m1 ?_
 refine G.v (V.nc rfl) rfl ?_
 refine G.v (V.fa F94_1 rfl) rfl ?_
 refine G.v (V.ld (b := nb) (off := 0 + 1) (wf := true) (l := nodeR path idx wild nt pr (.slice ad kids.length cap) (.slice ad2 l2 c2) full) (T := 94) (fz := (0, 0)) (v := S idx) Tryd.isAgg9 rfl (m2 hm) rfl) rfl ?_
 refine G.cvSB Tryd.underlying9 Tryd.underlying44 Tryd.underlying5 rfl rfl (fun tb cpp z fz hrb hcp => ?_)
 refine G.v (V.lenL Tryd.underlying44 rfl) rfl ?_
 refine G.m1 ?_
 refine G.nil ?_
 refine GC.block ?_
 refine GC.loopJ (fun N fr' H' => ∃ j, j + N = idx.length ∧ Sub [(0, Pt nb 0), (1, S (p.drop path.length)), (2, .slice (some ⟨bb, 0, none⟩) cu.length cp), (4, .bool fx), (8, Pt qb 0), (11, I (path.length : Nat)), (12, S p), (18, .int .i32 ((runeK path (p.drop path.length)).toNat : Int)), (19, I (0 : Nat)), (22, .int .i32 ((lo (runeK path (p.drop path.length))).toNat : Int)), (27, .int .i32 ((up (runeK path (p.drop path.length))).toNat : Int)), (28, .int .u8 ((up (runeK path (p.drop path.length))).toNat : Int)), (268, .slice (some ⟨tb, 0, none⟩) idx.length cpp), (269, I (idx.length : Nat)), (270, I (j : Nat))] fr' ∧ H' = ⟨tb, true, .row (bC (idx ++ z)) 5 fz⟩ :: (⟨qb, true, .row (rbR (up (runeK path (p.drop path.length)))) 98 (0, 0)⟩ :: ⟨bb, true, .row (bC bl) 5 (0, 0)⟩ :: Ht)) idx.length
  ⟨0, by omega, .of rfl, rfl⟩ ?_
 rintro N fr' H' ⟨j, hj0, hs2, rfl⟩ ih
 refine GC.weak hs2 ?_
 clear hs2
 refine GC.seq ?_
 refine GC.reg ?_
 refine G.v (V.lt rfl rfl) rfl ?_
 refine G.nil ?_
 refine GC.seq ?_
 refine GC.condD rfl (fun h271 => ?_) (fun h271 => ?_)
 ·refine GC.skip ?_
  refine GC.seq ?_
  refine GC.block ?_
  refine GC.seq ?_
  have hql : j < idx.length := by omega
  obtain ⟨y, hy⟩ : ∃ y, idx[j]? = some y := ⟨_, List.getElem?_eq_getElem hql⟩
  refine GC.reg ?_
  refine G.m1 ?_
  refine G.v (V.ia (i := j) Tryd.underlying44 Tryd.sizeOf5 rfl rfl hql) rfl ?_
  refine G.v (V.ld (b := tb) (off := 0 + j * 1) (wf := true) (l := bC (idx ++ z)) (T := 5) (fz := fz) (v := .int .u8 (y.toNat : Int)) Tryd.isAgg5 rfl (.head _) (by rw [nth_eq, Nat.zero_add, Nat.mul_one, bC_app, List.getElem?_append_left (by rw [bC_len]; exact hql)]; simp [bC, Lib.byteCells, hy])) rfl ?_
  refine G.m2 ?_
  refine G.m2 ?_
  refine G.nil ?_
  refine GC.seq ?_
  refine GC.reg ?_
  refine G.m1 ?_
  refine G.m1 ?_
  refine G.v (V.eqI rfl rfl) rfl ?_
  refine G.nil ?_
  refine GC.condD rfl (fun h277 => absurd (by rw [hy, UInt8.toNat_inj.1 (by have := h277; omega : y.toNat = ((up (runeK path (p.drop path.length)))).toNat)]) (hjn j)) (fun h277 => ?_)
  refine GC.skip ?_
  refine GC.inBlock ?_
  refine GC.reg ?_
  refine G.v (V.addI (r := ((j + 1 : Nat) : Int)) rfl rfl rfl (by omega) (by omega)) rfl ?_
  refine G.m1 ?_
  refine G.nil ?_
  exact ih (N - 1) _ _ (by omega) ⟨j + 1, by omega, .of rfl, rfl⟩
 refine GC.exit rfl ?_
 refine GC.turn (H' := (⟨qb, true, .row (rbR (up (runeK path (p.drop path.length)))) 98 (0, 0)⟩ :: ⟨bb, true, .row (bC bl) 5 (0, 0)⟩ :: Ht)) (fun w1 h1 => h1.sub (List.sublist_cons_self _ _)) ?_
 exact x59_miss hn0 hbl hbt hpa hpl hLp hnL hc0 hHw (.of rfl) fin
end Go.Proofs

/- findCaseInsensitivePathRec with the wish to fix does what caseC says, at trees of texts alone. Printed by wip/mk_hx6.py. -/
set_option maxRecDepth 20000
namespace Go.Proofs
open Go Bw
open Gt
theorem x59_keep {g : Nat} {res : Option (List UInt8)} {R : Ending → World → Prop} {w : World} {D : Nat → Prop} {qb bb cp : Nat} {Ht : SH} {fx : Bool} {c0 : List UInt8} {n : T0} {p cu bl : List UInt8} {rb : UInt8} {nb : Nat} {fr : SF}
  (hn : Rd Ht n nb) (hbl : bl.length = cp) (hbt : bl.take cu.length = cu) (hpa : ∀ x ∈ p, x.toNat < 128) (hpl : p.length ≤ 100000) (hLp : n.path.length ≤ p.length) (hnL : Lk n) (hc0 : c0 <+: cu) (hHw : ∀ e ∈ Ht, e.w = true) (hsub : Sub [(0, Pt nb 0), (1, S (p.drop n.path.length)), (2, .slice (some ⟨bb, 0, none⟩) cu.length cp), (4, .bool fx), (8, Pt qb 0), (11, I (n.path.length : Nat)), (12, S p)] fr) (hB : ∀ k ∈ n.kids, ∀ (x : UInt8) (r : Option (List UInt8)), caseC Ef fx g k (p.drop n.path.length) x cu = some r → Fin59 R w D bb cp Ht c0 r → LpX fx R w D qb bb cp Ht k (p.drop n.path.length) x cu) (h : lastC (caseC Ef fx g) n.idx n.kids (p.drop n.path.length) cu (missX fx (p.drop n.path.length) n.h cu) (rbK n.path rb) = some res) (fin : Fin59 R w D bb cp Ht c0 res) :
  GC Tryd.prog ⟨59, Tryd.f59, R, w, D⟩ 606 K59k fr (⟨qb, true, .row (rbR (rbK n.path rb)) 98 (0, 0)⟩ :: ⟨bb, true, .row (bC bl) 5 (0, 0)⟩ :: Ht) := by
 unfold lastC at h
 cases hj : idxOf (rbK n.path rb) n.idx with
 | none =>
  simp only [hj] at h
  cases h
  exact x59_keepN hn hbl hbt hpa hpl hLp hnL hc0 hHw hsub hj fin
 | some i =>
  simp only [hj] at h
  cases hkid : n.kids[i]? with
  | none => simp only [hkid] at h; cases h
  | some k =>
   simp only [hkid] at h
   exact x59_keepY hn hbl hbt hpa hpl hLp hnL hc0 hHw hsub hj hkid (hB k (List.mem_of_getElem? hkid) _ _ h fin)
theorem x59_up {g : Nat} {res : Option (List UInt8)} {R : Ending → World → Prop} {w : World} {D : Nat → Prop} {qb bb cp : Nat} {Ht : SH} {fx : Bool} {c0 : List UInt8} {n : T0} {p cu bl : List UInt8} {nb : Nat} {fr : SF}
  (hn : Rd Ht n nb) (hbl : bl.length = cp) (hbt : bl.take cu.length = cu) (hpa : ∀ x ∈ p, x.toNat < 128) (hpl : p.length ≤ 100000) (hLp : n.path.length ≤ p.length) (hnL : Lk n) (hc0 : c0 <+: cu) (hHw : ∀ e ∈ Ht, e.w = true) (hsub : Sub [(0, Pt nb 0), (1, S (p.drop n.path.length)), (2, .slice (some ⟨bb, 0, none⟩) cu.length cp), (4, .bool fx), (8, Pt qb 0), (11, I (n.path.length : Nat)), (12, S p), (18, .int .i32 ((runeK n.path (p.drop n.path.length)).toNat : Int)), (19, I (0 : Nat)), (22, .int .i32 ((lo (runeK n.path (p.drop n.path.length))).toNat : Int))] fr) (hB : ∀ k ∈ n.kids, ∀ (x : UInt8) (r : Option (List UInt8)), caseC Ef fx g k (p.drop n.path.length) x cu = some r → Fin59 R w D bb cp Ht c0 r → LpX fx R w D qb bb cp Ht k (p.drop n.path.length) x cu) (h : (if (up (runeK n.path (p.drop n.path.length))) ≠ (lo (runeK n.path (p.drop n.path.length))) then lastC (caseC Ef fx g) n.idx n.kids (p.drop n.path.length) cu (missX fx (p.drop n.path.length) n.h cu) (up (runeK n.path (p.drop n.path.length))) else some (missX fx (p.drop n.path.length) n.h cu)) = some res) (fin : Fin59 R w D bb cp Ht c0 res) :
  GC Tryd.prog ⟨59, Tryd.f59, R, w, D⟩ 606 K59d fr (⟨qb, true, .row (rbR (lo (runeK n.path (p.drop n.path.length)))) 98 (0, 0)⟩ :: ⟨bb, true, .row (bC bl) 5 (0, 0)⟩ :: Ht) := by
 by_cases hul : (up (runeK n.path (p.drop n.path.length))) = (lo (runeK n.path (p.drop n.path.length)))
 ·rw [if_neg (fun e => e hul)] at h
  cases h
  exact x59_up0 hn hbl hbt hpa hpl hLp hnL hc0 hHw hsub hul fin
 rw [if_pos hul] at h
 unfold lastC at h
 cases hj : idxOf (up (runeK n.path (p.drop n.path.length))) n.idx with
 | none =>
  simp only [hj] at h
  cases h
  exact x59_upN hn hbl hbt hpa hpl hLp hnL hc0 hHw hsub hj hul fin
 | some i =>
  simp only [hj] at h
  cases hkid : n.kids[i]? with
  | none => simp only [hkid] at h; cases h
  | some k =>
   simp only [hkid] at h
   exact x59_upY hn hbl hbt hpa hpl hLp hnL hc0 hHw hsub hj hkid hul (hB k (List.mem_of_getElem? hkid) _ _ h fin)
theorem x59_lo {g : Nat} {res : Option (List UInt8)} {R : Ending → World → Prop} {w : World} {D : Nat → Prop} {qb bb cp : Nat} {Ht : SH} {fx : Bool} {c0 : List UInt8} {n : T0} {p cu bl : List UInt8} {nb : Nat} {fr : SF}
  (hn : Rd Ht n nb) (hbl : bl.length = cp) (hbt : bl.take cu.length = cu) (hpa : ∀ x ∈ p, x.toNat < 128) (hpl : p.length ≤ 100000) (hLp : n.path.length ≤ p.length) (hnL : Lk n) (hc0 : c0 <+: cu) (hHw : ∀ e ∈ Ht, e.w = true) (hsub : Sub [(0, Pt nb 0), (1, S (p.drop n.path.length)), (2, .slice (some ⟨bb, 0, none⟩) cu.length cp), (4, .bool fx), (8, Pt qb 0), (11, I (n.path.length : Nat)), (12, S p), (18, .int .i32 ((runeK n.path (p.drop n.path.length)).toNat : Int)), (19, I (0 : Nat)), (22, .int .i32 ((lo (runeK n.path (p.drop n.path.length))).toNat : Int)), (23, .int .u8 ((lo (runeK n.path (p.drop n.path.length))).toNat : Int))] fr) (hL : LaidF w D) (hB : ∀ k ∈ n.kids, ∀ (x : UInt8) (r : Option (List UInt8)), caseC Ef fx g k (p.drop n.path.length) x cu = some r → Fin59 R w D bb cp Ht c0 r → LpX fx R w D qb bb cp Ht k (p.drop n.path.length) x cu) (hA : ∀ k ∈ n.kids, ∀ (x : UInt8) (r : Option (List UInt8)), caseC Ef fx g k (p.drop n.path.length) x cu = some r → RecX fx bb cp Ht k (p.drop n.path.length) x cu r) {r0 : Option (List UInt8)} (h0 : subC (caseC Ef fx g) n.idx n.kids (p.drop n.path.length) cu (lo (runeK n.path (p.drop n.path.length))) = some r0) (hs : ∀ o, r0 = some o → Fin59 R w D bb cp Ht c0 (some o)) (hn2 : r0 = none → (if (up (runeK n.path (p.drop n.path.length))) ≠ (lo (runeK n.path (p.drop n.path.length))) then lastC (caseC Ef fx g) n.idx n.kids (p.drop n.path.length) cu (missX fx (p.drop n.path.length) n.h cu) (up (runeK n.path (p.drop n.path.length))) else some (missX fx (p.drop n.path.length) n.h cu)) = some res) (fin : r0 = none → Fin59 R w D bb cp Ht c0 res) :
  GC Tryd.prog ⟨59, Tryd.f59, R, w, D⟩ 606 K59c fr (⟨qb, true, .row (rbR (lo (runeK n.path (p.drop n.path.length)))) 98 (0, 0)⟩ :: ⟨bb, true, .row (bC bl) 5 (0, 0)⟩ :: Ht) := by
 unfold subC at h0
 cases hj : idxOf (lo (runeK n.path (p.drop n.path.length))) n.idx with
 | none =>
  simp only [hj] at h0
  cases h0
  exact x59_loN hn hbl hbt hpa hpl hLp hnL hc0 hHw hsub hj fun fr' hs' => x59_up hn hbl hbt hpa hpl hLp hnL hc0 hHw hs' hB (hn2 rfl) (fin rfl)
 | some i =>
  simp only [hj] at h0
  cases hkid : n.kids[i]? with
  | none => simp only [hkid] at h0; cases h0
  | some k =>
   simp only [hkid] at h0
   exact x59_loY hn hbl hbt hpa hpl hLp hnL hc0 hHw hsub hj hkid hL (hA k (List.mem_of_getElem? hkid) _ _ h0) hs fun e bl' fr' hb ht hs' => x59_up hn hb ht hpa hpl hLp hnL hc0 hHw hs' hB (hn2 e) (fin e)
theorem x59_in {fx : Bool} {bb cp : Nat} {Ht : SH} {n : T0} {p : List UInt8} {x : UInt8} {cur : List UInt8} {r : Option (List UInt8)}
  (hB : ∀ (R : Ending → World → Prop) (w : World) (D : Nat → Prop) (qb : Nat), LaidF w D → Fin59 R w D bb cp Ht cur r → LpX fx R w D qb bb cp Ht n p x cur) : RecX fx bb cp Ht n p x cur r := by
 intro w D nb bl hL hn hbl hbt hH
 obtain ⟨kl, hkm⟩ := hn.has
 refine enter D (⟨bb, true, .row (bC bl) 5 (0, 0)⟩ :: Ht) Tryd.func59 rfl Tryd.ntmps59 rfl rfl hH fun c hc => ?_
 subst hc
 refine GC.seq ?_
 refine GC.reg ?_
 refine G.bx (l := rbR x) rfl (by simp [cells_agg, rbR]) rfl (fun qb hqb => ?_)
 refine G.m2 ?_
 refine G.nil ?_
 refine GC.scope ?_
 refine GC.seq ?_
 refine GC.reg ?_
 refine G.m1 ?_
 refine G.v (V.nc rfl) rfl ?_
 refine G.v (V.fa F94_0 rfl) rfl ?_
 refine G.v (V.ld (b := nb) (off := 0 + 0) (wf := true) (l := kl) (T := 94) (fz := (0, 0)) (v := S n.path) Tryd.isAgg9 rfl (m2 hkm.1) hkm.2) rfl ?_
 refine G.v (V.lenS Tryd.underlying9 rfl) rfl ?_
 refine G.m2 ?_
 refine G.nil ?_
 refine GC.seq ?_
 refine GC.label ?_
 refine GC.seq ?_
 refine GC.block ?_
 refine GC.loop ?_
 exact hB _ w D qb hL (fun bl' w' h1 h2 h3 => ⟨bl', rfl, h1, h2, h3⟩) nb bl _ hn hbl hbt (.of rfl)
theorem x59_all (fx : Bool) {bb cp : Nat} {Ht : SH} (hcp : cp ≤ 1000000) (hHw : ∀ e ∈ Ht, e.w = true) : ∀ (g : Nat) (n : T0) (p : List UInt8) (x : UInt8) (cur : List UInt8) (r : Option (List UInt8)), caseC Ef fx g n p x cur = some r → Ln n → Stc n → p ≠ [] → (∀ x ∈ p, x.toNat < 128) → p.length ≤ 100000 → cur.length + p.length + 1 ≤ cp →
  ∀ (R : Ending → World → Prop) (w : World) (D : Nat → Prop) (qb : Nat) (c0 : List UInt8), LaidF w D → c0 <+: cur → Fin59 R w D bb cp Ht c0 r → LpX fx R w D qb bb cp Ht n p x cur
 | 0, _, _, _, _, _, h, _, _, _, _, _, _, _, _, _, _, _, _, _, _ => by cases h
 | g + 1, n, p, x, cur, r, h, hln, hst, hp0, hpa, hpl, hroom, R, w, D, qb, c0, hL, hc0, fin => by
  intro nb bl fr hn hbl hbt hsub
  replace h : caseS Ef fx (caseC Ef fx g) n.path n.idx n.wild n.h n.kids p x cur = some r := h
  unfold caseS at h
  refine x59_head hn hbl hbt hp0 hpa hpl hroom hcp hL hsub hln.path (fun h1 h2 bl1 fr1 hb1 ht1 hs1 => ?_) (fun hm r' hr' => ?_) hc0
  ·rw [if_pos ⟨h1, h2⟩] at h
   dsimp only at h
   have hc1 : c0 <+: cur ++ n.path := hc0.trans (List.prefix_append _ _)
   have hroom1 : (cur ++ n.path).length + (p.drop n.path.length).length + 1 ≤ cp := by rw [List.length_append, List.length_drop]; omega
   have hdl : (p.drop n.path.length).length ≤ 100000 := by rw [List.length_drop]; omega
   have hda : ∀ x ∈ p.drop n.path.length, x.toNat < 128 := fun x hx => hpa x (List.mem_of_mem_drop hx)
   refine x59_a hn hb1 ht1 hpa hpl h1 hln.lk hc1 hHw hs1 (fun hq0 hh => ?_) (fun hq0 hh hf => ?_) (fun hq0 hh hf fr2 hs2 => ?_) (fun hq0 fr2 hs2 => ?_)
   ·rw [if_pos hq0, if_pos hh] at h
    cases h; exact fin
   ·rw [if_pos hq0, if_neg (by rw [hh]; decide), if_neg (by rw [hf]; decide)] at h
    cases h; exact fin
   ·rw [if_pos hq0, if_neg (by rw [hh]; decide), if_pos hf] at h
    cases hj : idxOf 47 n.idx with
    | none =>
     rw [hj] at h
     cases h
     exact x59_sN hn hb1 ht1 hpa hpl h1 hln.lk hc1 hHw hs2 hj fin
    | some i =>
     rw [hj] at h
     simp only at h
     cases hkid : n.kids[i]? with
     | none => rw [hkid] at h; cases h
     | some k =>
      rw [hkid] at h
      have hn3 := (hst.kids k (List.mem_of_getElem? hkid)).1
      simp only at h
      rw [if_neg (fun e => hn3 e.2.1)] at h
      cases h
      exact x59_sY hn hb1 ht1 hpa hpl h1 hln.lk hc1 hHw hs2 hj hkid hn3 (by omega) fin
   rw [if_neg hq0] at h
   have hB : ∀ k ∈ n.kids, ∀ (y : UInt8) (r' : Option (List UInt8)), caseC Ef fx g k (p.drop n.path.length) y (cur ++ n.path) = some r' → Fin59 R w D bb cp Ht c0 r' → LpX fx R w D qb bb cp Ht k (p.drop n.path.length) y (cur ++ n.path) := fun k hk y r' hr hf =>
    x59_all fx hcp hHw g k _ y _ r' hr (hln.lk.2.2 k hk) (hst.kids k hk).2 hq0 hda hdl hroom1 R w D qb c0 hL hc1 hf
   have hA : ∀ k ∈ n.kids, ∀ (y : UInt8) (r' : Option (List UInt8)), caseC Ef fx g k (p.drop n.path.length) y (cur ++ n.path) = some r' → RecX fx bb cp Ht k (p.drop n.path.length) y (cur ++ n.path) r' := fun k hk y r' hr =>
    x59_in fun R w D qb hL2 hf => x59_all fx hcp hHw g k _ y _ r' hr (hln.lk.2.2 k hk) (hst.kids k hk).2 hq0 hda hdl hroom1 R w D qb _ hL2 (List.prefix_refl _) hf
   rw [if_pos hst.wild] at h
   refine x59_nw hn hb1 ht1 hpa hpl h1 hln.lk hc1 hHw hs2 hst.wild hq0 (fun hk fr3 hs3 => ?_) (fun hk fr3 hs3 => ?_)
   ·rw [if_pos hk] at h
    exact x59_keep hn hb1 ht1 hpa hpl h1 hln.lk hc1 hHw hs3 hB h fin
   ·rw [if_neg (fun e => e hk)] at h
    cases h0 : subC (caseC Ef fx g) n.idx n.kids (p.drop n.path.length) (cur ++ n.path) (lo (runeK n.path (p.drop n.path.length))) with
    | none => rw [h0] at h; cases h
    | some r0 =>
     rw [h0] at h
     refine x59_lo hn hb1 ht1 hpa hpl h1 hln.lk hc1 hHw hs3 (res := r) hL hB hA h0 (fun o e => ?_) (fun e => ?_) (fun e => ?_)
     ·subst e; cases h; exact fin
     ·subst e; exact h
     ·exact fin
  ·rw [if_neg hm] at h
   have hr : r = outX fx n.path n.h p cur := by
    unfold outX
    by_cases ha : fx = true ∧ p = [47]
    ·rw [if_pos ha] at h ⊢; cases h; rfl
    ·rw [if_neg ha] at h ⊢; exact (Option.some.inj h).symm
   rw [hr', ← hr]; exact fin
theorem c59_fix {fx : Bool} {bb cp g : Nat} {Ht : SH} (hcp : cp ≤ 1000000) (hHw : ∀ e ∈ Ht, e.w = true) {n : T0} {p : List UInt8} {x : UInt8} {cur : List UInt8} {r : Option (List UInt8)} (h : caseC Ef fx g n p x cur = some r) (hln : Ln n) (hst : Stc n) (hp0 : p ≠ []) (hpa : ∀ x ∈ p, x.toNat < 128) (hpl : p.length ≤ 100000) (hroom : cur.length + p.length + 1 ≤ cp) : RecX fx bb cp Ht n p x cur r :=
 x59_in fun R w D qb hL hf => x59_all fx hcp hHw g n p x cur r h hln hst hp0 hpa hpl hroom R w D qb _ hL (List.prefix_refl _) hf
end Go.Proofs

/- The bytes of a tree's texts are those of its routes. -/
set_option maxRecDepth 20000
namespace Go.Proofs
open Go Bw Gt Gs Tr
end Go.Proofs

/- findCaseInsensitivePath, Fold, the function that GinCase hands on. Printed by wip/mk_hw1.py. -/
set_option maxRecDepth 20000
namespace Go.Proofs
open Go Bw
open Gt
theorem _root_.Bw.V.cvBN {P : Program} {c : Cx} {n : Nat} {fr : SF} {H : SH} {ty src dst e : TypeId} {x : Operand} {l cp : Nat} (hs : P.underlying src = some (.slice e)) (he : P.underlying e = some (.int .u8)) (hd : P.underlying dst = some .string) (hx : ev fr x = some (.slice none l cp)) : Val P c n (.convert src dst x) ty fr H (S []) := by
 intro a w ha hw ds pos aft g
 have h := run_convert_bytes_nil (P := P) w src e hs he l cp dst hd
 simp [execOp, ha.eval hx, h]; rfl
theorem cvOut {c : Cx} {n : Nat} {fr : SF} {H : SH} {ty : TypeId} {x : Operand} {bb cp : Nat} {bl : List UInt8} {r : Option (List UInt8)} (hm : (⟨bb, true, .row (bC bl) 5 (0, 0)⟩ : Ent) ∈ H) (hl : bl.length = cp) (ht : tkO [] r bl) (hx : ev fr x = some (outV bb cp r)) : Val Tryd.prog c n (.convert 44 9 x) ty fr H (S (r.getD [])) := by
 cases r with
 | none => exact V.cvBN Tryd.underlying44 Tryd.underlying5 Tryd.underlying9 hx
 | some o =>
  have h1 : bl.take o.length = o := ht
  have h2 : o.length ≤ bl.length := by rw [← h1, List.length_take]; omega
  have h3 : Val Tryd.prog c n (.convert 44 9 x) ty fr H (S (bl.take o.length)) := V.cvBS Tryd.underlying44 Tryd.underlying5 Tryd.underlying9 hx hm h2
  rw [h1] at h3
  exact h3
end Go.Proofs

/- findCaseInsensitivePath, Fold, the function that GinCase hands on, with the wish to fix. Printed by wip/mk_hx7.py. -/
set_option maxRecDepth 20000
namespace Go.Proofs
open Go Bw
open Gt
theorem c53_fix (w : World) (D : Nat → Prop) {fx : Bool} (hL : LaidF w D) {nb g : Nat} {Ht : SH} {t : T0} {p : List UInt8} {r : Option (List UInt8)} (ht : HT t nb Ht) (hln : Ln t) (hst : Stc t) (hp0 : p ≠ []) (hpa : ∀ x ∈ p, x.toNat < 128) (hpl : p.length ≤ 50000) (hres : caseC Ef fx g t p 0 [] = some r) (hH : HF w D Ht w) : Calls Tryd.prog 53 #[Pt nb 0, S p, .bool fx] w fun e w' => ∃ bb cp bl, e = .returned (.tuple #[outV bb cp r, .bool r.isSome]) ∧ bl.length = cp ∧ tkO [] r bl ∧ HF w D (⟨bb, true, .row (bC bl) 5 (0, 0)⟩ :: Ht) w' := by
 refine enter D (Ht) Tryd.func53 rfl Tryd.ntmps53 rfl rfl hH fun c hc => ?_
 subst hc
 have hmx : (max 128 (p.length + 1)) ≤ 1000000 := by omega
 refine GC.seq ?_
 refine GC.reg ?_
 refine G.m2 ?_
 refine G.m2 ?_
 refine G.nil ?_
 refine GC.seq ?_
 refine GC.reg ?_
 refine G.m1 ?_
 refine G.v (V.lenS Tryd.underlying9 rfl) rfl ?_
 refine G.v (V.addI (r := ((p.length + 1 : Nat) : Int)) rfl rfl rfl (by omega) (by omega)) rfl ?_
 refine G.v (V.maxI (i := 128) (j := p.length + 1) rfl rfl) rfl ?_
 refine G.new (kb := .row (bC (List.replicate (max 128 (p.length + 1)) 0)) 5 (0, 0)) (v := fun b => .slice (some ⟨b, 0, none⟩) 0 (max 128 (p.length + 1))) (fun a w1 ha hw1 => mkB (i5 := Tryd.t5) (l := 0) (z := (max 128 (p.length + 1))) Tryd.underlying44 rfl rfl rfl rfl ha rfl rfl (Nat.zero_le _) (show (max 128 (p.length + 1)) ≤ 100000 by omega)) rfl (fun bb hbb => ?_)
 refine G.m2 ?_
 refine G.nil ?_
 refine GC.seq ?_
 refine GC.reg ?_
 refine G.m1 ?_
 refine G.m1 ?_
 refine G.m1 ?_
 refine G.v (V.bd (vs := []) rfl (fun w1 => bd98 w1)) rfl ?_
 refine G.m1 ?_
 refine G.callG (H1 := ⟨bb, true, .row (bC (List.replicate (max 128 (p.length + 1)) 0)) 5 (0, 0)⟩ :: Ht) (Hk := []) (fun v H1' => ∃ bl', v = outV bb (max 128 (p.length + 1)) r ∧ bl'.length = (max 128 (p.length + 1)) ∧ tkO [] r bl' ∧ H1' = ⟨bb, true, .row (bC bl') 5 (0, 0)⟩ :: Ht) (.of_eq (by simp)) (fun e0 he0 => ?_) Tryd.call59 rfl rfl (fun w1 hw0 hw1 => ?_) ?_
 ·rcases List.mem_cons.1 he0 with rfl | he0
  ·rfl
  ·exact ht.w e0 he0
 ·refine (c59_fix hmx ht.w hres hln hst hp0 hpa (by omega) (by rw [List.length_nil]; omega) w1 _ nb (List.replicate (max 128 (p.length + 1)) 0) (hL.sub hw0 (fun e he => he) (fun e0 he0 => (List.mem_cons.1 he0).elim (fun e => e ▸ rfl) (ht.w e0))) (ht.rd fun e h => h) (by simp) rfl hw1).mono fun e w' ⟨bl', h1, h2, h3, h4⟩ => ⟨_, _, h1, fun e0 he0 => ?_, h4, bl', rfl, h2, h3, rfl⟩
  rcases List.mem_cons.1 he0 with rfl | he0
  ·rfl
  ·exact ht.w e0 he0
 rintro v H1' ⟨bl', rfl, hbl', htk', rfl⟩
 rw [List.append_nil]
 refine G.m2 ?_
 refine G.nil ?_
 refine GC.seq ?_
 refine GC.reg ?_
 refine G.m1 ?_
 refine G.m1 ?_
 refine G.v (v := .bool r.isSome) (neL_out Tryd.underlying44 rfl) rfl ?_
 refine G.m2 ?_
 refine G.m2 ?_
 refine G.nil ?_
 exact GC.ret2 rfl rfl rfl fun w' hw' => ⟨bb, _, bl', rfl, hbl', htk', hw'⟩
theorem c40_fix (w : World) (D : Nat → Prop) {fx : Bool} (hL : LaidF w D) {nb g : Nat} {Ht : SH} {t : T0} {p : List UInt8} {r : Option (List UInt8)} (ht : HT t nb Ht) (hln : Ln t) (hst : Stc t) (hp0 : p ≠ []) (hpa : ∀ x ∈ p, x.toNat < 128) (hpl : p.length ≤ 50000) (hres : caseC Ef fx g t p 0 [] = some r) {tb m s : Nat} (hH : HF w D (⟨tb, true, .row (treeR nb m s) 86 (0, 0)⟩ :: Ht) w) : Calls Tryd.prog 40 #[Pt tb 0, S p, .bool fx] w fun e w' => e = .returned (.tuple #[S (r.getD []), .bool r.isSome]) ∧ HF w D (⟨tb, true, .row (treeR nb m s) 86 (0, 0)⟩ :: Ht) w' := by
 refine enter D (⟨tb, true, .row (treeR nb m s) 86 (0, 0)⟩ :: Ht) Tryd.func40 rfl Tryd.ntmps40 rfl rfl hH fun c hc => ?_
 subst hc
 refine GC.seq ?_
 refine GC.reg ?_
 refine G.m2 ?_
 refine G.m2 ?_
 refine G.nil ?_
 refine GC.seq ?_
 refine GC.reg ?_
 refine G.m1 ?_
 refine G.v (V.nc rfl) rfl ?_
 refine G.v (V.fa F86_0 rfl) rfl ?_
 refine G.v (V.ld (b := tb) (off := 0 + 0) (wf := true) (l := treeR nb m s) (T := 86) (fz := (0, 0)) (v := Pt nb 0) Tryd.isAgg83 rfl (.head _) rfl) rfl ?_
 refine G.m1 ?_
 refine G.m1 ?_
 refine G.callG (H1 := Ht) (Hk := [⟨tb, true, .row (treeR nb m s) 86 (0, 0)⟩]) (fun v H1' => ∃ bb cp bl, v = .tuple #[outV bb cp r, .bool r.isSome] ∧ bl.length = cp ∧ tkO [] r bl ∧ H1' = ⟨bb, true, .row (bC bl) 5 (0, 0)⟩ :: Ht) ?_ ht.w Tryd.call53 rfl rfl (fun w1 hw0 hw1 => ?_) ?_
 ·exact (List.perm_append_comm (l₁ := [⟨tb, true, .row (treeR nb m s) 86 (0, 0)⟩]) (l₂ := Ht))
 ·refine (c53_fix w1 _ (hL.sub hw0 (fun e he => List.mem_cons_of_mem _ he) ht.w) ht hln hst hp0 hpa hpl hres hw1).mono fun e w' ⟨bb, cp, bl, h1, h2, h3, h4⟩ => ⟨_, _, h1, fun e0 he0 => ?_, h4, bb, cp, bl, rfl, h2, h3, rfl⟩
  rcases List.mem_cons.1 he0 with rfl | he0
  ·rfl
  ·exact ht.w e0 he0
 rintro v H1' ⟨bb, cp, bl, rfl, hbl, htk, rfl⟩
 refine G.m1 ?_
 refine G.v (V.ex rfl rfl) rfl ?_
 refine G.v (V.ex rfl rfl) rfl ?_
 refine G.m2 ?_
 refine G.m2 ?_
 refine G.nil ?_
 refine GC.seq ?_
 refine GC.reg ?_
 refine G.m1 ?_
 refine G.v (cvOut (bl := bl) (List.mem_append_left _ (.head _)) hbl htk rfl) rfl ?_
 refine G.m1 ?_
 refine G.m2 ?_
 refine G.m2 ?_
 refine G.nil ?_
 refine GC.ret2 rfl rfl rfl fun w' hw' => ⟨rfl, ?_⟩
 have h2 : HF w D (⟨bb, true, .row (bC bl) 5 (0, 0)⟩ :: (Ht ++ [⟨tb, true, .row (treeR nb m s) 86 (0, 0)⟩])) w' := hw'
 exact (h2.sub (List.sublist_cons_self _ _)).perm (List.perm_append_comm (l₁ := Ht) (l₂ := [⟨tb, true, .row (treeR nb m s) 86 (0, 0)⟩]))
theorem c39_fix (w : World) (D : Nat → Prop) {fx : Bool} (hL : LaidF w D) {nb g : Nat} {Ht : SH} {t : T0} {p : List UInt8} {r : Option (List UInt8)} (ht : HT t nb Ht) (hln : Ln t) (hst : Stc t) (hp0 : p ≠ []) (hpa : ∀ x ∈ p, x.toNat < 128) (hpl : p.length ≤ 50000) (hres : caseC Ef fx g t p 0 [] = some r) {tb m s ca cq cf cs ci : Nat} (hH : HF w D (⟨ca, true, .row [Pt tb 0] 63 (0, 0)⟩ :: ⟨cq, true, .row [S p] 9 (0, 0)⟩ :: ⟨cf, true, .row [.bool fx] 4 (0, 0)⟩ :: ⟨cs, true, .row [S []] 9 (0, 0)⟩ :: ⟨ci, true, .row [.bool false] 4 (0, 0)⟩ :: ⟨tb, true, .row (treeR nb m s) 86 (0, 0)⟩ :: Ht) w) : Calls Tryd.prog 39 #[Pt ca 0, Pt cq 0, Pt cf 0, Pt cs 0, Pt ci 0] w fun e w' => e = .returned (.tuple #[]) ∧ HF w D (⟨ca, true, .row [Pt tb 0] 63 (0, 0)⟩ :: ⟨cq, true, .row [S p] 9 (0, 0)⟩ :: ⟨cf, true, .row [.bool fx] 4 (0, 0)⟩ :: ⟨cs, true, .row [S (r.getD [])] 9 (0, 0)⟩ :: ⟨ci, true, .row [.bool r.isSome] 4 (0, 0)⟩ :: ⟨tb, true, .row (treeR nb m s) 86 (0, 0)⟩ :: Ht) w' := by
 refine enter D (⟨ca, true, .row [Pt tb 0] 63 (0, 0)⟩ :: ⟨cq, true, .row [S p] 9 (0, 0)⟩ :: ⟨cf, true, .row [.bool fx] 4 (0, 0)⟩ :: ⟨cs, true, .row [S []] 9 (0, 0)⟩ :: ⟨ci, true, .row [.bool false] 4 (0, 0)⟩ :: ⟨tb, true, .row (treeR nb m s) 86 (0, 0)⟩ :: Ht) Tryd.func39 rfl Tryd.ntmps39 rfl rfl hH fun c hc => ?_
 subst hc
 refine GC.reg ?_
 refine G.v (V.ld (b := ca) (off := 0) (wf := true) (l := [Pt tb 0]) (T := 63) (fz := (0, 0)) (v := Pt tb 0) Tryd.isAgg63 rfl (.head _) rfl) rfl ?_
 refine G.v (V.ld (b := cq) (off := 0) (wf := true) (l := [S p]) (T := 9) (fz := (0, 0)) (v := S p) Tryd.isAgg9 rfl (.tail _ (.head _)) rfl) rfl ?_
 refine G.v (V.ld (b := cf) (off := 0) (wf := true) (l := [.bool fx]) (T := 4) (fz := (0, 0)) (v := .bool fx) Tryd.isAgg4 rfl (m2 (.head _)) rfl) rfl ?_
 refine G.callG (H1 := ⟨tb, true, .row (treeR nb m s) 86 (0, 0)⟩ :: Ht) (Hk := [⟨ca, true, .row [Pt tb 0] 63 (0, 0)⟩, ⟨cq, true, .row [S p] 9 (0, 0)⟩, ⟨cf, true, .row [.bool fx] 4 (0, 0)⟩, ⟨cs, true, .row [S []] 9 (0, 0)⟩, ⟨ci, true, .row [.bool false] 4 (0, 0)⟩]) (fun v H1' => v = .tuple #[S (r.getD []), .bool r.isSome] ∧ H1' = ⟨tb, true, .row (treeR nb m s) 86 (0, 0)⟩ :: Ht) ?_ (fun e0 he0 => ?_) Tryd.call40 rfl rfl (fun w1 hw0 hw1 => (c40_fix w1 _ (hL.sub hw0 (fun e he => List.mem_append_right [⟨ca, true, .row [Pt tb 0] 63 (0, 0)⟩, ⟨cq, true, .row [S p] 9 (0, 0)⟩, ⟨cf, true, .row [.bool fx] 4 (0, 0)⟩, ⟨cs, true, .row [S []] 9 (0, 0)⟩, ⟨ci, true, .row [.bool false] 4 (0, 0)⟩] he) (fun e0 he0 => (List.mem_cons.1 he0).elim (fun e => e ▸ rfl) (ht.w e0))) ht hln hst hp0 hpa hpl hres hw1).mono fun e w' ⟨h1, h2⟩ => ⟨_, _, h1, fun e0 he0 => ?_, h2, rfl, rfl⟩) ?_
 ·exact (List.perm_append_comm (l₁ := [⟨ca, true, .row [Pt tb 0] 63 (0, 0)⟩, ⟨cq, true, .row [S p] 9 (0, 0)⟩, ⟨cf, true, .row [.bool fx] 4 (0, 0)⟩, ⟨cs, true, .row [S []] 9 (0, 0)⟩, ⟨ci, true, .row [.bool false] 4 (0, 0)⟩]) (l₂ := ⟨tb, true, .row (treeR nb m s) 86 (0, 0)⟩ :: Ht))
 ·rcases List.mem_cons.1 he0 with rfl | he0
  ·rfl
  ·exact ht.w e0 he0
 ·rcases List.mem_cons.1 he0 with rfl | he0
  ·rfl
  ·exact ht.w e0 he0
 rintro v H1' ⟨rfl, rfl⟩
 refine G.turn (H' := ⟨ca, true, .row [Pt tb 0] 63 (0, 0)⟩ :: ⟨cq, true, .row [S p] 9 (0, 0)⟩ :: ⟨cf, true, .row [.bool fx] 4 (0, 0)⟩ :: ⟨cs, true, .row [S []] 9 (0, 0)⟩ :: ⟨ci, true, .row [.bool false] 4 (0, 0)⟩ :: ⟨tb, true, .row (treeR nb m s) 86 (0, 0)⟩ :: Ht) (fun w1 h1 => h1.perm (List.perm_append_comm (l₁ := ⟨tb, true, .row (treeR nb m s) 86 (0, 0)⟩ :: Ht) (l₂ := [⟨ca, true, .row [Pt tb 0] 63 (0, 0)⟩, ⟨cq, true, .row [S p] 9 (0, 0)⟩, ⟨cf, true, .row [.bool fx] 4 (0, 0)⟩, ⟨cs, true, .row [S []] 9 (0, 0)⟩, ⟨ci, true, .row [.bool false] 4 (0, 0)⟩]))) ?_
 refine G.m1 ?_
 refine G.v (V.ex rfl rfl) rfl ?_
 refine G.v (V.ex rfl rfl) rfl ?_
 refine G.st (b := cs) (off := 0) (l := [S []]) (T := 9) (fz := (0, 0)) (v := S (r.getD [])) Tryd.sizeOf9 rfl rfl rfl (.s (.s (.s .z))) rfl rfl ?_
 refine G.st (b := ci) (off := 0) (l := [.bool false]) (T := 4) (fz := (0, 0)) (v := .bool r.isSome) Tryd.sizeOf4 rfl rfl rfl (.s (.s (.s (.s .z)))) rfl rfl ?_
 refine G.nil ?_
 exact GC.end0 rfl fun w' hw' => ⟨rfl, hw'⟩
end Go.Proofs

/- impl.GinCase. Printed by wip/mk_hw2.py. -/
set_option maxRecDepth 20000
namespace Go.Proofs
open Go Bw
open Gt
/-- a query, and what is told of it -/
structure TF where
 q : List UInt8
 r : Option (List UInt8)
end Go.Proofs
