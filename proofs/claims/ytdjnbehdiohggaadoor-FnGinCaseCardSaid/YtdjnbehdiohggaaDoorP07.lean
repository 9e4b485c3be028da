/- Lemmas of the walk and plain facts (HuE4 .. HuE6). -/
import Derived.Test.YtdjnbehdiohggaaDoorP06
import Derived.Test.YtdjnbehdiohggaaDoorP01
/- incrementChildPrio. Printed by wip/mk_gu4.py. -/
set_option maxRecDepth 20000
namespace Go.Proofs
open Go Bw
open Gt
theorem f81_any (w : World) (D : Nat → Prop) (nb pos : Nat) (path idx : List UInt8) (wild : Bool) (nt pr : Nat) (hv : Value) (full : List UInt8) (kv : Value) (kids : List T0) (bs : List Nat) (Hs Hk : SH) (hpos : pos < kids.length) (hidx : pos < idx.length) (hil : idx.length ≤ 1000000) (hkl : kids.length ≤ 1000000) (hs : Own 83 1 kv kids.length (bs.map (Pt · 0)) Hs) (hk : HTs kids bs Hk)
  (hH : HF w D (⟨nb, true, .row (nodeR path idx wild nt pr kv hv full) 94 (0, 0)⟩ :: (Hs ++ Hk)) w) :
  Calls Tryd.prog 64 #[Pt nb 0, I (pos : Int)] w fun e w' => e = .returned (I ((bump idx kids pos).2.2 : Nat)) ∧ ∃ Hs' Hk', Own 83 1 kv kids.length ((moveTo bs pos (bump idx kids pos).2.2).map (Pt · 0)) Hs' ∧ HTs (bump idx kids pos).2.1 (moveTo bs pos (bump idx kids pos).2.2) Hk' ∧ HF w D (⟨nb, true, .row (nodeR path (bump idx kids pos).1 wild nt pr kv hv full) 94 (0, 0)⟩ :: (Hs' ++ Hk')) w' := by
 obtain ⟨rb, cap, spare, rfl, rfl⟩ := hs.at hpos
 have hbl := hk.len
 have hle := hs.le
 obtain ⟨k, hkp⟩ : ∃ k, kids[pos]? = some k := ⟨_, List.getElem?_eq_getElem hpos⟩
 obtain ⟨b, H1, H2, hbp, hkt, hperm, hback⟩ := hk.foc hkp
 cases hkt with
 | @mk kpath kidx kwild knt kpr ko kfull kkids _ kbs kkv khv Ks Kh Kk ks kh kk =>
 refine enter D (⟨b, true, .row (nodeR kpath kidx kwild knt kpr kkv khv kfull) 94 (0, 0)⟩ :: ⟨rb, true, .row (bs.map (Pt · 0) ++ spare) 83 (0, 0)⟩ :: ⟨nb, true, .row (nodeR path idx wild nt pr (.slice (some ⟨rb, 0, none⟩) kids.length cap) hv full) 94 (0, 0)⟩ :: ((Ks ++ (Kh ++ Kk)) ++ H2)) Tryd.func64 rfl Tryd.ntmps64 rfl rfl (hH.perm ?_) fun c hc => ?_
 ·refine List.Perm.trans (.cons _ (.cons _ hperm)) ?_
  exact (List.perm_append_comm (l₁ := ([⟨nb, true, .row (nodeR path idx wild nt pr (.slice (some ⟨rb, 0, none⟩) kids.length cap) hv full) 94 (0, 0)⟩, ⟨rb, true, .row (bs.map (Pt · 0) ++ spare) 83 (0, 0)⟩] : SH)) (l₂ := ([⟨b, true, .row (nodeR kpath kidx kwild knt kpr kkv khv kfull) 94 (0, 0)⟩] : SH))).append_right ((Ks ++ (Kh ++ Kk)) ++ H2) |>.trans ((List.Perm.swap _ _ _).cons _)
 subst hc
 have hrow : ∀ i, ((bs.map (Pt · 0) : List Value) ++ spare)[i]? = if i < kids.length then (bs[i]?).map (Pt · 0) else spare[i - kids.length]? := by
  intro i
  by_cases hi : i < kids.length
  ·rw [if_pos hi, List.getElem?_append_left (by simp [hbl]; exact hi), List.getElem?_map]
  ·rw [if_neg hi, List.getElem?_append_right (by simp [hbl]; omega)]; simp [hbl]
 refine GC.seq ?_
 refine GC.reg ?_
 refine G.m2 ?_
 refine G.nil ?_
 refine GC.seq ?_
 refine GC.reg ?_
 refine G.m1 ?_
 refine G.v (V.nc rfl) rfl ?_
 refine G.v (V.fa F94_5 rfl) rfl ?_
 refine G.v (V.ld (b := nb) (off := 0 + 5) (wf := true) (l := nodeR path idx wild nt pr (.slice (some ⟨rb, 0, none⟩) kids.length cap) hv full) (T := 94) (fz := (0, 0)) (v := (.slice (some ⟨rb, 0, none⟩) kids.length cap)) Tryd.isAgg90 rfl (m2 (.head _)) rfl) rfl ?_
 refine G.m2 ?_
 refine G.nil ?_
 refine GC.seq ?_
 refine GC.reg ?_
 refine G.m1 ?_
 refine G.m1 ?_
 refine G.v (V.ia (i := pos) Tryd.underlying90 Tryd.sizeOf83 rfl rfl hpos) rfl ?_
 refine G.v (V.ld (b := rb) (off := 0 + pos * 1) (wf := true) (l := bs.map (Pt · 0) ++ spare) (T := 83) (fz := (0, 0)) (v := Pt b 0) Tryd.isAgg83 rfl (.tail _ (.head _)) (by rw [nth_eq, Nat.zero_add, Nat.mul_one, hrow, if_pos hpos, hbp]; rfl)) rfl ?_
 refine G.v (V.nc rfl) rfl ?_
 refine G.v (V.fa F94_4 rfl) rfl ?_
 refine G.v (V.ld (b := b) (off := 0 + 4) (wf := true) (l := nodeR kpath kidx kwild knt kpr kkv khv kfull) (T := 94) (fz := (0, 0)) (v := .int .u32 ((kpr % 4294967296 : Nat) : Int)) Tryd.isAgg89 rfl (.head _) rfl) rfl ?_
 refine G.v (V.add rfl rfl) rfl ?_
 rw [wrapU32]
 refine G.v (V.nc rfl) rfl ?_
 refine G.v (V.fa F94_4 rfl) rfl ?_
 refine G.st (b := b) (off := 0 + 4) (l := nodeR kpath kidx kwild knt kpr kkv khv kfull) (T := 94) (fz := (0, 0)) (v := .int .u32 (((kpr + 1) % 4294967296 : Nat) : Int)) Tryd.sizeOf89 rfl rfl rfl (.z) rfl rfl ?_
 refine G.nil ?_
 refine GC.seq ?_
 refine GC.turn (H' := ⟨b, true, .row (nodeR kpath kidx kwild knt (kpr + 1) kkv khv kfull) 94 (0, 0)⟩ :: ⟨rb, true, .row (bs.map (Pt · 0) ++ spare) 83 (0, 0)⟩ :: ⟨nb, true, .row (nodeR path idx wild nt pr (.slice (some ⟨rb, 0, none⟩) kids.length cap) hv full) 94 (0, 0)⟩ :: ((Ks ++ (Kh ++ Kk)) ++ H2)) (fun w1 h1 => h1) ?_
 refine GC.reg ?_
 refine G.m1 ?_
 refine G.m1 ?_
 refine G.v (V.ia (i := pos) Tryd.underlying90 Tryd.sizeOf83 rfl rfl hpos) rfl ?_
 refine G.v (V.ld (b := rb) (off := 0 + pos * 1) (wf := true) (l := bs.map (Pt · 0) ++ spare) (T := 83) (fz := (0, 0)) (v := Pt b 0) Tryd.isAgg83 rfl (.tail _ (.head _)) (by rw [nth_eq, Nat.zero_add, Nat.mul_one, hrow, if_pos hpos, hbp]; rfl)) rfl ?_
 refine G.v (V.nc rfl) rfl ?_
 refine G.v (V.fa F94_4 rfl) rfl ?_
 refine G.v (V.ld (b := b) (off := 0 + 4) (wf := true) (l := nodeR kpath kidx kwild knt (kpr + 1) kkv khv kfull) (T := 94) (fz := (0, 0)) (v := .int .u32 (((kpr + 1) % 4294967296 : Nat) : Int)) Tryd.isAgg89 rfl (.head _) rfl) rfl ?_
 refine G.m2 ?_
 refine G.nil ?_
 refine GC.seq ?_
 obtain ⟨Hk1, hk1, hperm1⟩ := hback _ _ (HT.mk (pr := kpr + 1) ks kh kk)
 refine GC.turn (H' := ⟨rb, true, .row (bs.map (Pt · 0) ++ spare) 83 (0, 0)⟩ :: ⟨nb, true, .row (nodeR path idx wild nt pr (.slice (some ⟨rb, 0, none⟩) kids.length cap) hv full) 94 (0, 0)⟩ :: Hk1) (fun w1 h1 => h1.perm ?_) ?_
 ·refine List.Perm.trans ?_ (.cons _ (.cons _ hperm1.symm))
  exact (List.perm_append_comm (l₁ := ([⟨b, true, .row (nodeR kpath kidx kwild knt (kpr + 1) kkv khv kfull) 94 (0, 0)⟩] : SH)) (l₂ := ([⟨rb, true, .row (bs.map (Pt · 0) ++ spare) 83 (0, 0)⟩, ⟨nb, true, .row (nodeR path idx wild nt pr (.slice (some ⟨rb, 0, none⟩) kids.length cap) hv full) 94 (0, 0)⟩] : SH))).append_right ((Ks ++ (Kh ++ Kk)) ++ H2)
 have hks : kids.modify pos Tr.incr = kids.set pos (.node () kpath kidx kwild knt (kpr + 1) ko kfull kkids) := by
  rw [modify_set _ hkp]; rfl
 rw [← hks] at hk1
 have hk1l := hk1.len
 have hml : (kids.modify pos Tr.incr).length = kids.length := List.length_modify _ _ _
 rw [hml] at hk1l
 obtain ⟨prs, hprs⟩ : ∃ prs, prs = (kids.modify pos Tr.incr).map Tr.pr := ⟨_, rfl⟩
 have hprio : (((kids.modify pos Tr.incr)[pos]?).map Tr.pr).getD 0 = kpr + 1 := by rw [hks, List.getElem?_set_self (by exact hpos)]; rfl
 have hnpl := newPos_le prs (kpr + 1) pos
 have hbump : bump idx kids pos = (if newPos prs (kpr + 1) pos ≠ pos then moveTo idx pos (newPos prs (kpr + 1) pos) else idx, moveTo (kids.modify pos Tr.incr) pos (newPos prs (kpr + 1) pos), newPos prs (kpr + 1) pos) := by
  unfold bump; rw [hprs]; dsimp only; rw [hprio]
 have hmem : ∀ j, j < kids.length → ∃ (b : Nat) (kv hv : Value) (t : T0), bs[j]? = some b ∧ prs[j]? = some t.pr ∧ (⟨b, true, .row (nodeR t.path t.idx t.wild t.nt t.pr kv hv t.full) 94 (0, 0)⟩ : Ent) ∈ Hk1 := by
  intro j hj
  obtain ⟨t, ht⟩ : ∃ t, (kids.modify pos Tr.incr)[j]? = some t := ⟨_, List.getElem?_eq_getElem (by rw [hml]; exact hj)⟩
  obtain ⟨b, kv, hv, h1, h2⟩ := hk1.mem ht
  exact ⟨b, kv, hv, t, h1, by rw [hprs, List.getElem?_map, ht]; rfl, h2⟩
 have hmrow : ∀ j i, j ≤ pos → i < kids.length → (((moveTo bs pos j).map (Pt · 0) : List Value) ++ spare)[i]? = ((moveTo bs pos j)[i]?).map (Pt · 0) := by
  intro j i hj hi
  rw [List.getElem?_append_left (by rw [List.length_map, moveTo_len bs hj (by omega)]; omega), List.getElem?_map]
 refine GC.reg ?_
 refine G.m1 ?_
 refine G.m2 ?_
 refine G.nil ?_
 refine GC.seq ?_
 refine GC.block ?_
 refine GC.loopJ (fun N fr' H' => ∃ j, j = N ∧ j ≤ pos ∧ newPos prs (kpr + 1) pos = newPos prs (kpr + 1) j ∧ Sub [(0, Pt nb 0), (1, I (pos : Int)), (5, (.slice (some ⟨rb, 0, none⟩) kids.length cap)), (6, .int .u32 (((kpr + 1) % 4294967296 : Nat) : Int)), (7, I ((j : Nat) : Int))] fr' ∧ H' = ⟨rb, true, .row ((moveTo bs pos j).map (Pt · 0) ++ spare) 83 (0, 0)⟩ :: ⟨nb, true, .row (nodeR path idx wild nt pr (.slice (some ⟨rb, 0, none⟩) kids.length cap) hv full) 94 (0, 0)⟩ :: Hk1) pos
  ⟨pos, rfl, Nat.le_refl _, rfl, .of rfl, by rw [moveTo_self bs (by omega)]⟩ ?_
 rintro N fr' H' ⟨j, hjN, hjp, hnp, hs5, rfl⟩ ih
 refine GC.weak hs5 ?_
 clear hs5
 refine GC.seq ?_
 refine GC.seq ?_
 refine GC.join (fun fr' H' => ∃ t : Bool, (t = true → 0 < j ∧ newPos prs (kpr + 1) j = newPos prs (kpr + 1) (j - 1)) ∧ (t = false → newPos prs (kpr + 1) j = j) ∧ Sub [(0, Pt nb 0), (1, I (pos : Int)), (5, (.slice (some ⟨rb, 0, none⟩) kids.length cap)), (6, .int .u32 (((kpr + 1) % 4294967296 : Nat) : Int)), (7, I ((j : Nat) : Int)), (43, .bool t)] fr' ∧ H' = ⟨rb, true, .row ((moveTo bs pos j).map (Pt · 0) ++ spare) 83 (0, 0)⟩ :: ⟨nb, true, .row (nodeR path idx wild nt pr (.slice (some ⟨rb, 0, none⟩) kids.length cap) hv full) 94 (0, 0)⟩ :: Hk1) (fun J5 => ?_) ?_
 ·refine GC.reg ?_
  refine G.m1 ?_
  refine G.v (V.gt rfl rfl) rfl ?_
  refine G.m1 ?_
  refine G.bc 32 rfl (fun h32 => ?_) (fun h32 => ?_)
  ·have hj0 : 0 < j := by have := of_decide_eq_true h32; omega
   obtain ⟨b2, kv2, hv2, t2, hb2, hp2, hm2⟩ := hmem (j - 1) (by omega)
   have hnpj : newPos prs (kpr + 1) j = if t2.pr % 4294967296 < (kpr + 1) % 4294967296 then newPos prs (kpr + 1) (j - 1) else j := by
    obtain ⟨q, rfl⟩ : ∃ q, j = q + 1 := ⟨j - 1, by omega⟩
    rw [Nat.add_sub_cancel] at hp2
    conv => lhs; unfold newPos
    rw [List.getD_eq_getElem?_getD, hp2]; rfl
   refine G.m5 ?_
   refine G.m5 ?_
   refine G.vg rfl rfl (V.subI (r := ((j - 1 : Nat) : Int)) rfl rfl (by omega) (by omega) (by omega)) rfl ?_
   refine G.vg rfl rfl (V.ia (i := j - 1) Tryd.underlying90 Tryd.sizeOf83 rfl rfl (by omega)) rfl ?_
   refine G.vg rfl rfl (V.ld (b := rb) (off := 0 + (j - 1) * 1) (wf := true) (l := (moveTo bs pos j).map (Pt · 0) ++ spare) (T := 83) (fz := (0, 0)) (v := Pt b2 0) Tryd.isAgg83 rfl (.head _) (by rw [nth_eq, Nat.zero_add, Nat.mul_one, hmrow j _ hjp (by omega), moveTo_get bs hjp (by omega), if_pos (by omega), hb2]; rfl)) rfl ?_
   refine G.vg rfl rfl (V.nc rfl) rfl ?_
   refine G.vg rfl rfl (V.fa F94_4 rfl) rfl ?_
   refine G.vg rfl rfl (V.ld (b := b2) (off := 0 + 4) (wf := true) (l := nodeR t2.path t2.idx t2.wild t2.nt t2.pr kv2 hv2 t2.full) (T := 94) (fz := (0, 0)) (v := .int .u32 ((t2.pr % 4294967296 : Nat) : Int)) Tryd.isAgg89 rfl (.tail _ (.tail _ hm2)) rfl) rfl ?_
   refine G.m5 ?_
   refine G.vg rfl rfl (V.lt rfl rfl) rfl ?_
   refine G.m3 ?_
   refine G.nil ?_
   refine J5 _ _ ⟨_, fun h => ⟨hj0, ?_⟩, fun h => ?_, .of rfl, rfl⟩
   ·rw [hnpj, if_pos (by have := of_decide_eq_true h; omega)]
   ·rw [hnpj, if_neg (by have := of_decide_eq_false h; omega)]
  ·refine G.s1 ?_
   refine G.s1 ?_
   refine G.s1 ?_
   refine G.s1 ?_
   refine G.s1 ?_
   refine G.s1 ?_
   refine G.s1 ?_
   refine G.s1 ?_
   refine G.s1 ?_
   refine G.s1 ?_
   refine G.m4 ?_
   refine G.nil ?_
   refine J5 _ _ ⟨false, fun h => (by cases h), fun _ => ?_, .of rfl, rfl⟩
   have : j = 0 := by have := of_decide_eq_false h32; omega
   subst this; rfl
 rintro fr' H' ⟨t, ht1, ht2, hs6, rfl⟩
 refine GC.weak hs6 ?_
 clear hs6
 refine GC.cond rfl (fun h43 => ?_) (fun h43 => ?_)
 ·refine GC.skip ?_
  refine GC.seq ?_
  refine GC.block ?_
  obtain ⟨hj0, hnp2⟩ := ht1 h43
  obtain ⟨y, hy⟩ : ∃ y, bs[j - 1]? = some y := ⟨_, List.getElem?_eq_getElem (by omega)⟩
  have hrl : (((moveTo bs pos j).map (Pt · 0) : List Value) ++ spare).length = kids.length + spare.length := by rw [List.length_append, List.length_map, moveTo_len bs hjp (by omega), hbl]
  have hjx : (moveTo bs pos j)[j]? = some b := by rw [moveTo_get bs hjp (by omega), if_neg (by omega), if_pos rfl, hbp]
  have hjy : (moveTo bs pos j)[j - 1]? = some y := by rw [moveTo_get bs hjp (by omega), if_pos (by omega), hy]
  refine GC.join (fun fr' H' => Sub [(0, Pt nb 0), (1, I (pos : Int)), (5, (.slice (some ⟨rb, 0, none⟩) kids.length cap)), (6, .int .u32 (((kpr + 1) % 4294967296 : Nat) : Int)), (7, I ((j : Nat) : Int))] fr' ∧ H' = ⟨rb, true, .row (setL (setL ((moveTo bs pos j).map (Pt · 0) ++ spare) (0 + (j - 1) * 1) (Pt b 0)) (0 + j * 1) (Pt y 0)) 83 (0, 0)⟩ :: ⟨nb, true, .row (nodeR path idx wild nt pr (.slice (some ⟨rb, 0, none⟩) kids.length cap) hv full) 94 (0, 0)⟩ :: Hk1) (fun J7 => ?_) ?_
  ·refine GC.regA (fun _ => True) mixed ?_
   refine GA.p 0 rfl (by kernel_rfl) (fun _ _ => trivial) (fun _ => V.mv rfl) rfl ?_
   refine GA.p 1 rfl (by kernel_rfl) (fun _ _ => trivial) (fun _ => V.mv rfl) rfl ?_
   refine GA.p 2 rfl (by kernel_rfl) (fun _ _ => trivial) (fun _ => V.subI (r := ((j - 1 : Nat) : Int)) rfl rfl (by omega) (by omega) (by omega)) rfl ?_
   refine GA.p 3 rfl (by kernel_rfl) (fun _ _ => trivial) (fun _ => V.mv rfl) rfl ?_
   refine GA.p 4 rfl (by kernel_rfl) (fun _ _ => trivial) (fun _ => V.mv rfl) rfl ?_
   refine GA.p 5 rfl (by kernel_rfl) (fun _ _ => trivial) (fun _ => V.mv rfl) rfl ?_
   refine GA.p 6 rfl (by kernel_rfl) (fun _ _ => trivial) (fun _ => V.mv rfl) rfl ?_
   refine GA.p 7 rfl (by kernel_rfl) (fun _ _ => trivial) (fun _ => V.ia (i := j) Tryd.underlying90 Tryd.sizeOf83 rfl rfl (by omega)) rfl ?_
   refine GA.p 9 rfl (by kernel_rfl) (fun _ _ => trivial) (fun _ => V.mv rfl) rfl ?_
   refine GA.p 10 rfl (by kernel_rfl) (fun _ _ => trivial) (fun _ => V.mv rfl) rfl ?_
   refine GA.p 11 rfl (by kernel_rfl) (fun _ _ => trivial) (fun _ => V.subI (r := ((j - 1 : Nat) : Int)) rfl rfl (by omega) (by omega) (by omega)) rfl ?_
   refine GA.p 12 rfl (by kernel_rfl) (fun _ _ => trivial) (fun _ => V.ia (i := j - 1) Tryd.underlying90 Tryd.sizeOf83 rfl rfl (by omega)) rfl ?_
   refine GA.two 8 13 rfl rfl (by kernel_rfl) ?_ ?_
   ·refine GB.v (V.ld (b := rb) (off := 0 + j * 1) (wf := true) (l := (moveTo bs pos j).map (Pt · 0) ++ spare) (T := 83) (fz := (0, 0)) (v := Pt b 0) Tryd.isAgg83 rfl (.head _) (by rw [nth_eq, Nat.zero_add, Nat.mul_one, hmrow j _ hjp (by omega), hjx]; rfl)) (fun _ _ => trivial) rfl ?_
    refine GA.one 13 rfl (by kernel_rfl) ?_
    refine GB.v (V.ld (b := rb) (off := 0 + (j - 1) * 1) (wf := true) (l := (moveTo bs pos j).map (Pt · 0) ++ spare) (T := 83) (fz := (0, 0)) (v := Pt y 0) Tryd.isAgg83 rfl (.head _) (by rw [nth_eq, Nat.zero_add, Nat.mul_one, hmrow j _ hjp (by omega), hjy]; rfl)) (fun _ _ => trivial) rfl ?_
    refine GA.p 14 rfl (by kernel_rfl) (fun _ _ => trivial) (fun _ => V.ia (i := j - 1) Tryd.underlying90 Tryd.sizeOf83 rfl rfl (by omega)) rfl ?_
    refine GA.one 15 rfl (by kernel_rfl) ?_
    refine GB.st (b := rb) (off := 0 + (j - 1) * 1) (l := (moveTo bs pos j).map (Pt · 0) ++ spare) (T := 83) (fz := (0, 0)) (v := Pt b 0) Tryd.sizeOf83 rfl rfl rfl .z (by rw [nth_eq, List.getElem?_eq_getElem (by rw [hrl]; omega)]; rfl) rfl (fun _ _ => trivial) ?_
    refine GA.p 16 rfl (by kernel_rfl) (fun _ _ => trivial) (fun _ => V.ia (i := j) Tryd.underlying90 Tryd.sizeOf83 rfl rfl (by omega)) rfl ?_
    refine GA.one 17 rfl (by kernel_rfl) ?_
    refine GB.st (b := rb) (off := 0 + j * 1) (T := 83) (fz := (0, 0)) (v := Pt y 0) Tryd.sizeOf83 rfl rfl rfl .z (by rw [nth_eq, setL_eq, List.getElem?_eq_getElem (by rw [List.length_set, hrl]; omega)]; rfl) rfl (fun _ _ => trivial) ?_
    refine GA.done (by kernel_rfl) ?_
    exact J7 _ _ ⟨.of rfl, rfl⟩
   ·refine GB.v (V.ld (b := rb) (off := 0 + (j - 1) * 1) (wf := true) (l := (moveTo bs pos j).map (Pt · 0) ++ spare) (T := 83) (fz := (0, 0)) (v := Pt y 0) Tryd.isAgg83 rfl (.head _) (by rw [nth_eq, Nat.zero_add, Nat.mul_one, hmrow j _ hjp (by omega), hjy]; rfl)) (fun _ _ => trivial) rfl ?_
    refine GA.one 8 rfl (by kernel_rfl) ?_
    refine GB.v (V.ld (b := rb) (off := 0 + j * 1) (wf := true) (l := (moveTo bs pos j).map (Pt · 0) ++ spare) (T := 83) (fz := (0, 0)) (v := Pt b 0) Tryd.isAgg83 rfl (.head _) (by rw [nth_eq, Nat.zero_add, Nat.mul_one, hmrow j _ hjp (by omega), hjx]; rfl)) (fun _ _ => trivial) rfl ?_
    refine GA.p 14 rfl (by kernel_rfl) (fun _ _ => trivial) (fun _ => V.ia (i := j - 1) Tryd.underlying90 Tryd.sizeOf83 rfl rfl (by omega)) rfl ?_
    refine GA.one 15 rfl (by kernel_rfl) ?_
    refine GB.st (b := rb) (off := 0 + (j - 1) * 1) (l := (moveTo bs pos j).map (Pt · 0) ++ spare) (T := 83) (fz := (0, 0)) (v := Pt b 0) Tryd.sizeOf83 rfl rfl rfl .z (by rw [nth_eq, List.getElem?_eq_getElem (by rw [hrl]; omega)]; rfl) rfl (fun _ _ => trivial) ?_
    refine GA.p 16 rfl (by kernel_rfl) (fun _ _ => trivial) (fun _ => V.ia (i := j) Tryd.underlying90 Tryd.sizeOf83 rfl rfl (by omega)) rfl ?_
    refine GA.one 17 rfl (by kernel_rfl) ?_
    refine GB.st (b := rb) (off := 0 + j * 1) (T := 83) (fz := (0, 0)) (v := Pt y 0) Tryd.sizeOf83 rfl rfl rfl .z (by rw [nth_eq, setL_eq, List.getElem?_eq_getElem (by rw [List.length_set, hrl]; omega)]; rfl) rfl (fun _ _ => trivial) ?_
    refine GA.done (by kernel_rfl) ?_
    exact J7 _ _ ⟨.of rfl, rfl⟩
  rintro fr' H' ⟨hs7, rfl⟩
  refine GC.weak hs7 ?_
  clear hs7
  have erow : setL (setL ((moveTo bs pos j).map (Pt · 0) ++ spare) (0 + (j - 1) * 1) (Pt b 0)) (0 + j * 1) (Pt y 0) = (moveTo bs pos (j - 1)).map (Pt · 0) ++ spare := by
   rw [setL_eq, setL_eq, Nat.zero_add, Nat.zero_add, Nat.mul_one, Nat.mul_one, ← moveTo_swap bs hj0 hjp (by omega) hbp hy]
   have hml2 : ((moveTo bs pos j).map (Pt · 0) : List Value).length = bs.length := by rw [List.length_map, moveTo_len bs hjp (by omega)]
   rw [List.set_append_left _ _ (by rw [hml2]; omega), List.set_append_left _ _ (by rw [List.length_set, hml2]; omega), List.map_set, List.map_set]
  rw [erow]
  refine GC.inBlock ?_
  refine GC.reg ?_
  refine G.m1 ?_
  refine G.v (V.subI (r := ((j - 1 : Nat) : Int)) rfl rfl (by omega) (by omega) (by omega)) rfl ?_
  refine G.m2 ?_
  refine G.nil ?_
  exact ih (j - 1) _ _ (by omega) ⟨j - 1, rfl, by omega, by rw [hnp, hnp2], .of rfl, rfl⟩
 refine GC.exit rfl ?_
 refine GC.seq ?_
 refine GC.seq ?_
 have hnpe : newPos prs (kpr + 1) pos = j := by rw [hnp]; exact ht2 (by simpa using h43)
 refine GC.reg ?_
 refine G.m1 ?_
 refine G.m1 ?_
 refine G.v (V.neI rfl rfl) rfl ?_
 refine G.nil ?_
 refine GC.cond rfl (fun h64 => ?_) (fun h64 => ?_)
 ·have hne : j ≠ pos := fun e => by rw [e] at h64; simp at h64
  refine GC.regT 32 mixed (by kernel_rfl) rfl rfl ?_
  refine GS.v (V.mv rfl) rfl ?_
  refine GS.v (V.mv rfl) rfl ?_
  refine GS.v (V.nc rfl) rfl ?_
  refine GS.v (V.fa F94_1 rfl) rfl ?_
  refine GS.v (V.ld (b := nb) (off := 0 + 1) (wf := true) (l := nodeR path idx wild nt pr (.slice (some ⟨rb, 0, none⟩) kids.length cap) hv full) (T := 94) (fz := (0, 0)) (v := S idx) Tryd.isAgg9 rfl (.tail _ (.head _)) rfl) rfl ?_
  refine GS.v (V.mv rfl) rfl ?_
  refine GS.v (V.slH (j := j) Tryd.underlying9 rfl rfl (by omega)) rfl ?_
  refine GS.v (V.mv rfl) rfl ?_
  refine GS.v (V.nc rfl) rfl ?_
  refine GS.v (V.fa F94_1 rfl) rfl ?_
  refine GS.v (V.ld (b := nb) (off := 0 + 1) (wf := true) (l := nodeR path idx wild nt pr (.slice (some ⟨rb, 0, none⟩) kids.length cap) hv full) (T := 94) (fz := (0, 0)) (v := S idx) Tryd.isAgg9 rfl (.tail _ (.head _)) rfl) rfl ?_
  refine GS.v (V.mv rfl) rfl ?_
  refine GS.v (V.mv rfl) rfl ?_
  refine GS.v (V.addI (r := ((pos + 1 : Nat) : Int)) rfl rfl rfl (by omega) (by omega)) rfl ?_
  refine GS.v (V.slLHe (i := pos) (j := pos + 1) (l' := (idx.drop pos).take 1) Tryd.underlying9 rfl rfl rfl (by omega) (by omega) (by rw [List.take_drop, Nat.add_comm])) rfl ?_
  refine GS.v (V.cat rfl rfl (by simp; omega)) rfl ?_
  refine GS.v (V.mv rfl) rfl ?_
  refine GS.v (V.nc rfl) rfl ?_
  refine GS.v (V.fa F94_1 rfl) rfl ?_
  refine GS.v (V.ld (b := nb) (off := 0 + 1) (wf := true) (l := nodeR path idx wild nt pr (.slice (some ⟨rb, 0, none⟩) kids.length cap) hv full) (T := 94) (fz := (0, 0)) (v := S idx) Tryd.isAgg9 rfl (.tail _ (.head _)) rfl) rfl ?_
  refine GS.v (V.mv rfl) rfl ?_
  refine GS.v (V.mv rfl) rfl ?_
  refine GS.v (V.slLH (i := j) (j := pos) Tryd.underlying9 rfl rfl rfl (by omega) (by omega)) rfl ?_
  refine GS.v (V.cat rfl rfl (by simp; omega)) rfl ?_
  refine GS.v (V.mv rfl) rfl ?_
  refine GS.v (V.nc rfl) rfl ?_
  refine GS.v (V.fa F94_1 rfl) rfl ?_
  refine GS.v (V.ld (b := nb) (off := 0 + 1) (wf := true) (l := nodeR path idx wild nt pr (.slice (some ⟨rb, 0, none⟩) kids.length cap) hv full) (T := 94) (fz := (0, 0)) (v := S idx) Tryd.isAgg9 rfl (.tail _ (.head _)) rfl) rfl ?_
  refine GS.v (V.mv rfl) rfl ?_
  refine GS.v (V.addI (r := ((pos + 1 : Nat) : Int)) rfl rfl rfl (by omega) (by omega)) rfl ?_
  refine GS.v (V.slL (i := pos + 1) Tryd.underlying9 rfl rfl (by omega)) rfl ?_
  refine GS.v (V.cat rfl rfl (by simp; omega)) rfl ?_
  refine GS.nil ?_
  refine G.v (V.nc rfl) rfl ?_
  refine G.v (V.fa F94_1 rfl) rfl ?_
  refine G.st (b := nb) (off := 0 + 1) (l := nodeR path idx wild nt pr (.slice (some ⟨rb, 0, none⟩) kids.length cap) hv full) (T := 94) (fz := (0, 0)) (v := S (moveTo idx pos j)) Tryd.sizeOf9 rfl rfl rfl (.s .z) rfl rfl ?_
  refine G.nil ?_
  refine GC.seq ?_
  refine GC.reg ?_
  refine G.m1 ?_
  refine G.m2 ?_
  refine G.nil ?_
  obtain ⟨Hk2, hk2, hperm2⟩ := hk1.move (pos := pos) (np := j) hjp
  refine GC.ret1 rfl rfl fun w' hw' => ⟨by rw [hbump, hnpe], _, Hk2, by rw [hbump, hnpe]; exact Own.turn (ys := (moveTo bs pos j).map (Pt · 0)) hs (by rw [List.length_map, List.length_map, moveTo_len bs hjp (by omega)]), by rw [hbump, hnpe]; exact hk2, ?_⟩
  rw [hbump, hnpe, if_pos hne]
  refine HF.perm hw' ?_
  exact (List.Perm.swap _ _ _).trans (.cons _ (.cons _ hperm2.symm))
 refine GC.skip ?_
 refine GC.seq ?_
 refine GC.reg ?_
 refine G.m1 ?_
 refine G.m2 ?_
 refine G.nil ?_
 obtain ⟨Hk2, hk2, hperm2⟩ := hk1.move (pos := pos) (np := j) hjp
 refine GC.ret1 rfl rfl fun w' hw' => ⟨by rw [hbump, hnpe], _, Hk2, by rw [hbump, hnpe]; exact Own.turn (ys := (moveTo bs pos j).map (Pt · 0)) hs (by rw [List.length_map, List.length_map, moveTo_len bs hjp (by omega)]), by rw [hbump, hnpe]; exact hk2, ?_⟩
 rw [hbump, hnpe, if_neg (by simp at h64; omega)]
 refine HF.perm hw' ?_
 exact (List.Perm.swap _ _ _).trans (.cons _ (.cons _ hperm2.symm))
end Go.Proofs

/- Routes as tokens; their texts; where a text parts from a node's path. No program in sight. -/
namespace Gt
open Gs
inductive Tok where
  | b (c : UInt8) | P (n : List UInt8) | A (n : List UInt8)
deriving DecidableEq
def txt : List Tok → List UInt8
  | [] => []
  | .b c :: s => c :: txt s
  | .P n :: s => 58 :: (n ++ txt s)
  | .A n :: s => 42 :: (n ++ txt s)
def bs (l : List UInt8) : List Tok := l.map .b
def plainB (c : UInt8) : Prop := c ≠ 58 ∧ c ≠ 42
def word (n : List UInt8) : Prop := n ≠ [] ∧ ∀ c ∈ n, c ≠ 47 ∧ c ≠ 58 ∧ c ≠ 42
/-- tokens that may follow; sl: a slash is ahead -/
def Ok : Bool → List Tok → Prop
  | _, [] => True
  | _, .b c :: s => plainB c ∧ Ok (c == 47) s
  | sl, .P n :: s => sl = true ∧ word n ∧ (s = [] ∨ ∃ r, s = .b 47 :: r) ∧ Ok false s
  | sl, .A n :: s => sl = true ∧ word n ∧ s = []
def noA : List Tok → Bool
  | .A _ :: _ => false
  | _ => true
def parts : Tok → Tok → Bool
  | .A _, _ => false
  | .b _, .A _ => false
  | .P _, .A _ => false
  | .P _, .P _ => false
  | .b _, .b _ => true
  | .b _, .P _ => true
  | .P _, .b _ => true
/-- GinApart on tokens -/
def apart : List Tok → List Tok → Bool
  | [], [] => false
  | [], y :: r => noA (y :: r)
  | x :: s, [] => noA (x :: s)
  | x :: s, y :: r => if x = y then apart s r else parts x y
theorem txt_app : ∀ (s r : List Tok), txt (s ++ r) = txt s ++ txt r
  | [], r => rfl
  | .b c :: s, r => by simp [txt, txt_app s r]
  | .P n :: s, r => by simp [txt, txt_app s r]
  | .A n :: s, r => by simp [txt, txt_app s r]
theorem txt_bs : ∀ l : List UInt8, txt (bs l) = l
  | [] => rfl
  | c :: l => by simp only [bs, List.map_cons, txt, List.cons.injEq, true_and]; exact txt_bs l
theorem bs_app (a c : List UInt8) : bs (a ++ c) = bs a ++ bs c := List.map_append
theorem bs_len (a : List UInt8) : (bs a).length = a.length := List.length_map _
theorem parts_comm (x y : Tok) : parts x y = parts y x := by cases x <;> cases y <;> rfl
theorem apart_cons (x : Tok) (s r : List Tok) : apart (x :: s) (x :: r) = apart s r := by simp [apart]
theorem apart_ne {x y : Tok} (h : x ≠ y) (s r : List Tok) : apart (x :: s) (y :: r) = parts x y := by simp [apart, h]
theorem apart_comm : ∀ (s r : List Tok), apart s r = apart r s
  | [], [] => rfl
  | [], y :: r => rfl
  | x :: s, [] => rfl
  | x :: s, y :: r => by
    by_cases h : x = y
    · subst h; rw [apart_cons, apart_cons, apart_comm s r]
    · rw [apart_ne h, apart_ne fun e => h e.symm, parts_comm]
theorem apart_self : ∀ s : List Tok, apart s s = false
  | [] => rfl
  | x :: s => by rw [apart_cons]; exact apart_self s
theorem apart_app (l : List Tok) (s r : List Tok) : apart (l ++ s) (l ++ r) = apart s r := by
  induction l with
  | nil => rfl
  | cons x l ih => rw [List.cons_append, List.cons_append, apart_cons]; exact ih
theorem apart_b {c d : UInt8} (h : c ≠ d) (s r : List Tok) : apart (.b c :: s) (.b d :: r) = true := apart_ne (by simpa using h) s r
theorem apart_bP (c : UInt8) (n : List UInt8) (s r : List Tok) : apart (.b c :: s) (.P n :: r) = true := apart_ne (by simp) s r
theorem apart_PP {m n : List UInt8} (h : m ≠ n) (s r : List Tok) : apart (.P m :: s) (.P n :: r) = false := apart_ne (by simpa using h) s r
/-- where the text of tokens parts from plain bytes -/
theorem lcp_tok : ∀ (p : List UInt8) (s : List Tok), (∀ c ∈ p, plainB c) → ∃ i s', i ≤ p.length ∧ s = bs (p.take i) ++ s' ∧ lcp (txt s) p = i ∧ (txt s).drop i = txt s' ∧ (∀ c, p[i]? = some c → s'.head? ≠ some (.b c))
  | [], s, _ => ⟨0, s, Nat.le_refl _, by simp [bs], lcp_nil' _, rfl, fun c h => by simp at h⟩
  | a :: p, [], _ => ⟨0, [], Nat.zero_le _, by simp [bs], by simp [txt, lcp], rfl, fun c _ => by simp⟩
  | a :: p, .b c :: s, h => by
    by_cases e : c = a
    · subst e
      obtain ⟨i, s', h1, h2, h3, h4, h5⟩ := lcp_tok p s fun x hx => h x (.tail _ hx)
      refine ⟨i + 1, s', by simpa using h1, ?_, ?_, ?_, fun d hd => h5 d (by simpa using hd)⟩
      · simp only [List.take_succ_cons, bs, List.map_cons, List.cons_append, List.cons.injEq, true_and]; exact h2
      · simp only [txt, lcp, if_true, h3]
      · simpa [txt] using h4
    · refine ⟨0, .b c :: s, Nat.zero_le _, by simp [bs], ?_, rfl, fun d hd => ?_⟩
      · simp only [txt, lcp, if_neg e]
      · simp at hd; subst hd; simpa using e
  | a :: p, .P n :: s, h => by
    have ha := (h a (.head _)).1
    refine ⟨0, .P n :: s, Nat.zero_le _, by simp [bs], ?_, rfl, fun d _ => by simp⟩
    simp only [txt, lcp, if_neg fun e : (58 : UInt8) = a => ha e.symm]
  | a :: p, .A n :: s, h => by
    have ha := (h a (.head _)).2
    refine ⟨0, .A n :: s, Nat.zero_le _, by simp [bs], ?_, rfl, fun d _ => by simp⟩
    simp only [txt, lcp, if_neg fun e : (42 : UInt8) = a => ha e.symm]
/-! findWildcard -/
theorem fw_plain : ∀ (p : List UInt8) (i : Nat), (∀ c ∈ p, plainB c) → fw p i = none
  | [], _, _ => rfl
  | c :: p, i, h => by
    have hc := h c (.head _)
    unfold fw
    rw [if_neg (by rintro (e | e); exact hc.1 e; exact hc.2 e)]
    exact fw_plain p _ fun x hx => h x (.tail _ hx)
theorem fw_pre : ∀ (p q : List UInt8) (i : Nat), (∀ c ∈ p, plainB c) → fw (p ++ q) i = fw q (i + p.length)
  | [], q, i, _ => by simp
  | c :: p, q, i, h => by
    have hc := h c (.head _)
    rw [List.cons_append]
    conv => lhs; unfold fw
    rw [if_neg (by rintro (e | e); exact hc.1 e; exact hc.2 e), fw_pre p q _ fun x hx => h x (.tail _ hx)]
    simp; congr 1; omega
theorem takeW {n t : List UInt8} (hn : ∀ c ∈ n, c ≠ 47) (ht : t = [] ∨ ∃ r, t = 47 :: r) : (n ++ t).takeWhile (· ≠ 47) = n := by
  induction n with
  | nil => rcases ht with rfl | ⟨r, rfl⟩ <;> simp
  | cons c n ih =>
    rw [List.cons_append, List.takeWhile_cons_of_pos (by simpa using hn c (.head _)), ih fun x hx => hn x (.tail _ hx)]
theorem fw_P {pre n t : List UInt8} (hp : ∀ c ∈ pre, plainB c) (hn : word n) (ht : t = [] ∨ ∃ r, t = 47 :: r) : fw (pre ++ 58 :: (n ++ t)) 0 = some (58 :: n, pre.length) := by
  rw [fw_pre _ _ _ hp]
  unfold fw
  rw [if_pos (.inl rfl), takeW (fun c hc => (hn.2 c hc).1) ht]; simp
theorem fw_A {pre n : List UInt8} (hp : ∀ c ∈ pre, plainB c) (hn : word n) : fw (pre ++ 42 :: n) 0 = some (42 :: n, pre.length) := by
  rw [fw_pre _ _ _ hp]
  unfold fw
  rw [if_pos (.inr rfl)]
  have := takeW (t := []) (fun c hc => (hn.2 c hc).1) (.inl rfl)
  rw [List.append_nil] at this
  rw [this]; simp
/-- tokens: plain bytes, then the end or a wildcard -/
theorem tok_split : ∀ (sl : Bool) (s : List Tok), Ok sl s → ∃ (pre : List UInt8) (r : List Tok), s = bs pre ++ r ∧ (∀ c ∈ pre, plainB c) ∧ Ok (if pre = [] then sl else pre.getLast? == some 47) r ∧ (r = [] ∨ (∃ n q, r = .P n :: q) ∨ ∃ n, r = [.A n])
  | sl, [], _ => ⟨[], [], rfl, by simp, trivial, .inl rfl⟩
  | sl, .b c :: s, h => by
    obtain ⟨pre, r, h1, h2, h3, h4⟩ := tok_split (c == 47) s h.2
    refine ⟨c :: pre, r, by rw [h1]; rfl, fun x hx => ?_, ?_, h4⟩
    · rcases List.mem_cons.1 hx with rfl | hx
      · exact h.1
      · exact h2 x hx
    · rw [if_neg (by simp)]
      by_cases hp : pre = []
      · subst hp
        rw [if_pos rfl] at h3
        have : (([c] : List UInt8).getLast? == some 47) = (c == 47) := by simp
        rw [this]; exact h3
      · rw [if_neg hp] at h3
        obtain ⟨x, l, rfl⟩ := List.exists_cons_of_ne_nil hp
        rw [List.getLast?_cons_cons]; exact h3
  | sl, .P n :: q, h => ⟨[], .P n :: q, rfl, by simp, h, .inr (.inl ⟨n, q, rfl⟩)⟩
  | sl, .A n :: q, h => by
    have := h.2.2
    subst this
    exact ⟨[], [.A n], rfl, by simp, h, .inr (.inr ⟨n, rfl⟩)⟩
theorem txt_hd47 {s : List Tok} (h : s = [] ∨ ∃ r, s = .b 47 :: r) : txt s = [] ∨ ∃ r, txt s = 47 :: r := by
  rcases h with rfl | ⟨r, rfl⟩
  · exact .inl rfl
  · exact .inr ⟨_, rfl⟩
end Gt

/- findWildcard, where there is no backslash and each name is a word. Printed by wip/mk_gu5.py. -/
set_option maxRecDepth 20000
namespace Go.Proofs
open Go Bw
open Gt
theorem u_eq {x : UInt8} {k : Nat} (h : (x.toNat : Int) = (k : Int)) (hk : k < 256) : x = UInt8.ofNat k := by
 apply UInt8.toNat_inj.1
 rw [UInt8.toNat_ofNat']
 omega
theorem u58 {x : UInt8} (h : (x.toNat : Int) = 58) : x = 58 := u_eq (k := 58) h (by omega)
theorem u42 {x : UInt8} (h : (x.toNat : Int) = 42) : x = 42 := u_eq (k := 42) h (by omega)
theorem u47 {x : UInt8} (h : (x.toNat : Int) = 47) : x = 47 := u_eq (k := 47) h (by omega)
theorem u92 {x : UInt8} (h : (x.toNat : Int) = 92) : x = 92 := u_eq (k := 92) h (by omega)
theorem fw_step {p : List UInt8} {i : Nat} {x : UInt8} (hx : p[i]? = some x) (h1 : x ≠ 58) (h2 : x ≠ 42) : fw (p.drop i) i = fw (p.drop (i + 1)) (i + 1) := by
 rw [drop_cons hx]
 conv => lhs; unfold fw
 rw [if_neg (by rintro (e | e); exact h1 e; exact h2 e)]
theorem fw_hit {p : List UInt8} {i : Nat} {x : UInt8} (hx : p[i]? = some x) (h : x = 58 ∨ x = 42) : fw (p.drop i) i = some (x :: (p.drop (i + 1)).takeWhile (· ≠ 47), i) := by
 rw [drop_cons hx]
 conv => lhs; unfold fw
 rw [if_pos h]
theorem tw_stop : ∀ {q : List UInt8} {e : Nat}, (∀ k, k < e → ∀ c, q[k]? = some c → c ≠ 47) → (q[e]? = some 47 ∨ q.length ≤ e) → q.takeWhile (· ≠ 47) = q.take e
 | [], e, _, _ => by simp
 | c :: q, 0, _, h => by
  rcases h with h | h
  ·have : c = 47 := by simpa using h
   subst this; simp
  ·simp at h
 | c :: q, e + 1, h1, h2 => by
  have hc := h1 0 (by omega) c rfl
  rw [List.takeWhile_cons_of_pos (by simpa using hc), List.take_succ_cons, tw_stop (e := e) (fun k hk d hd => h1 (k + 1) (by omega) d (by simpa using hd)) (by simpa using h2)]
def fwV (o : Option (List UInt8 × Nat)) : Value := match o with
 | none => .tuple #[S [], I (-1), .bool false]
 | some (wc, i) => .tuple #[S wc, I (i : Int), .bool true]
theorem tw_app : ∀ {q : List UInt8} {k : Nat}, k < q.length → (∀ j, j < k + 1 → ∀ c, q[j]? = some c → c ≠ 47) → q.takeWhile (· ≠ 47) = q.take (k + 1) ++ (q.drop (k + 1)).takeWhile (· ≠ 47)
 | [], k, h, _ => by simp at h
 | c :: q, 0, _, h => by
  have hc := h 0 (by omega) c rfl
  rw [List.takeWhile_cons_of_pos (by simpa using hc)]; simp
 | c :: q, k + 1, hk, h => by
  have hc := h 0 (by omega) c rfl
  rw [List.takeWhile_cons_of_pos (by simpa using hc), tw_app (by simpa using hk) (fun j hj d hd => h (j + 1) (by omega) d (by simpa using hd))]
  rfl
theorem f88_any (w : World) (p : List UInt8) (h92 : ∀ c ∈ p, c ≠ 92) (hwc : ∀ wc i, fw p 0 = some (wc, i) → ∀ c ∈ wc.tail, c ≠ 58 ∧ c ≠ 42) (hl : p.length ≤ 100000) : Calls Tryd.prog 77 #[S p] w fun e w' => e = .returned (fwV (fw p 0)) ∧ HF w (fun _ => False) [] w' := by
 refine enter (fun _ => False) [] Tryd.func77 rfl Tryd.ntmps77 rfl rfl (HF.start w _) fun c hc => ?_
 subst hc
 refine GC.seq ?_
 refine GC.reg ?_
 refine G.m2 ?_
 refine G.m2 ?_
 refine G.m2 ?_
 refine G.nil ?_
 refine GC.seq ?_
 refine GC.reg ?_
 refine G.m2 ?_
 refine G.nil ?_
 refine GC.seq ?_
 refine GC.seq ?_
 refine GC.reg ?_
 refine G.m1 ?_
 refine G.cvSB Tryd.underlying9 Tryd.underlying44 Tryd.underlying5 rfl rfl (fun rb cp z fz hrb hcp => ?_)
 refine G.v (V.lenL Tryd.underlying44 rfl) rfl ?_
 refine G.m1 ?_
 refine G.nil ?_
 refine GC.block ?_
 refine GC.loopJ (fun N fr' H' => ∃ i, i + N = p.length ∧ fw p 0 = fw (p.drop i) i ∧ Sub [(0, S p), (5, .bool false), (11, .slice (some ⟨rb, 0, none⟩) p.length cp), (12, I (p.length : Nat)), (13, I ((i : Nat) : Int))] fr' ∧ H' = [⟨rb, true, .row (bC (p ++ z)) 5 fz⟩]) p.length
  ⟨0, by omega, rfl, .of rfl, rfl⟩ ?_
 rintro N fr' H' ⟨i, hi, hfw, hs, rfl⟩ ih
 refine GC.weak hs ?_
 clear hs
 refine GC.seq ?_
 refine GC.reg ?_
 refine G.v (V.lt rfl rfl) rfl ?_
 refine G.nil ?_
 refine GC.seq ?_
 refine GC.condD rfl (fun h14 => ?_) (fun h14 => ?_)
 ·refine GC.skip ?_
  refine GC.seq ?_
  refine GC.block ?_
  refine GC.seq ?_
  have hlt : i < p.length := by omega
  obtain ⟨x, hx⟩ : ∃ x, p[i]? = some x := ⟨_, List.getElem?_eq_getElem hlt⟩
  have hx92 := h92 x (List.mem_of_getElem? hx)
  refine GC.reg ?_
  refine G.m1 ?_
  refine G.v (V.ia (i := i) Tryd.underlying44 Tryd.sizeOf5 rfl rfl hlt) rfl ?_
  refine G.v (V.ld (b := rb) (off := 0 + i * 1) (wf := true) (l := bC (p ++ z)) (T := 5) (fz := fz) (v := .int .u8 (x.toNat : Int)) Tryd.isAgg5 rfl (.head _) (by rw [nth_eq, Nat.zero_add, Nat.mul_one, bC_app, List.getElem?_append_left (by rw [bC_len]; exact hlt)]; simp [bC, Lib.byteCells, hx])) rfl ?_
  refine G.m2 ?_
  refine G.m2 ?_
  refine G.nil ?_
  refine GC.seq ?_
  refine GC.seq ?_
  refine GC.reg ?_
  refine G.m1 ?_
  refine G.nil ?_
  refine GC.condF rfl ?_
  refine GC.skip ?_
  refine GC.seq ?_
  refine GC.seq ?_
  refine GC.reg ?_
  refine G.m1 ?_
  refine G.v (V.eqI rfl rfl) rfl ?_
  refine G.nil ?_
  refine GC.condD rfl (fun h26 => absurd (u92 h26) hx92) (fun h26 => ?_)
  refine GC.skip ?_
  refine GC.seq ?_
  refine GC.seq ?_
  refine GC.join (fun fr' H' => ∃ t : Bool, (t = true → x ≠ 58 ∧ x ≠ 42) ∧ (t = false → x = 58 ∨ x = 42) ∧ Sub [(0, S p), (5, .bool false), (11, .slice (some ⟨rb, 0, none⟩) p.length cp), (12, I (p.length : Nat)), (13, I ((i : Nat) : Int)), (6, I ((i : Nat) : Int)), (32, .bool t)] fr' ∧ H' = [⟨rb, true, .row (bC (p ++ z)) 5 fz⟩]) (fun J11 => ?_) ?_
  ·refine GC.reg ?_
   refine G.m1 ?_
   refine G.v (V.neI rfl rfl) rfl ?_
   refine G.m1 ?_
   refine G.bc 29 rfl (fun h29 => ?_) (fun h29 => ?_)
   ·refine G.m5 ?_
    refine G.vg rfl rfl (V.neI rfl rfl) rfl ?_
    refine G.m3 ?_
    refine G.nil ?_
    have h1 : x ≠ 58 := fun e => by rw [e] at h29; exact absurd h29 (by decide)
    refine J11 _ _ ⟨_, fun h => ⟨h1, fun e => by rw [e] at h; exact absurd h (by decide)⟩, fun h => .inr (u42 (by simpa using h)), .of rfl, rfl⟩
   ·refine G.s1 ?_
    refine G.s1 ?_
    refine G.m4 ?_
    refine G.nil ?_
    exact J11 _ _ ⟨false, fun h => (by cases h), fun _ => .inl (u58 (by simpa using h29)), .of rfl, rfl⟩
  rintro fr' H' ⟨t, ht1, ht2, hs11, rfl⟩
  refine GC.weak hs11 ?_
  clear hs11
  refine GC.cond rfl (fun h32 => ?_) (fun h32 => ?_)
  ·refine GC.exit rfl ?_
   refine GC.reg ?_
   refine G.v (V.addI (r := ((i + 1 : Nat) : Int)) rfl rfl rfl (by omega) (by omega)) rfl ?_
   refine G.m1 ?_
   refine G.nil ?_
   exact ih (N - 1) _ _ (by omega) ⟨i + 1, by omega, by rw [hfw, fw_step hx (ht1 h32).1 (ht1 h32).2], .of rfl, rfl⟩
  refine GC.skip ?_
  refine GC.seq ?_
  have hw := ht2 h32
  obtain ⟨q, hq⟩ : ∃ q, q = p.drop (i + 1) := ⟨_, rfl⟩
  have hql : q.length = p.length - (i + 1) := by rw [hq, List.length_drop]
  have hres : fw p 0 = some (x :: q.takeWhile (· ≠ 47), i) := by rw [hfw, fw_hit hx hw, hq]
  refine GC.reg ?_
  refine G.m2 ?_
  refine G.nil ?_
  refine GC.seq ?_
  refine GC.seq ?_
  refine GC.reg ?_
  refine G.m1 ?_
  refine G.m1 ?_
  refine G.v (V.addI (r := ((i + 1 : Nat) : Int)) rfl rfl rfl (by omega) (by omega)) rfl ?_
  refine G.v (V.slL (i := i + 1) Tryd.underlying9 rfl rfl (by omega)) rfl ?_
  rw [← hq]
  refine G.cvSB Tryd.underlying9 Tryd.underlying44 Tryd.underlying5 rfl rfl (fun rq cq zq fq hrq hcq => ?_)
  refine G.v (V.lenL Tryd.underlying44 rfl) rfl ?_
  refine G.m1 ?_
  refine G.nil ?_
  refine GC.block ?_
  refine GC.loopJ (fun N fr' H' => ∃ k, k + N = q.length ∧ (∀ j, j < k → ∀ c, q[j]? = some c → c ≠ 47) ∧ Sub [(0, S p), (4, .bool true), (6, I ((i : Nat) : Int)), (37, .slice (some ⟨rq, 0, none⟩) q.length cq), (38, I (q.length : Nat)), (39, I ((k : Nat) : Int))] fr' ∧ H' = [⟨rq, true, .row (bC (q ++ zq)) 5 fq⟩, ⟨rb, true, .row (bC (p ++ z)) 5 fz⟩]) q.length
   ⟨0, by omega, fun j h => by omega, .of rfl, rfl⟩ ?_
  rintro N2 fr' H' ⟨k, hk, hall, hs2, rfl⟩ ih2
  refine GC.weak hs2 ?_
  clear hs2
  refine GC.seq ?_
  refine GC.reg ?_
  refine G.v (V.lt rfl rfl) rfl ?_
  refine G.nil ?_
  refine GC.seq ?_
  refine GC.condD rfl (fun h40 => ?_) (fun h40 => ?_)
  ·refine GC.skip ?_
   refine GC.seq ?_
   refine GC.block ?_
   refine GC.seq ?_
   have hklt : k < q.length := by omega
   obtain ⟨y, hy⟩ : ∃ y, q[k]? = some y := ⟨_, List.getElem?_eq_getElem hklt⟩
   refine GC.reg ?_
   refine G.m1 ?_
   refine G.v (V.ia (i := k) Tryd.underlying44 Tryd.sizeOf5 rfl rfl hklt) rfl ?_
   refine G.v (V.ld (b := rq) (off := 0 + k * 1) (wf := true) (l := bC (q ++ zq)) (T := 5) (fz := fq) (v := .int .u8 (y.toNat : Int)) Tryd.isAgg5 rfl (.head _) (by rw [nth_eq, Nat.zero_add, Nat.mul_one, bC_app, List.getElem?_append_left (by rw [bC_len]; exact hklt)]; simp [bC, Lib.byteCells, hy])) rfl ?_
   refine G.m2 ?_
   refine G.m2 ?_
   refine G.nil ?_
   refine GC.seq ?_
   refine GC.reg ?_
   refine G.m1 ?_
   refine G.nil ?_
   refine GC.block ?_
   refine GC.seq ?_
   refine GC.reg ?_
   refine G.v (V.eqI rfl rfl) rfl ?_
   refine G.m2 ?_
   refine G.nil ?_
   refine GC.condD rfl (fun h45 => ?_) (fun h45 => ?_)
   ·refine GC.seq ?_
    refine GC.reg ?_
    refine G.m1 ?_
    refine G.m1 ?_
    refine G.m1 ?_
    refine G.v (V.addI (r := ((i + 1 : Nat) : Int)) rfl rfl rfl (by omega) (by omega)) rfl ?_
    refine G.m1 ?_
    refine G.v (V.addI (r := ((i + 1 + k : Nat) : Int)) rfl rfl (by omega) (by omega) (by omega)) rfl ?_
    have hy47 := u47 h45
    subst hy47
    have htw := tw_stop hall (.inl hy)
    have hsl : (p.take (i + 1 + k)).drop i = x :: q.takeWhile (· ≠ 47) := by
     rw [htw, hq, List.drop_take, drop_cons hx, show i + 1 + k - i = k + 1 by omega, List.take_succ_cons]
    refine G.v (V.slLHe (i := i) (j := i + 1 + k) Tryd.underlying9 rfl rfl rfl (by omega) (by omega) hsl) rfl ?_
    refine G.m1 ?_
    refine G.m1 ?_
    refine G.m2 ?_
    refine G.m2 ?_
    refine G.m2 ?_
    refine G.nil ?_
    refine GC.ret3 rfl rfl rfl rfl fun w' hw' => ⟨by rw [hres]; rfl, hw'.sub (List.nil_sublist _)⟩
   refine GC.seq ?_
   refine GC.seq ?_
   have hyw := h45
   have hy58 : y ∈ q.takeWhile (· ≠ 47) → y ≠ 58 ∧ y ≠ 42 := fun hm => hwc _ _ hres y hm
   have hym : y ≠ 47 := fun e => h45 (by rw [e]; rfl)
   have hyin : y ∈ q.takeWhile (· ≠ 47) := by
    have h1 : q.takeWhile (· ≠ 47) = q.take (k + 1) ++ (q.drop (k + 1)).takeWhile (· ≠ 47) := tw_app hklt (fun j hj c hc => by
     by_cases e : j = k
     ·subst e; rw [hy] at hc; cases hc; exact hym
     ·exact hall j (by omega) c hc)
    rw [h1]
    exact List.mem_append_left _ (List.mem_of_getElem? (i := k) (by rw [List.getElem?_take_of_lt (by omega)]; exact hy))
   have hyne := hy58 hyin
   refine GC.reg ?_
   refine G.v (V.eqI rfl rfl) rfl ?_
   refine G.m2 ?_
   refine G.nil ?_
   refine GC.cond rfl (fun h56 => absurd (u58 (by simpa using h56)) hyne.1) (fun h56 => ?_)
   refine GC.reg ?_
   refine G.v (V.eqI rfl rfl) rfl ?_
   refine G.m2 ?_
   refine G.nil ?_
   refine GC.cond rfl (fun h56 => absurd (u42 (by simpa using h56)) hyne.2) (fun h56 => ?_)
   refine GC.skip ?_
   refine GC.inBlock ?_
   refine GC.inBlock ?_
   refine GC.reg ?_
   refine G.v (V.addI (r := ((k + 1 : Nat) : Int)) rfl rfl rfl (by omega) (by omega)) rfl ?_
   refine G.m1 ?_
   refine G.nil ?_
   refine ih2 (N2 - 1) _ _ (by omega) ⟨k + 1, by omega, fun j hj c hc => ?_, .of rfl, rfl⟩
   by_cases e : j = k
   ·subst e; rw [hy] at hc; cases hc; exact hym
   ·exact hall j (by omega) c hc
  refine GC.exit rfl ?_
  refine GC.seq ?_
  refine GC.reg ?_
  refine G.m1 ?_
  refine G.m1 ?_
  refine G.v (V.slL (i := i) Tryd.underlying9 rfl rfl (by omega)) rfl ?_
  refine G.m1 ?_
  refine G.m1 ?_
  refine G.m2 ?_
  refine G.m2 ?_
  refine G.m2 ?_
  refine G.nil ?_
  have htw := tw_stop hall (.inr (by omega))
  have htk : q.take k = q := List.take_of_length_le (by omega)
  refine GC.ret3 rfl rfl rfl rfl fun w' hw' => ⟨?_, hw'.sub (List.nil_sublist _)⟩
  rw [hres, htw, htk, drop_cons hx, ← hq]; rfl
 refine GC.exit rfl ?_
 refine GC.seq ?_
 refine GC.reg ?_
 refine G.m2 ?_
 refine G.m2 ?_
 refine G.m2 ?_
 refine G.nil ?_
 have hie : i = p.length := by omega
 refine GC.ret3 rfl rfl rfl rfl fun w' hw' => ⟨?_, hw'.sub (List.nil_sublist _)⟩
 rw [hfw, hie, List.drop_length]; rfl
end Go.Proofs

/- insertChild: the pieces of its loop: no wildcard; a parameter at the end or with more behind it. Printed by wip/mk_gu6.py. -/
set_option maxRecDepth 20000
namespace Go.Proofs
open Go Bw
open Gt
theorem bd_par (wc full : List UInt8) (w : World) : (Instr.build 94 #[(3, .int .u8 2), (0, S wc), (7, S full)]).run Tryd.prog w = .ok (.agg (nodeR wc [] false 2 0 (.slice none 0 0) (.slice none 0 0) full).toArray) w := by
 simp [Instr.build, Tryd.zeroValue94, Tryd.runUnderlying94, Tryd.sizeOf9, Tryd.sizeOf4, Tryd.sizeOf88, Tryd.sizeOf89, Tryd.sizeOf90, Tryd.sizeOf92, cells_agg, Instr.fill, cells_str, cells_int, nodeR]
theorem bd_sub (full : List UInt8) (w : World) : (Instr.build 94 #[(4, .int .u32 1), (7, S full)]).run Tryd.prog w = .ok (.agg (nodeR [] [] false 0 1 (.slice none 0 0) (.slice none 0 0) full).toArray) w := by
 simp [Instr.build, Tryd.zeroValue94, Tryd.runUnderlying94, Tryd.sizeOf9, Tryd.sizeOf4, Tryd.sizeOf88, Tryd.sizeOf89, Tryd.sizeOf90, Tryd.sizeOf92, cells_agg, Instr.fill, cells_str, cells_int, nodeR]
theorem bd_ca (full : List UInt8) (w : World) : (Instr.build 94 #[(2, .bool true), (3, .int .u8 3), (7, S full)]).run Tryd.prog w = .ok (.agg (nodeR [] [] true 3 0 (.slice none 0 0) (.slice none 0 0) full).toArray) w := by
 simp [Instr.build, Tryd.zeroValue94, Tryd.runUnderlying94, Tryd.sizeOf9, Tryd.sizeOf4, Tryd.sizeOf88, Tryd.sizeOf89, Tryd.sizeOf90, Tryd.sizeOf92, cells_agg, Instr.fill, cells_str, cells_bool, cells_int, nodeR]
theorem bd_cb (p full : List UInt8) (hb : Nat) (w : World) : (Instr.build 94 #[(0, S p), (3, .int .u8 3), (6, .slice (some ⟨hb, 0, none⟩) 1 1), (4, .int .u32 1), (7, S full)]).run Tryd.prog w = .ok (.agg (nodeR p [] false 3 1 (.slice none 0 0) (.slice (some ⟨hb, 0, none⟩) 1 1) full).toArray) w := by
 simp [Instr.build, Tryd.zeroValue94, Tryd.runUnderlying94, Tryd.sizeOf9, Tryd.sizeOf4, Tryd.sizeOf88, Tryd.sizeOf89, Tryd.sizeOf90, Tryd.sizeOf92, cells_agg, Instr.fill, cells_str, cells_int, cells_sl, nodeR]
theorem bd_new (full : List UInt8) (w : World) : (Instr.build 94 #[(7, S full)]).run Tryd.prog w = .ok (.agg (nodeR [] [] false 0 0 (.slice none 0 0) (.slice none 0 0) full).toArray) w := by
 simp [Instr.build, Tryd.zeroValue94, Tryd.runUnderlying94, Tryd.sizeOf9, Tryd.sizeOf4, Tryd.sizeOf88, Tryd.sizeOf89, Tryd.sizeOf90, Tryd.sizeOf92, cells_agg, Instr.fill, cells_str, nodeR]
def splitLoop : Code → List Item → Option (List Item)
 | .seq a b, k => match splitLoop a (.code b :: k) with
  | some r => some r
  | none => splitLoop b k
 | .block id (.loop x), k => some (.code x :: .inLoop x :: .inBlock id :: k)
 | .scope a, k => splitLoop a (.inScope a :: k)
 | _, _ => none
/-- insertChild's loop -/
noncomputable def K79 : List Item := (splitLoop ((Tryd.f62.body).getD .skip) []).getD []
theorem addKid_len {α : Type} (wild : Bool) (ks : List (Tr α)) (k : Tr α) : (addKid wild ks k).length = ks.length + 1 := by
 unfold addKid
 split
 ·rename_i h
  have := List.length_pos_iff.2 h.2
  rw [List.getLast?_eq_some_getLast h.2]
  simp; omega
 ·simp
theorem addB_len (wild : Bool) (ks : List Nat) (k : Nat) : (addB wild ks k).length = ks.length + 1 := by
 unfold addB
 split
 ·rename_i h
  have := List.length_pos_iff.2 h.2
  rw [List.getLast?_eq_some_getLast h.2]
  simp; omega
 ·simp
theorem f79_none {R : Ending → World → Prop} {w : World} {D : Nat → Prop} {nb hb num : Nat} {p full tp idx : List UInt8} {wl : Bool} {nt pr : Nat} {h0 : Option Nat} {f0 : List UInt8} {kids : List T0} {bs : List Nat} {kv hv : Value} {Hs Hh Hk Hr : SH} {fr : SF}
  (hs : Own 83 1 kv kids.length (bs.map (Pt · 0)) Hs) (_hh : HV h0 hv Hh) (hk : HTs kids bs Hk) (h92 : ∀ c ∈ p, c ≠ 92) (hpl : p.length ≤ 100000) (_hkl : kids.length ≤ 90000) (hsub : Sub [(0, Pt nb 0), (1, S p), (2, S full), (3, .slice (some ⟨hb, 0, none⟩) 1 1)] fr) (hf : fw p 0 = none)
  (fin : ∀ Hn' w', HT (.node () p idx wl nt pr (some num) full kids) nb Hn' → HF w D (Hn' ++ Hr) w' → R (.returned (.tuple #[])) w') : GC Tryd.prog ⟨62, Tryd.f62, R, w, D⟩ 221 K79 fr (⟨nb, true, .row (nodeR tp idx wl nt pr kv hv f0) 94 (0, 0)⟩ :: ((Hs ++ (Hh ++ Hk)) ++ (⟨hb, true, .row [I (num : Int)] 3 (0, 0)⟩ :: Hr))) := by
 refine GC.weak hsub ?_
 clear hsub
 obtain ⟨X, hX⟩ : ∃ X, X = (Hh ++ Hk) ++ (⟨hb, true, .row [I (num : Int)] 3 (0, 0)⟩ :: Hr) := ⟨_, rfl⟩
 refine GC.turn (H' := ⟨nb, true, .row (nodeR tp idx wl nt pr kv hv f0) 94 (0, 0)⟩ :: (Hs ++ X)) (fun w1 h1 => by rw [hX, ← List.append_assoc]; exact h1) ?_
 have hkl2 := hk.len
 have h88 : ∀ w1, Calls Tryd.prog 77 #[S p] w1 fun e w' => e = .returned (.tuple #[S [], I (-1), .bool false]) ∧ HF w1 (fun _ => False) [] w' := by
  intro w1
  have := f88_any w1 p h92 (fun wc i h => by rw [hf] at h; cases h) hpl
  rw [hf] at this; exact this
 refine GC.block ?_
 refine GC.seq ?_
 refine GC.reg ?_
 refine G.m1 ?_
 refine G.callP Tryd.call77 rfl rfl (fun w1 hw1 => h88 w1) ?_
 refine G.m1 ?_
 refine G.v (V.ex rfl rfl) rfl ?_
 refine G.v (V.ex rfl rfl) rfl ?_
 refine G.v (V.ex rfl rfl) rfl ?_
 refine G.m2 ?_
 refine G.m2 ?_
 refine G.m2 ?_
 refine G.nil ?_
 refine GC.seq ?_
 refine GC.seq ?_
 refine GC.reg ?_
 refine G.m1 ?_
 refine G.v (V.lt rfl rfl) rfl ?_
 refine G.nil ?_
 refine GC.condD rfl (fun h22 => ?_) (fun h22 => absurd h22 (by decide))
 refine GC.exit rfl ?_
 refine GC.seq ?_
 refine GC.reg ?_
 refine G.m1 ?_
 refine G.m1 ?_
 refine G.v (V.nc rfl) rfl ?_
 refine G.v (V.fa F94_0 rfl) rfl ?_
 refine G.st (b := nb) (off := 0 + 0) (l := nodeR tp idx wl nt pr kv hv f0) (T := 94) (fz := (0, 0)) (v := S p) Tryd.sizeOf9 rfl rfl rfl (.z) rfl rfl ?_
 refine G.nil ?_
 refine GC.seq ?_
 refine GC.turn (H' := ⟨nb, true, .row (nodeR p idx wl nt pr kv hv f0) 94 (0, 0)⟩ :: (Hs ++ X)) (fun w1 h1 => h1) ?_
 refine GC.reg ?_
 refine G.m1 ?_
 refine G.m1 ?_
 refine G.v (V.nc rfl) rfl ?_
 refine G.v (V.fa F94_6 rfl) rfl ?_
 refine G.st (b := nb) (off := 0 + 6) (l := nodeR p idx wl nt pr kv hv f0) (T := 94) (fz := (0, 0)) (v := .slice (some ⟨hb, 0, none⟩) 1 1) Tryd.sizeOf92 rfl rfl rfl (.z) rfl rfl ?_
 refine G.nil ?_
 refine GC.turn (H' := ⟨nb, true, .row (nodeR p idx wl nt pr kv (.slice (some ⟨hb, 0, none⟩) 1 1) f0) 94 (0, 0)⟩ :: (Hs ++ X)) (fun w1 h1 => h1) ?_
 refine GC.reg ?_
 refine G.m1 ?_
 refine G.m1 ?_
 refine G.v (V.nc rfl) rfl ?_
 refine G.v (V.fa F94_7 rfl) rfl ?_
 refine G.st (b := nb) (off := 0 + 7) (l := nodeR p idx wl nt pr kv (.slice (some ⟨hb, 0, none⟩) 1 1) f0) (T := 94) (fz := (0, 0)) (v := S full) Tryd.sizeOf9 rfl rfl rfl (.z) rfl rfl ?_
 refine G.nil ?_
 refine GC.turn (H' := ⟨nb, true, .row (nodeR p idx wl nt pr kv (.slice (some ⟨hb, 0, none⟩) 1 1) full) 94 (0, 0)⟩ :: (Hs ++ X)) (fun w1 h1 => h1) ?_
 refine GC.end0 rfl fun w' hw' => fin _ w' (HT.mk hs (HV.row (k := num) (hb := hb)) hk) ?_
 rw [hX] at hw'
 have p1 := perm_idx [[⟨nb, true, .row (nodeR p idx wl nt pr kv (.slice (some ⟨hb, 0, none⟩) 1 1) full) 94 (0, 0)⟩], Hs, Hh, Hk, [⟨hb, true, .row [I (num : Int)] 3 (0, 0)⟩], Hr] [0, 1, 2, 3, 4, 5] [2, 0, 1, 4, 3, 5] (by decide)
 have h2 := hw'.perm (H' := Hh ++ ((⟨nb, true, .row (nodeR p idx wl nt pr kv (.slice (some ⟨hb, 0, none⟩) 1 1) full) 94 (0, 0)⟩ :: (Hs ++ ([⟨hb, true, .row [I (num : Int)] 3 (0, 0)⟩] ++ Hk))) ++ Hr)) (by simpa using p1)
 exact h2.sub (List.sublist_append_right _ _)
/-- the node behind the parameter's insertion: a node whose path is cut at the wildcard -/
def cutP (tp p : List UInt8) (i : Nat) : List UInt8 := if 0 < i then p.take i else tp
theorem f79_pend {R : Ending → World → Prop} {w : World} {D : Nat → Prop} {nb hb num : Nat} {p full tp idx : List UInt8} {wl : Bool} {nt pr : Nat} {h0 : Option Nat} {f0 : List UInt8} {kids : List T0} {bs : List Nat} {kv hv : Value} {Hs Hh Hk Hr : SH} {fr : SF}
  (hs : Own 83 1 kv kids.length (bs.map (Pt · 0)) Hs) (hh : HV h0 hv Hh) (hk : HTs kids bs Hk) (h92 : ∀ c ∈ p, c ≠ 92) (hpl : p.length ≤ 100000) (hkl : kids.length ≤ 90000) (hsub : Sub [(0, Pt nb 0), (1, S p), (2, S full), (3, .slice (some ⟨hb, 0, none⟩) 1 1)] fr) (wc : List UInt8) (i : Nat) (hf : fw p 0 = some (58 :: wc, i)) (hwc : ∀ c ∈ wc, c ≠ 58 ∧ c ≠ 42) (hwn : wc ≠ []) (hi : i ≤ p.length) (hend : p.length = i + (wc.length + 1))
  (fin : ∀ Hn' w', HT (.node () (cutP tp p i) idx true nt pr h0 f0 (addKid wl kids (.node () (58 :: wc) [] false 2 1 (some num) full []))) nb Hn' → HF w D (Hn' ++ Hr) w' → R (.returned (.tuple #[])) w') : GC Tryd.prog ⟨62, Tryd.f62, R, w, D⟩ 221 K79 fr (⟨nb, true, .row (nodeR tp idx wl nt pr kv hv f0) 94 (0, 0)⟩ :: ((Hs ++ (Hh ++ Hk)) ++ (⟨hb, true, .row [I (num : Int)] 3 (0, 0)⟩ :: Hr))) := by
 refine GC.weak hsub ?_
 clear hsub
 obtain ⟨X, hX⟩ : ∃ X, X = (Hh ++ Hk) ++ (⟨hb, true, .row [I (num : Int)] 3 (0, 0)⟩ :: Hr) := ⟨_, rfl⟩
 refine GC.turn (H' := ⟨nb, true, .row (nodeR tp idx wl nt pr kv hv f0) 94 (0, 0)⟩ :: (Hs ++ X)) (fun w1 h1 => by rw [hX, ← List.append_assoc]; exact h1) ?_
 have hkl2 := hk.len
 have h88 : ∀ w1, Calls Tryd.prog 77 #[S p] w1 fun e w' => e = .returned (.tuple #[S (58 :: wc), I (i : Int), .bool true]) ∧ HF w1 (fun _ => False) [] w' := by
  intro w1
  have := f88_any w1 p h92 (fun wc2 i2 h => by rw [hf] at h; cases h; exact hwc) hpl
  rw [hf] at this; exact this
 have hwl := List.length_pos_iff.2 hwn
 have hcl : (58 :: wc).length = wc.length + 1 := rfl
 refine GC.block ?_
 refine GC.seq ?_
 refine GC.reg ?_
 refine G.m1 ?_
 refine G.callP Tryd.call77 rfl rfl (fun w1 hw1 => h88 w1) ?_
 refine G.m1 ?_
 refine G.v (V.ex rfl rfl) rfl ?_
 refine G.v (V.ex rfl rfl) rfl ?_
 refine G.v (V.ex rfl rfl) rfl ?_
 refine G.m2 ?_
 refine G.m2 ?_
 refine G.m2 ?_
 refine G.nil ?_
 refine GC.seq ?_
 refine GC.seq ?_
 refine GC.reg ?_
 refine G.m1 ?_
 refine G.v (V.lt rfl rfl) rfl ?_
 refine G.nil ?_
 refine GC.condD rfl (fun h22 => absurd h22 (by omega)) (fun h22 => ?_)
 refine GC.skip ?_
 refine GC.seq ?_
 refine GC.seq ?_
 refine GC.reg ?_
 refine G.m1 ?_
 refine G.v (V.not rfl) rfl ?_
 refine G.nil ?_
 refine GC.cond rfl (fun h24 => absurd h24 (by decide)) (fun h24 => ?_)
 refine GC.skip ?_
 refine GC.seq ?_
 refine GC.seq ?_
 refine GC.reg ?_
 refine G.m1 ?_
 refine G.v (V.lenS Tryd.underlying9 rfl) rfl ?_
 refine G.v (V.lt rfl rfl) rfl ?_
 refine G.nil ?_
 refine GC.condD rfl (fun h34 => absurd h34 (by rw [hcl]; omega)) (fun h34 => ?_)
 refine GC.skip ?_
 refine GC.seq ?_
 refine GC.seq ?_
 refine GC.reg ?_
 refine G.m1 ?_
 refine G.v (V.idx (i := 0) (b := 58) Tryd.underlying9 rfl rfl rfl) rfl ?_
 refine G.v (V.eqI rfl rfl) rfl ?_
 refine G.nil ?_
 refine GC.condD rfl (fun h41 => ?_) (fun h41 => absurd h41 (by decide))
 refine GC.seq ?_
 refine GC.seq ?_
 refine GC.reg ?_
 refine G.m1 ?_
 refine G.v (V.gt rfl rfl) rfl ?_
 refine G.nil ?_
 refine GC.join (fun fr' H' => Sub [(0, Pt nb 0), (1, S (p.drop i)), (2, S full), (3, .slice (some ⟨hb, 0, none⟩) 1 1), (8, S (58 :: wc)), (9, I (i : Int))] fr' ∧ H' = ⟨nb, true, .row (nodeR (cutP tp p i) idx wl nt pr kv hv f0) 94 (0, 0)⟩ :: (Hs ++ X)) (fun J43 => ?_) ?_
 ·refine GC.condD rfl (fun h43 => ?_) (fun h43 => ?_)
  ·refine GC.seq ?_
   refine GC.reg ?_
   refine G.m1 ?_
   refine G.m1 ?_
   refine G.m1 ?_
   refine G.v (V.slH (j := i) Tryd.underlying9 rfl rfl hi) rfl ?_
   refine G.v (V.nc rfl) rfl ?_
   refine G.v (V.fa F94_0 rfl) rfl ?_
   refine G.st (b := nb) (off := 0 + 0) (l := nodeR tp idx wl nt pr kv hv f0) (T := 94) (fz := (0, 0)) (v := S (p.take i)) Tryd.sizeOf9 rfl rfl rfl (.z) rfl rfl ?_
   refine G.nil ?_
   refine GC.reg ?_
   refine G.m1 ?_
   refine G.m1 ?_
   refine G.v (V.slL (i := i) Tryd.underlying9 rfl rfl hi) rfl ?_
   refine G.m2 ?_
   refine G.nil ?_
   have hi0 : 0 < i := by omega
   refine J43 _ _ ⟨.of rfl, ?_⟩
   unfold cutP
   rw [if_pos hi0]
   rfl
  refine GC.skip ?_
  have hi0 : i = 0 := by omega
  subst hi0
  refine J43 _ _ ⟨.of rfl, ?_⟩
  unfold cutP
  rw [if_neg (by omega)]
 rintro fr' H' ⟨hs43, rfl⟩
 refine GC.weak hs43 ?_
 clear hs43
 refine GC.seq ?_
 refine GC.reg ?_
 refine G.m1 ?_
 refine G.m1 ?_
 refine G.v (V.bd (vs := [(3, .int .u8 2), (0, S (58 :: wc)), (7, S full)]) rfl (fun w1 => bd_par _ _ w1)) rfl ?_
 refine G.bx (l := nodeR (58 :: wc) [] false 2 0 (.slice none 0 0) (.slice none 0 0) full) rfl (by simp [cells_agg, nodeR]) rfl (fun pb hpb => ?_)
 refine G.m2 ?_
 refine G.nil ?_
 refine GC.seq ?_
 refine GC.reg ?_
 refine G.m1 ?_
 refine G.m1 ?_
 rw [← hkl2] at hs
 refine G.callL (H1 := ⟨nb, true, .row (nodeR (cutP tp p i) idx wl nt pr kv hv f0) 94 (0, 0)⟩ :: Hs) (Hk := ⟨pb, true, .row (nodeR (58 :: wc) [] false 2 0 (.slice none 0 0) (.slice none 0 0) full) 94 (0, 0)⟩ :: X) (fun v H1' => v = .tuple #[] ∧ ∃ kv' Hs', Own 83 1 kv' (bs.length + 1) ((addB wl bs pb).map (Pt · 0)) Hs' ∧ H1' = ⟨nb, true, .row (nodeR (cutP tp p i) idx wl nt pr kv' hv f0) 94 (0, 0)⟩ :: Hs') (List.perm_middle (l₁ := ⟨nb, true, .row (nodeR (cutP tp p i) idx wl nt pr kv hv f0) 94 (0, 0)⟩ :: Hs)).symm (fun e0 he0 => ?_) Tryd.call65 rfl rfl (fun w1 hw1 _ => ?_) ?_
 ·rcases List.mem_cons.1 he0 with rfl | he0
  ·rfl
  ·exact hs.w e0 he0
 ·refine (f82_any w1 _ nb pb (cutP tp p i) idx wl nt pr hv f0 kv bs Hs (by omega) hs hw1).mono fun e w' ⟨h1, kv', Hs', h2, h3⟩ => ⟨_, _, h1, fun e0 he0 => ?_, h3, rfl, kv', Hs', h2, rfl⟩
  rcases List.mem_cons.1 he0 with rfl | he0
  ·rfl
  ·exact h2.w e0 he0
 rintro v H1' ⟨rfl, kv2, Hs2, hs2, rfl⟩
 refine G.turn (H' := ⟨pb, true, .row (nodeR (58 :: wc) [] false 2 0 (.slice none 0 0) (.slice none 0 0) full) 94 (0, 0)⟩ :: ⟨nb, true, .row (nodeR (cutP tp p i) idx wl nt pr kv2 hv f0) 94 (0, 0)⟩ :: (Hs2 ++ X)) (fun w1 h1 => h1.perm (List.perm_middle (l₁ := ⟨nb, true, .row (nodeR (cutP tp p i) idx wl nt pr kv2 hv f0) 94 (0, 0)⟩ :: Hs2))) ?_
 refine G.nil ?_
 refine GC.seq ?_
 refine GC.reg ?_
 refine G.m1 ?_
 refine G.v (V.nc rfl) rfl ?_
 refine G.v (V.fa F94_2 rfl) rfl ?_
 refine G.st (b := nb) (off := 0 + 2) (l := nodeR (cutP tp p i) idx wl nt pr kv2 hv f0) (T := 94) (fz := (0, 0)) (v := .bool true) Tryd.sizeOf4 rfl rfl rfl (.s .z) rfl rfl ?_
 refine G.nil ?_
 refine GC.seq ?_
 refine GC.turn (H' := ⟨pb, true, .row (nodeR (58 :: wc) [] false 2 0 (.slice none 0 0) (.slice none 0 0) full) 94 (0, 0)⟩ :: ⟨nb, true, .row (nodeR (cutP tp p i) idx true nt pr kv2 hv f0) 94 (0, 0)⟩ :: (Hs2 ++ X)) (fun w1 h1 => h1) ?_
 refine GC.reg ?_
 refine G.m1 ?_
 refine G.m2 ?_
 refine G.nil ?_
 refine GC.seq ?_
 refine GC.reg ?_
 refine G.m1 ?_
 refine G.v (V.nc rfl) rfl ?_
 refine G.v (V.fa F94_4 rfl) rfl ?_
 refine G.v (V.ld (b := pb) (off := 0 + 4) (wf := true) (l := nodeR (58 :: wc) [] false 2 0 (.slice none 0 0) (.slice none 0 0) full) (T := 94) (fz := (0, 0)) (v := .int .u32 ((0 % 4294967296 : Nat) : Int)) Tryd.isAgg89 rfl (.head _) rfl) rfl ?_
 refine G.v (V.add rfl rfl) rfl ?_
 rw [wrapU32]
 refine G.v (V.nc rfl) rfl ?_
 refine G.v (V.fa F94_4 rfl) rfl ?_
 refine G.st (b := pb) (off := 0 + 4) (l := nodeR (58 :: wc) [] false 2 0 (.slice none 0 0) (.slice none 0 0) full) (T := 94) (fz := (0, 0)) (v := .int .u32 (((0 + 1) % 4294967296 : Nat) : Int)) Tryd.sizeOf89 rfl rfl rfl (.z) rfl rfl ?_
 refine G.nil ?_
 refine GC.seq ?_
 refine GC.seq ?_
 refine GC.turn (H' := ⟨pb, true, .row (nodeR (58 :: wc) [] false 2 1 (.slice none 0 0) (.slice none 0 0) full) 94 (0, 0)⟩ :: ⟨nb, true, .row (nodeR (cutP tp p i) idx true nt pr kv2 hv f0) 94 (0, 0)⟩ :: (Hs2 ++ X)) (fun w1 h1 => h1) ?_
 refine GC.reg ?_
 refine G.m1 ?_
 refine G.v (V.lenS Tryd.underlying9 rfl) rfl ?_
 refine G.m1 ?_
 refine G.v (V.lenS Tryd.underlying9 rfl) rfl ?_
 refine G.v (V.lt rfl rfl) rfl ?_
 refine G.nil ?_
 refine GC.condD rfl (fun h75 => absurd h75 (by rw [List.length_drop]; omega)) (fun h75 => ?_)
 refine GC.skip ?_
 refine GC.seq ?_
 refine GC.reg ?_
 refine G.m1 ?_
 refine G.m1 ?_
 refine G.v (V.nc rfl) rfl ?_
 refine G.v (V.fa F94_6 rfl) rfl ?_
 refine G.st (b := pb) (off := 0 + 6) (l := nodeR (58 :: wc) [] false 2 1 (.slice none 0 0) (.slice none 0 0) full) (T := 94) (fz := (0, 0)) (v := .slice (some ⟨hb, 0, none⟩) 1 1) Tryd.sizeOf92 rfl rfl rfl (.z) rfl rfl ?_
 refine G.nil ?_
 refine GC.turn (H' := ⟨pb, true, .row (nodeR (58 :: wc) [] false 2 1 (.slice none 0 0) (.slice (some ⟨hb, 0, none⟩) 1 1) full) 94 (0, 0)⟩ :: ⟨nb, true, .row (nodeR (cutP tp p i) idx true nt pr kv2 hv f0) 94 (0, 0)⟩ :: (Hs2 ++ X)) (fun w1 h1 => h1) ?_
 refine GC.ret0 rfl fun w' hw' => ?_
 obtain ⟨Hk2, hk2, hp2⟩ := hk.add (wild := wl) (HT.mk (path := 58 :: wc) (idx := []) (wild := false) (nt := 2) (pr := 1) (full := full) (nb := pb) Own.nil (HV.row (k := num) (hb := hb)) HTs.nil)
 rw [hkl2] at hs2
 rw [← addKid_len wl kids (.node () (58 :: wc) [] false 2 1 (some num) full [])] at hs2
 refine fin _ w' (HT.mk hs2 hh hk2) (hw'.perm ?_)
 rw [hX]
 have e1 : Hk2.Perm (⟨pb, true, .row (nodeR (58 :: wc) [] false 2 1 (.slice none 0 0) (.slice (some ⟨hb, 0, none⟩) 1 1) full) 94 (0, 0)⟩ :: ⟨hb, true, .row [I (num : Int)] 3 (0, 0)⟩ :: Hk) := by simpa using hp2
 have p1 := perm_idx [[⟨pb, true, .row (nodeR (58 :: wc) [] false 2 1 (.slice none 0 0) (.slice (some ⟨hb, 0, none⟩) 1 1) full) 94 (0, 0)⟩], [⟨nb, true, .row (nodeR (cutP tp p i) idx true nt pr kv2 hv f0) 94 (0, 0)⟩], Hs2, Hh, Hk, [⟨hb, true, .row [I (num : Int)] 3 (0, 0)⟩], Hr] [0, 1, 2, 3, 4, 5, 6] [1, 2, 3, 0, 5, 4, 6] (by decide)
 refine List.Perm.trans (l₂ := ⟨nb, true, .row (nodeR (cutP tp p i) idx true nt pr kv2 hv f0) 94 (0, 0)⟩ :: (Hs2 ++ (Hh ++ ((⟨pb, true, .row (nodeR (58 :: wc) [] false 2 1 (.slice none 0 0) (.slice (some ⟨hb, 0, none⟩) 1 1) full) 94 (0, 0)⟩ :: ⟨hb, true, .row [I (num : Int)] 3 (0, 0)⟩ :: Hk) ++ Hr)))) (by simpa using p1) ?_
 have p2 := (((e1.symm.append_right Hr).append_left Hh).append_left Hs2).cons ⟨nb, true, .row (nodeR (cutP tp p i) idx true nt pr kv2 hv f0) 94 (0, 0)⟩
 simpa using p2
theorem f79_pmore {R : Ending → World → Prop} {w : World} {D : Nat → Prop} {nb hb num : Nat} {p full tp idx : List UInt8} {wl : Bool} {nt pr : Nat} {h0 : Option Nat} {f0 : List UInt8} {kids : List T0} {bs : List Nat} {kv hv : Value} {Hs Hh Hk Hr : SH} {fr : SF}
  (hs : Own 83 1 kv kids.length (bs.map (Pt · 0)) Hs) (_hh : HV h0 hv Hh) (hk : HTs kids bs Hk) (h92 : ∀ c ∈ p, c ≠ 92) (hpl : p.length ≤ 100000) (hkl : kids.length ≤ 90000) (hsub : Sub [(0, Pt nb 0), (1, S p), (2, S full), (3, .slice (some ⟨hb, 0, none⟩) 1 1)] fr) (wc : List UInt8) (i : Nat) (hf : fw p 0 = some (58 :: wc, i)) (hwc : ∀ c ∈ wc, c ≠ 58 ∧ c ≠ 42) (hwn : wc ≠ []) (hi : i ≤ p.length) (hmore : i + (wc.length + 1) < p.length)
  (go : ∀ pb cb kv2 kv3 Hs2 Hs3 fr', Own 83 1 kv2 (bs.length + 1) ((addB wl bs pb).map (Pt · 0)) Hs2 → Own 83 1 kv3 1 [Pt cb 0] Hs3 → Sub [(0, Pt cb 0), (1, S (p.drop (i + (58 :: wc).length))), (2, S full), (3, .slice (some ⟨hb, 0, none⟩) 1 1)] fr' →
   GC Tryd.prog ⟨62, Tryd.f62, R, w, D⟩ 221 K79 fr' (⟨cb, true, .row (nodeR [] [] false 0 1 (.slice none 0 0) (.slice none 0 0) full) 94 (0, 0)⟩ :: (⟨hb, true, .row [I (num : Int)] 3 (0, 0)⟩ :: (⟨nb, true, .row (nodeR (cutP tp p i) idx true nt pr kv2 hv f0) 94 (0, 0)⟩ :: (Hs2 ++ ((Hh ++ Hk) ++ (⟨pb, true, .row (nodeR (58 :: wc) [] false 2 1 kv3 (.slice none 0 0) full) 94 (0, 0)⟩ :: (Hs3 ++ Hr)))))))) : GC Tryd.prog ⟨62, Tryd.f62, R, w, D⟩ 221 K79 fr (⟨nb, true, .row (nodeR tp idx wl nt pr kv hv f0) 94 (0, 0)⟩ :: ((Hs ++ (Hh ++ Hk)) ++ (⟨hb, true, .row [I (num : Int)] 3 (0, 0)⟩ :: Hr))) := by
 refine GC.weak hsub ?_
 clear hsub
 obtain ⟨X, hX⟩ : ∃ X, X = (Hh ++ Hk) ++ (⟨hb, true, .row [I (num : Int)] 3 (0, 0)⟩ :: Hr) := ⟨_, rfl⟩
 refine GC.turn (H' := ⟨nb, true, .row (nodeR tp idx wl nt pr kv hv f0) 94 (0, 0)⟩ :: (Hs ++ X)) (fun w1 h1 => by rw [hX, ← List.append_assoc]; exact h1) ?_
 have hkl2 := hk.len
 have h88 : ∀ w1, Calls Tryd.prog 77 #[S p] w1 fun e w' => e = .returned (.tuple #[S (58 :: wc), I (i : Int), .bool true]) ∧ HF w1 (fun _ => False) [] w' := by
  intro w1
  have := f88_any w1 p h92 (fun wc2 i2 h => by rw [hf] at h; cases h; exact hwc) hpl
  rw [hf] at this; exact this
 have hwl := List.length_pos_iff.2 hwn
 have hcl : (58 :: wc).length = wc.length + 1 := rfl
 refine GC.block ?_
 refine GC.seq ?_
 refine GC.reg ?_
 refine G.m1 ?_
 refine G.callP Tryd.call77 rfl rfl (fun w1 hw1 => h88 w1) ?_
 refine G.m1 ?_
 refine G.v (V.ex rfl rfl) rfl ?_
 refine G.v (V.ex rfl rfl) rfl ?_
 refine G.v (V.ex rfl rfl) rfl ?_
 refine G.m2 ?_
 refine G.m2 ?_
 refine G.m2 ?_
 refine G.nil ?_
 refine GC.seq ?_
 refine GC.seq ?_
 refine GC.reg ?_
 refine G.m1 ?_
 refine G.v (V.lt rfl rfl) rfl ?_
 refine G.nil ?_
 refine GC.condD rfl (fun h22 => absurd h22 (by omega)) (fun h22 => ?_)
 refine GC.skip ?_
 refine GC.seq ?_
 refine GC.seq ?_
 refine GC.reg ?_
 refine G.m1 ?_
 refine G.v (V.not rfl) rfl ?_
 refine G.nil ?_
 refine GC.cond rfl (fun h24 => absurd h24 (by decide)) (fun h24 => ?_)
 refine GC.skip ?_
 refine GC.seq ?_
 refine GC.seq ?_
 refine GC.reg ?_
 refine G.m1 ?_
 refine G.v (V.lenS Tryd.underlying9 rfl) rfl ?_
 refine G.v (V.lt rfl rfl) rfl ?_
 refine G.nil ?_
 refine GC.condD rfl (fun h34 => absurd h34 (by rw [hcl]; omega)) (fun h34 => ?_)
 refine GC.skip ?_
 refine GC.seq ?_
 refine GC.seq ?_
 refine GC.reg ?_
 refine G.m1 ?_
 refine G.v (V.idx (i := 0) (b := 58) Tryd.underlying9 rfl rfl rfl) rfl ?_
 refine G.v (V.eqI rfl rfl) rfl ?_
 refine G.nil ?_
 refine GC.condD rfl (fun h41 => ?_) (fun h41 => absurd h41 (by decide))
 refine GC.seq ?_
 refine GC.seq ?_
 refine GC.reg ?_
 refine G.m1 ?_
 refine G.v (V.gt rfl rfl) rfl ?_
 refine G.nil ?_
 refine GC.join (fun fr' H' => Sub [(0, Pt nb 0), (1, S (p.drop i)), (2, S full), (3, .slice (some ⟨hb, 0, none⟩) 1 1), (8, S (58 :: wc)), (9, I (i : Int))] fr' ∧ H' = ⟨nb, true, .row (nodeR (cutP tp p i) idx wl nt pr kv hv f0) 94 (0, 0)⟩ :: (Hs ++ X)) (fun J43 => ?_) ?_
 ·refine GC.condD rfl (fun h43 => ?_) (fun h43 => ?_)
  ·refine GC.seq ?_
   refine GC.reg ?_
   refine G.m1 ?_
   refine G.m1 ?_
   refine G.m1 ?_
   refine G.v (V.slH (j := i) Tryd.underlying9 rfl rfl hi) rfl ?_
   refine G.v (V.nc rfl) rfl ?_
   refine G.v (V.fa F94_0 rfl) rfl ?_
   refine G.st (b := nb) (off := 0 + 0) (l := nodeR tp idx wl nt pr kv hv f0) (T := 94) (fz := (0, 0)) (v := S (p.take i)) Tryd.sizeOf9 rfl rfl rfl (.z) rfl rfl ?_
   refine G.nil ?_
   refine GC.reg ?_
   refine G.m1 ?_
   refine G.m1 ?_
   refine G.v (V.slL (i := i) Tryd.underlying9 rfl rfl hi) rfl ?_
   refine G.m2 ?_
   refine G.nil ?_
   have hi0 : 0 < i := by omega
   refine J43 _ _ ⟨.of rfl, ?_⟩
   unfold cutP
   rw [if_pos hi0]
   rfl
  refine GC.skip ?_
  have hi0 : i = 0 := by omega
  subst hi0
  refine J43 _ _ ⟨.of rfl, ?_⟩
  unfold cutP
  rw [if_neg (by omega)]
 rintro fr' H' ⟨hs43, rfl⟩
 refine GC.weak hs43 ?_
 clear hs43
 refine GC.seq ?_
 refine GC.reg ?_
 refine G.m1 ?_
 refine G.m1 ?_
 refine G.v (V.bd (vs := [(3, .int .u8 2), (0, S (58 :: wc)), (7, S full)]) rfl (fun w1 => bd_par _ _ w1)) rfl ?_
 refine G.bx (l := nodeR (58 :: wc) [] false 2 0 (.slice none 0 0) (.slice none 0 0) full) rfl (by simp [cells_agg, nodeR]) rfl (fun pb hpb => ?_)
 refine G.m2 ?_
 refine G.nil ?_
 refine GC.seq ?_
 refine GC.reg ?_
 refine G.m1 ?_
 refine G.m1 ?_
 rw [← hkl2] at hs
 refine G.callL (H1 := ⟨nb, true, .row (nodeR (cutP tp p i) idx wl nt pr kv hv f0) 94 (0, 0)⟩ :: Hs) (Hk := ⟨pb, true, .row (nodeR (58 :: wc) [] false 2 0 (.slice none 0 0) (.slice none 0 0) full) 94 (0, 0)⟩ :: X) (fun v H1' => v = .tuple #[] ∧ ∃ kv' Hs', Own 83 1 kv' (bs.length + 1) ((addB wl bs pb).map (Pt · 0)) Hs' ∧ H1' = ⟨nb, true, .row (nodeR (cutP tp p i) idx wl nt pr kv' hv f0) 94 (0, 0)⟩ :: Hs') (List.perm_middle (l₁ := ⟨nb, true, .row (nodeR (cutP tp p i) idx wl nt pr kv hv f0) 94 (0, 0)⟩ :: Hs)).symm (fun e0 he0 => ?_) Tryd.call65 rfl rfl (fun w1 hw1 _ => ?_) ?_
 ·rcases List.mem_cons.1 he0 with rfl | he0
  ·rfl
  ·exact hs.w e0 he0
 ·refine (f82_any w1 _ nb pb (cutP tp p i) idx wl nt pr hv f0 kv bs Hs (by omega) hs hw1).mono fun e w' ⟨h1, kv', Hs', h2, h3⟩ => ⟨_, _, h1, fun e0 he0 => ?_, h3, rfl, kv', Hs', h2, rfl⟩
  rcases List.mem_cons.1 he0 with rfl | he0
  ·rfl
  ·exact h2.w e0 he0
 rintro v H1' ⟨rfl, kv2, Hs2, hs2, rfl⟩
 refine G.turn (H' := ⟨pb, true, .row (nodeR (58 :: wc) [] false 2 0 (.slice none 0 0) (.slice none 0 0) full) 94 (0, 0)⟩ :: ⟨nb, true, .row (nodeR (cutP tp p i) idx wl nt pr kv2 hv f0) 94 (0, 0)⟩ :: (Hs2 ++ X)) (fun w1 h1 => h1.perm (List.perm_middle (l₁ := ⟨nb, true, .row (nodeR (cutP tp p i) idx wl nt pr kv2 hv f0) 94 (0, 0)⟩ :: Hs2))) ?_
 refine G.nil ?_
 refine GC.seq ?_
 refine GC.reg ?_
 refine G.m1 ?_
 refine G.v (V.nc rfl) rfl ?_
 refine G.v (V.fa F94_2 rfl) rfl ?_
 refine G.st (b := nb) (off := 0 + 2) (l := nodeR (cutP tp p i) idx wl nt pr kv2 hv f0) (T := 94) (fz := (0, 0)) (v := .bool true) Tryd.sizeOf4 rfl rfl rfl (.s .z) rfl rfl ?_
 refine G.nil ?_
 refine GC.seq ?_
 refine GC.turn (H' := ⟨pb, true, .row (nodeR (58 :: wc) [] false 2 0 (.slice none 0 0) (.slice none 0 0) full) 94 (0, 0)⟩ :: ⟨nb, true, .row (nodeR (cutP tp p i) idx true nt pr kv2 hv f0) 94 (0, 0)⟩ :: (Hs2 ++ X)) (fun w1 h1 => h1) ?_
 refine GC.reg ?_
 refine G.m1 ?_
 refine G.m2 ?_
 refine G.nil ?_
 refine GC.seq ?_
 refine GC.reg ?_
 refine G.m1 ?_
 refine G.v (V.nc rfl) rfl ?_
 refine G.v (V.fa F94_4 rfl) rfl ?_
 refine G.v (V.ld (b := pb) (off := 0 + 4) (wf := true) (l := nodeR (58 :: wc) [] false 2 0 (.slice none 0 0) (.slice none 0 0) full) (T := 94) (fz := (0, 0)) (v := .int .u32 ((0 % 4294967296 : Nat) : Int)) Tryd.isAgg89 rfl (.head _) rfl) rfl ?_
 refine G.v (V.add rfl rfl) rfl ?_
 rw [wrapU32]
 refine G.v (V.nc rfl) rfl ?_
 refine G.v (V.fa F94_4 rfl) rfl ?_
 refine G.st (b := pb) (off := 0 + 4) (l := nodeR (58 :: wc) [] false 2 0 (.slice none 0 0) (.slice none 0 0) full) (T := 94) (fz := (0, 0)) (v := .int .u32 (((0 + 1) % 4294967296 : Nat) : Int)) Tryd.sizeOf89 rfl rfl rfl (.z) rfl rfl ?_
 refine G.nil ?_
 refine GC.seq ?_
 refine GC.seq ?_
 refine GC.turn (H' := ⟨pb, true, .row (nodeR (58 :: wc) [] false 2 1 (.slice none 0 0) (.slice none 0 0) full) 94 (0, 0)⟩ :: ⟨nb, true, .row (nodeR (cutP tp p i) idx true nt pr kv2 hv f0) 94 (0, 0)⟩ :: (Hs2 ++ X)) (fun w1 h1 => h1) ?_
 refine GC.reg ?_
 refine G.m1 ?_
 refine G.v (V.lenS Tryd.underlying9 rfl) rfl ?_
 refine G.m1 ?_
 refine G.v (V.lenS Tryd.underlying9 rfl) rfl ?_
 refine G.v (V.lt rfl rfl) rfl ?_
 refine G.nil ?_
 refine GC.condD rfl (fun h75 => ?_) (fun h75 => absurd (by rw [List.length_drop, hcl]; omega) h75)
 refine GC.seq ?_
 refine GC.reg ?_
 refine G.m1 ?_
 refine G.m1 ?_
 refine G.v (V.lenS Tryd.underlying9 rfl) rfl ?_
 refine G.v (V.slL (i := (58 :: wc).length) Tryd.underlying9 rfl rfl (by rw [List.length_drop, hcl]; omega)) rfl ?_
 rw [List.drop_drop]
 refine G.m2 ?_
 refine G.nil ?_
 refine GC.seq ?_
 refine GC.reg ?_
 refine G.m1 ?_
 refine G.v (V.bd (vs := [(4, .int .u32 1), (7, S full)]) rfl (fun w1 => bd_sub _ w1)) rfl ?_
 refine G.bx (l := nodeR [] [] false 0 1 (.slice none 0 0) (.slice none 0 0) full) rfl (by simp [cells_agg, nodeR]) rfl (fun cb hcb => ?_)
 refine G.m2 ?_
 refine G.nil ?_
 refine GC.seq ?_
 refine GC.reg ?_
 refine G.m1 ?_
 refine G.m1 ?_
 refine G.callL (H1 := [⟨pb, true, .row (nodeR (58 :: wc) [] false 2 1 (.slice none 0 0) (.slice none 0 0) full) 94 (0, 0)⟩]) (Hk := ⟨cb, true, .row (nodeR [] [] false 0 1 (.slice none 0 0) (.slice none 0 0) full) 94 (0, 0)⟩ :: ⟨nb, true, .row (nodeR (cutP tp p i) idx true nt pr kv2 hv f0) 94 (0, 0)⟩ :: (Hs2 ++ X)) (fun v H1' => v = .tuple #[] ∧ ∃ kv' Hs', Own 83 1 kv' 1 [Pt cb 0] Hs' ∧ H1' = ⟨pb, true, .row (nodeR (58 :: wc) [] false 2 1 kv' (.slice none 0 0) full) 94 (0, 0)⟩ :: Hs') (List.Perm.swap _ _ _) (fun e0 he0 => ?_) Tryd.call65 rfl rfl (fun w1 hw1 _ => ?_) ?_
 ·rw [List.mem_singleton.1 he0]
 ·refine (f82_any w1 _ pb cb (58 :: wc) [] false 2 1 (.slice none 0 0) full (.slice none 0 0) [] [] (by simp) Own.nil hw1).mono fun e w' ⟨h1, kv', Hs', h2, h3⟩ => ⟨_, _, h1, fun e0 he0 => ?_, h3, rfl, kv', Hs', h2, rfl⟩
  rcases List.mem_cons.1 he0 with rfl | he0
  ·rfl
  ·exact h2.w e0 he0
 rintro v H1' ⟨rfl, kv3, Hs3, hs3, rfl⟩
 refine G.nil ?_
 refine GC.seq ?_
 refine GC.reg ?_
 refine G.m1 ?_
 refine G.m2 ?_
 refine G.nil ?_
 refine GC.exit rfl ?_
 refine GC.inLoop ?_
 refine GC.turn (H' := ⟨cb, true, .row (nodeR [] [] false 0 1 (.slice none 0 0) (.slice none 0 0) full) 94 (0, 0)⟩ :: (⟨hb, true, .row [I (num : Int)] 3 (0, 0)⟩ :: (⟨nb, true, .row (nodeR (cutP tp p i) idx true nt pr kv2 hv f0) 94 (0, 0)⟩ :: (Hs2 ++ ((Hh ++ Hk) ++ (⟨pb, true, .row (nodeR (58 :: wc) [] false 2 1 kv3 (.slice none 0 0) full) 94 (0, 0)⟩ :: (Hs3 ++ Hr))))))) (fun w1 h1 => ?_) (go pb cb kv2 kv3 Hs2 Hs3 _ hs2 hs3 (.of rfl))
 rw [hX] at h1
 have p1 := perm_idx [[⟨pb, true, .row (nodeR (58 :: wc) [] false 2 1 kv3 (.slice none 0 0) full) 94 (0, 0)⟩], Hs3, [⟨cb, true, .row (nodeR [] [] false 0 1 (.slice none 0 0) (.slice none 0 0) full) 94 (0, 0)⟩], [⟨nb, true, .row (nodeR (cutP tp p i) idx true nt pr kv2 hv f0) 94 (0, 0)⟩], Hs2, Hh, Hk, [⟨hb, true, .row [I (num : Int)] 3 (0, 0)⟩], Hr] [0, 1, 2, 3, 4, 5, 6, 7, 8] [2, 7, 3, 4, 5, 6, 0, 1, 8] (by decide)
 exact h1.perm (by simpa using p1)
end Go.Proofs
