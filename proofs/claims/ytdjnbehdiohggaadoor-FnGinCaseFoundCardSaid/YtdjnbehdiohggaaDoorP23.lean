/- Lemmas of the walk and plain facts (HuO3 .. HuD6). -/
import Derived.Test.YtdjnbehdiohggaaDoorP22
import Derived.Test.YtdjnbehdiohggaaDoorP01
import Derived.Test.YtdjnbehdiohggaaDoorP16
import Derived.Test.YtdjnbehdiohggaaDoorP21
/- ginMatch. Printed by wip/mk_go3.py. -/
set_option maxRecDepth 20000
namespace Go.Proofs
open Go Bw
open Gt
theorem bd_84 (a b : List UInt8) (w : World) : (Instr.build 71 #[(0, S a), (1, S b)]).run Tryd.prog w = .ok (.agg #[S a, S b]) w := by
 simp [Instr.build, Tryd.zeroValue71, Tryd.runUnderlying71, Tryd.sizeOf9, cells_agg, Instr.fill, cells_str]
theorem flatP_snoc1 (l : List (List UInt8 × List UInt8)) (a b : List UInt8) : flatP (l ++ [(a, b)]) = flatP l ++ [S a, S b] := by rw [flatP_app]; rfl
/-- the first part of a route has bytes -/
theorem Clean.first {l : List Prt} (h : Gt.Clean l) {p : Prt} (hp : l[0]? = some p) : p.k.toNat = 0 ∧ 0 < p.nm.length := by
 have hop := h.2.2.2 0 p hp
 have hk := hop.1.2 rfl
 exact ⟨hk, List.length_pos_iff.2 (hop.2.2.2.1 hk).1⟩
theorem f55_any (w : World) (l : List Prt) (sv : Value) (hsv : Prts w sv l) (hcl : Gt.Clean l) (path : List UInt8) (hpl : path.length ≤ 1000000) : Calls Tryd.prog 28 #[sv, S path] w fun e w' => ∃ pv ok Hs, e = .returned (.tuple #[pv, .bool ok]) ∧ ((ok = true ∧ ∃ ps, matchN l path = some ps ∧ ps.length ≤ 12 ∧ Own 71 2 pv ps.length (flatP ps) Hs) ∨ (ok = false ∧ matchN l path = none)) ∧ (∀ x ∈ Hs, x.w = true) ∧ HF w (fun _ => False) Hs w' := by
 refine enter (fun _ => False) [] Tryd.func28 rfl Tryd.ntmps28 rfl rfl (HF.start w _) fun c hc => ?_
 subst hc
 obtain ⟨ad, cp, rfl, hcp, hc⟩ := hsv
 have h12 := hcl.2.1
 refine GC.seq ?_
 refine GC.reg ?_
 refine G.m2 ?_
 refine G.m2 ?_
 refine G.nil ?_
 refine GC.seq ?_
 refine GC.reg ?_
 refine G.m2 ?_
 refine G.nil ?_
 refine GC.seq ?_
 refine GC.reg ?_
 refine G.m2 ?_
 refine G.nil ?_
 refine GC.seq ?_
 refine GC.seq ?_
 refine GC.reg ?_
 refine G.m1 ?_
 refine G.v (V.lenL Tryd.underlying30 rfl) rfl ?_
 refine G.m1 ?_
 refine G.nil ?_
 refine GC.block ?_
 refine GC.loopJ (fun N fr' H' => ∃ (j i : Nat) (kv : Value) (Hs : SH) (acc : List (List UInt8 × List UInt8)), j + N = l.length ∧ i ≤ path.length ∧ (1 ≤ j → 1 ≤ i) ∧ acc.length ≤ j ∧ matchN l path = mAt path (l.drop j) i acc ∧ Own 71 2 kv acc.length (flatP acc) Hs ∧ Sub [(1, S path), (6, kv), (7, I (i : Nat)), (11, .slice ad l.length cp), (12, I (l.length : Nat)), (13, I (j : Nat))] fr' ∧ Hs = H') l.length
  ⟨0, 0, .slice none 0 0, [], [], by omega, by omega, by omega, by simp, rfl, Own.nil, .of rfl, rfl⟩ ?_
 rintro N fr' H' ⟨j, i, kv, Hs, acc, hj, hil, hi1, hal, hma, hown, hs2, rfl⟩ ih
 refine GC.weak hs2 ?_
 clear hs2
 refine GC.seq ?_
 refine GC.reg ?_
 refine G.v (V.lt rfl rfl) rfl ?_
 refine G.nil ?_
 refine GC.seq ?_
 refine GC.condD rfl (fun h14 => ?_) (fun h14 => ?_)
 ·refine GC.skip ?_
  refine GC.seq ?_
  refine GC.block ?_
  refine GC.seq ?_
  have hjl : j < l.length := by omega
  obtain ⟨p, hp⟩ : ∃ p, l[j]? = some p := ⟨_, List.getElem?_eq_getElem hjl⟩
  obtain ⟨b, o, rfl, hc1, hc2⟩ := hc j p hp
  have hop := hcl.2.2.2 j p hp
  have hk2 := hop.2.1
  have hdr := drop_at hp
  rw [hdr] at hma
  unfold mAt at hma
  refine GC.reg ?_
  refine G.v (V.ia (i := j) Tryd.underlying30 Tryd.sizeOf32 rfl rfl hjl) rfl ?_
  refine G.v (V.ldAC (s := 2) (cs := prV p) Tryd.isAgg32 Tryd.sizeOf32 rfl (cells2 hc1 hc2) rfl id) rfl ?_
  refine G.al Tryd.zeroValue32 rfl rfl (fun pb hpb => ?_)
  refine G.stA (cs := prV p) Tryd.sizeOf32 rfl rfl (by simp [prV, Value.oneCell']) .z rfl ?_
  refine G.nil ?_
  refine GC.seq ?_
  refine GC.reg ?_
  refine G.v (V.fa F32_0 rfl) rfl ?_
  refine G.v (V.ld (b := pb) (off := 0 + 0) (wf := true) (l := prV p) (T := 32) (fz := (0, 0)) (v := .int .u8 (p.k.toNat : Int)) Tryd.isAgg5 rfl (.head _) rfl) rfl ?_
  refine G.nil ?_
  refine GC.block ?_
  refine GC.seq ?_
  refine GC.reg ?_
  refine G.v (V.eqI rfl rfl) rfl ?_
  refine G.m2 ?_
  refine G.nil ?_
  refine GC.condD rfl (fun h19 => ?_) (fun h19 => ?_)
  ·refine GC.seq ?_
   refine GC.seq ?_
   have hk0 : p.k.toNat = 0 := by omega
   rw [if_pos hk0] at hma
   refine GC.regQ mixed (by kernel_rfl) ?_
   refine GQ.v (V.mv rfl) rfl ?_
   refine GQ.v (V.mv rfl) rfl ?_
   refine GQ.v (V.slL (i := i) Tryd.underlying9 rfl rfl hil) rfl ?_
   refine GQ.v (V.fa F32_1 rfl) rfl ?_
   refine GQ.v (V.ld (b := pb) (off := 0 + 1) (wf := true) (l := prV p) (T := 32) (fz := (0, 0)) (v := S p.nm) Tryd.isAgg9 rfl (.head _) rfl) rfl ?_
   refine GQ.callP (v := .bool (decide (p.nm <+: path.drop i))) Tryd.call19 rfl rfl (fun w1 hw1 => f46_any w1 (path.drop i) p.nm (by rw [List.length_drop]; omega) (by have := (hop.2.2.2.1 hk0).2.1; omega)) ?_
   refine GQ.v (V.not rfl) rfl ?_
   refine GQ.nil ?_
   refine GC.cond rfl (fun h27 => ?_) (fun h27 => ?_)
   ·refine GC.seq ?_
    refine GC.reg ?_
    refine G.m2 ?_
    refine G.m2 ?_
    refine G.nil ?_
    refine GC.ret2 rfl rfl rfl fun w' hw' => ⟨_, _, [], rfl, ?_, by simp, hw'.sub (List.nil_sublist _)⟩
    have hnp : ¬ p.nm <+: path.drop i := by simpa using h27
    rw [if_neg (fun h => hnp (List.isPrefixOf_iff_prefix.1 h))] at hma
    exact .inr ⟨rfl, hma⟩
   refine GC.skip ?_
   have hpre : p.nm <+: path.drop i := by simpa using h27
   have hple := hpre.length_le
   rw [List.length_drop] at hple
   rw [if_pos (List.isPrefixOf_iff_prefix.2 hpre)] at hma
   refine GC.reg ?_
   refine G.m1 ?_
   refine G.v (V.fa F32_1 rfl) rfl ?_
   refine G.v (V.ld (b := pb) (off := 0 + 1) (wf := true) (l := prV p) (T := 32) (fz := (0, 0)) (v := S p.nm) Tryd.isAgg9 rfl (.head _) rfl) rfl ?_
   refine G.v (V.lenS Tryd.underlying9 rfl) rfl ?_
   refine G.v (V.addI (r := ((i + p.nm.length : Nat) : Int)) rfl rfl (by omega) (by omega) (by omega)) rfl ?_
   refine G.m2 ?_
   refine G.nil ?_
   refine GC.inBlock ?_
   refine GC.inBlock ?_
   refine GC.reg ?_
   refine G.v (V.addI (r := ((j + 1 : Nat) : Int)) rfl rfl rfl (by omega) (by omega)) rfl ?_
   refine G.m1 ?_
   refine G.nil ?_
   have hnm : 0 < p.nm.length := List.length_pos_iff.2 (hop.2.2.2.1 hk0).1
   refine GC.turn (H' := Hs) (fun w1 h1 => h1.sub (List.sublist_cons_self _ _)) ?_
   exact ih (N - 1) _ _ (by omega) ⟨j + 1, i + p.nm.length, kv, Hs, acc, by omega, by omega, by omega, by omega, hma, hown, .of rfl, rfl⟩
  refine GC.seq ?_
  refine GC.reg ?_
  refine G.v (V.eqI rfl rfl) rfl ?_
  refine G.m2 ?_
  refine G.nil ?_
  refine GC.condD rfl (fun h33 => ?_) (fun h33 => ?_)
  ·refine GC.seq ?_
   have hk1 : p.k.toNat = 1 := by omega
   rw [if_neg (by omega), if_pos hk1] at hma
   obtain ⟨m, hm⟩ : ∃ m, m = ((path.drop i).takeWhile (· ≠ 47)).length := ⟨_, rfl⟩
   have hml : m ≤ path.length - i := by
    rw [hm, ← List.length_drop]
    exact (List.takeWhile_sublist _).length_le
   rw [← hm] at hma
   refine GC.reg ?_
   refine G.m1 ?_
   refine G.m1 ?_
   refine G.v (V.slL (i := i) Tryd.underlying9 rfl rfl hil) rfl ?_
   refine G.callP (v := I (Lib.indexByte (path.drop i) 47)) Tryd.call42 rfl rfl (fun w1 hw1 => f52_any w1 (path.drop i) 47) ?_
   rw [index47, ← hm]
   refine G.m2 ?_
   refine G.nil ?_
   refine GC.seq ?_
   refine GC.seq ?_
   refine GC.reg ?_
   refine G.m1 ?_
   refine G.v (V.lt rfl rfl) rfl ?_
   refine G.nil ?_
   refine GC.join (fun fr' H' => Sub [(9, Pt pb 0), (10, I (m : Nat)), (1, S path), (6, kv), (7, I (i : Nat)), (11, .slice (some ⟨b, o, none⟩) l.length cp), (12, I (l.length : Nat)), (13, I (j : Nat))] fr' ∧ H' = ⟨pb, true, .row (prV p) 32 (0, 0)⟩ :: Hs) (fun J40 => ?_) ?_
   ·refine GC.condD rfl (fun h40 => ?_) (fun h40 => ?_)
    ·refine GC.reg ?_
     refine G.m1 ?_
     refine G.v (V.lenS Tryd.underlying9 rfl) rfl ?_
     refine G.m1 ?_
     have hn47 : ¬ (47 : UInt8) ∈ path.drop i := fun h => by rw [if_pos h] at h40; omega
     have hmm : m = path.length - i := by
      rw [hm, takeW hn47, List.length_drop]
     refine G.v (V.subI (r := (m : Int)) rfl rfl (by omega) (by omega) (by omega)) rfl ?_
     refine G.m2 ?_
     refine G.nil ?_
     exact J40 _ _ ⟨.of rfl, rfl⟩
    refine GC.skip ?_
    have h47 : (47 : UInt8) ∈ path.drop i := Classical.byContradiction fun h => (by rw [if_neg h] at h40; omega)
    refine J40 _ _ ⟨?_, rfl⟩
    rw [if_pos h47]
    exact .of rfl
   rintro fr' H' ⟨hs4, rfl⟩
   refine GC.weak hs4 ?_
   clear hs4
   refine GC.seq ?_
   refine GC.seq ?_
   refine GC.reg ?_
   refine G.m1 ?_
   refine G.v (V.eqI rfl rfl) rfl ?_
   refine G.nil ?_
   refine GC.condD rfl (fun h46 => ?_) (fun h46 => ?_)
   ·refine GC.seq ?_
    refine GC.reg ?_
    refine G.m2 ?_
    refine G.m2 ?_
    refine G.nil ?_
    refine GC.ret2 rfl rfl rfl fun w' hw' => ⟨_, _, [], rfl, ?_, by simp, hw'.sub (List.nil_sublist _)⟩
    rw [if_pos (by omega)] at hma
    exact .inr ⟨rfl, hma⟩
   refine GC.skip ?_
   refine GC.seq ?_
   have hm0 : ¬ m = 0 := by omega
   rw [if_neg hm0] at hma
   have htk : (path.take (i + m)).drop i = (path.drop i).takeWhile (· ≠ 47) := by
    rw [List.drop_take, Nat.add_sub_cancel_left, hm]
    exact (List.prefix_iff_eq_take.1 (List.takeWhile_prefix _)).symm
   refine GC.regM 12 (fun w1 => w1.heap[pb]? = some (Blk.den (.row (prV p) 32 (0, 0)))) mixed (by kernel_rfl) ?_
   refine GM.p 0 rfl (by kernel_rfl) (by kernel_rfl) (fun w1 h1 => h1.has ⟨pb, true, .row (prV p) 32 (0, 0)⟩ (by first | exact .head _ | exact .tail _ (.head _))) (fun _ => V.mv rfl) rfl ?_
   refine GM.p 1 rfl (by kernel_rfl) (by kernel_rfl) (fun w1 h1 => h1.has ⟨pb, true, .row (prV p) 32 (0, 0)⟩ (by first | exact .head _ | exact .tail _ (.head _))) (fun _ => V.fa F32_1 rfl) rfl ?_
   refine GM.ld 2 rfl (by kernel_rfl) (by kernel_rfl) (fun w1 h1 => h1.has ⟨pb, true, .row (prV p) 32 (0, 0)⟩ (by first | exact .head _ | exact .tail _ (.head _))) Tryd.isAgg9 rfl (fun w1 h1 => cellB h1 rfl) rfl ?_
   refine GM.p 3 rfl (by kernel_rfl) (by kernel_rfl) (fun w1 h1 => h1.has ⟨pb, true, .row (prV p) 32 (0, 0)⟩ (by first | exact .head _ | exact .tail _ (.head _))) (fun _ => V.mv rfl) rfl ?_
   refine GM.p 4 rfl (by kernel_rfl) (by kernel_rfl) (fun w1 h1 => h1.has ⟨pb, true, .row (prV p) 32 (0, 0)⟩ (by first | exact .head _ | exact .tail _ (.head _))) (fun _ => V.mv rfl) rfl ?_
   refine GM.p 5 rfl (by kernel_rfl) (by kernel_rfl) (fun w1 h1 => h1.has ⟨pb, true, .row (prV p) 32 (0, 0)⟩ (by first | exact .head _ | exact .tail _ (.head _))) (fun _ => V.mv rfl) rfl ?_
   refine GM.p 6 rfl (by kernel_rfl) (by kernel_rfl) (fun w1 h1 => h1.has ⟨pb, true, .row (prV p) 32 (0, 0)⟩ (by first | exact .head _ | exact .tail _ (.head _))) (fun _ => V.mv rfl) rfl ?_
   refine GM.p 7 rfl (by kernel_rfl) (by kernel_rfl) (fun w1 h1 => h1.has ⟨pb, true, .row (prV p) 32 (0, 0)⟩ (by first | exact .head _ | exact .tail _ (.head _))) (fun _ => V.addI (r := ((i + m : Nat) : Int)) rfl rfl (by omega) (by omega) (by omega)) rfl ?_
   refine GM.p 8 rfl (by kernel_rfl) (by kernel_rfl) (fun w1 h1 => h1.has ⟨pb, true, .row (prV p) 32 (0, 0)⟩ (by first | exact .head _ | exact .tail _ (.head _))) (fun _ => V.slLHe (i := i) (j := i + m) Tryd.underlying9 rfl rfl rfl (by omega) (by omega) htk) rfl ?_
   refine GM.p 9 rfl (by kernel_rfl) (by kernel_rfl) (fun w1 h1 => h1.has ⟨pb, true, .row (prV p) 32 (0, 0)⟩ (by first | exact .head _ | exact .tail _ (.head _))) (fun _ => V.bd (vs := [(0, S p.nm), (1, S ((path.drop i).takeWhile (· ≠ 47)))]) rfl (fun w1 => bd_84 _ _ w1)) rfl ?_
   refine GM.one 10 rfl (by kernel_rfl) ?_
   refine GMB.bs (vl := [(0, .agg #[S p.nm, S ((path.drop i).takeWhile (· ≠ 47))])]) (vs := [S p.nm, S ((path.drop i).takeWhile (· ≠ 47))]) (BS.two Tryd.underlying36 Tryd.sizeOf71 Tryd.zeroValue71) rfl (fun w1 h1 => h1.has ⟨pb, true, .row (prV p) 32 (0, 0)⟩ (.head _)) rfl (fun sb => ?_)
   refine GM.one 11 rfl (by kernel_rfl) ?_
   refine GMB.app (i := Tryd.t71) (sz := 2) (by_ := 32) (vs := [S p.nm, S ((path.drop i).takeWhile (· ≠ 47))]) Tryd.underlying36 rfl rfl rfl rfl rfl rfl rfl hown (H' := [⟨sb, true, .row [S p.nm, S ((path.drop i).takeWhile (· ≠ 47))] 71 (0, 0)⟩, ⟨pb, true, .row (prV p) 32 (0, 0)⟩]) (List.perm_append_comm (l₁ := ([⟨sb, true, .row [S p.nm, S ((path.drop i).takeWhile (· ≠ 47))] 71 (0, 0)⟩, ⟨pb, true, .row (prV p) 32 (0, 0)⟩] : SH))) (src_row (vs := [S p.nm, S ((path.drop i).takeWhile (· ≠ 47))]) (r := []) (.head _)) rfl (by simp [Value.oneCell']) (by omega) (by omega) (by omega) (fun w1 h1 => h1.has ⟨pb, true, .row (prV p) 32 (0, 0)⟩ (.tail _ (.head _))) rfl (fun kv2 Hs2 hown2 => ?_)
   refine GM.tl (by kernel_rfl) ?_
   refine G.m2 ?_
   refine G.nil ?_
   refine GC.turn (H' := Hs2) (fun w1 h1 => h1.sub (List.sublist_append_right _ _)) ?_
   have hown3 : Own 71 2 kv2 (acc ++ [(p.nm, ((path.drop i).takeWhile (· ≠ 47)))]).length (flatP (acc ++ [(p.nm, ((path.drop i).takeWhile (· ≠ 47)))])) Hs2 := by
    rw [flatP_snoc1, List.length_append]
    exact hown2
   refine GC.reg ?_
   refine G.m1 ?_
   refine G.m1 ?_
   refine G.v (V.addI (r := ((i + m : Nat) : Int)) rfl rfl (by omega) (by omega) (by omega)) rfl ?_
   refine G.m2 ?_
   refine G.nil ?_
   refine GC.inBlock ?_
   refine GC.inBlock ?_
   refine GC.reg ?_
   refine G.v (V.addI (r := ((j + 1 : Nat) : Int)) rfl rfl rfl (by omega) (by omega)) rfl ?_
   refine G.m1 ?_
   refine G.nil ?_
   exact ih (N - 1) _ _ (by omega) ⟨j + 1, i + m, kv2, Hs2, _, by omega, by omega, by omega, by simp; omega, hma, hown3, .of rfl, rfl⟩
  refine GC.seq ?_
  refine GC.reg ?_
  refine G.v (V.eqI rfl rfl) rfl ?_
  refine G.m2 ?_
  refine G.nil ?_
  refine GC.condD rfl (fun h62 => ?_) (fun h62 => ?_)
  ·refine GC.seq ?_
   have hk2' : p.k.toNat = 2 := by omega
   rw [if_neg (by omega), if_neg (by omega)] at hma
   have hj1 : 1 ≤ j := by
    rcases Nat.eq_zero_or_pos j with h0 | h0
    ·subst h0; have := (Clean.first hcl hp).1; omega
    ·exact h0
   have hi1' := hi1 hj1
   refine GC.regM 10 (fun w1 => w1.heap[pb]? = some (Blk.den (.row (prV p) 32 (0, 0)))) mixed (by kernel_rfl) ?_
   refine GM.p 0 rfl (by kernel_rfl) (by kernel_rfl) (fun w1 h1 => h1.has ⟨pb, true, .row (prV p) 32 (0, 0)⟩ (by first | exact .head _ | exact .tail _ (.head _))) (fun _ => V.mv rfl) rfl ?_
   refine GM.p 1 rfl (by kernel_rfl) (by kernel_rfl) (fun w1 h1 => h1.has ⟨pb, true, .row (prV p) 32 (0, 0)⟩ (by first | exact .head _ | exact .tail _ (.head _))) (fun _ => V.fa F32_1 rfl) rfl ?_
   refine GM.ld 2 rfl (by kernel_rfl) (by kernel_rfl) (fun w1 h1 => h1.has ⟨pb, true, .row (prV p) 32 (0, 0)⟩ (by first | exact .head _ | exact .tail _ (.head _))) Tryd.isAgg9 rfl (fun w1 h1 => cellB h1 rfl) rfl ?_
   refine GM.p 3 rfl (by kernel_rfl) (by kernel_rfl) (fun w1 h1 => h1.has ⟨pb, true, .row (prV p) 32 (0, 0)⟩ (by first | exact .head _ | exact .tail _ (.head _))) (fun _ => V.mv rfl) rfl ?_
   refine GM.p 4 rfl (by kernel_rfl) (by kernel_rfl) (fun w1 h1 => h1.has ⟨pb, true, .row (prV p) 32 (0, 0)⟩ (by first | exact .head _ | exact .tail _ (.head _))) (fun _ => V.mv rfl) rfl ?_
   refine GM.p 5 rfl (by kernel_rfl) (by kernel_rfl) (fun w1 h1 => h1.has ⟨pb, true, .row (prV p) 32 (0, 0)⟩ (by first | exact .head _ | exact .tail _ (.head _))) (fun _ => V.subI (r := ((i - 1 : Nat) : Int)) rfl rfl (by omega) (by omega) (by omega)) rfl ?_
   refine GM.p 6 rfl (by kernel_rfl) (by kernel_rfl) (fun w1 h1 => h1.has ⟨pb, true, .row (prV p) 32 (0, 0)⟩ (by first | exact .head _ | exact .tail _ (.head _))) (fun _ => V.slL (i := i - 1) Tryd.underlying9 rfl rfl (by omega)) rfl ?_
   refine GM.p 7 rfl (by kernel_rfl) (by kernel_rfl) (fun w1 h1 => h1.has ⟨pb, true, .row (prV p) 32 (0, 0)⟩ (by first | exact .head _ | exact .tail _ (.head _))) (fun _ => V.bd (vs := [(0, S p.nm), (1, S (path.drop (i - 1)))]) rfl (fun w1 => bd_84 _ _ w1)) rfl ?_
   refine GM.one 8 rfl (by kernel_rfl) ?_
   refine GMB.bs (vl := [(0, .agg #[S p.nm, S (path.drop (i - 1))])]) (vs := [S p.nm, S (path.drop (i - 1))]) (BS.two Tryd.underlying36 Tryd.sizeOf71 Tryd.zeroValue71) rfl (fun w1 h1 => h1.has ⟨pb, true, .row (prV p) 32 (0, 0)⟩ (.head _)) rfl (fun sb => ?_)
   refine GM.one 9 rfl (by kernel_rfl) ?_
   refine GMB.app (i := Tryd.t71) (sz := 2) (by_ := 32) (vs := [S p.nm, S (path.drop (i - 1))]) Tryd.underlying36 rfl rfl rfl rfl rfl rfl rfl hown (H' := [⟨sb, true, .row [S p.nm, S (path.drop (i - 1))] 71 (0, 0)⟩, ⟨pb, true, .row (prV p) 32 (0, 0)⟩]) (List.perm_append_comm (l₁ := ([⟨sb, true, .row [S p.nm, S (path.drop (i - 1))] 71 (0, 0)⟩, ⟨pb, true, .row (prV p) 32 (0, 0)⟩] : SH))) (src_row (vs := [S p.nm, S (path.drop (i - 1))]) (r := []) (.head _)) rfl (by simp [Value.oneCell']) (by omega) (by omega) (by omega) (fun w1 h1 => h1.has ⟨pb, true, .row (prV p) 32 (0, 0)⟩ (.tail _ (.head _))) rfl (fun kv2 Hs2 hown2 => ?_)
   refine GM.tl (by kernel_rfl) ?_
   refine G.m2 ?_
   refine G.nil ?_
   refine GC.turn (H' := Hs2) (fun w1 h1 => h1.sub (List.sublist_append_right _ _)) ?_
   have hown3 : Own 71 2 kv2 (acc ++ [(p.nm, (path.drop (i - 1)))]).length (flatP (acc ++ [(p.nm, (path.drop (i - 1)))])) Hs2 := by
    rw [flatP_snoc1, List.length_append]
    exact hown2
   refine GC.reg ?_
   refine G.m1 ?_
   refine G.v (V.lenS Tryd.underlying9 rfl) rfl ?_
   refine G.m2 ?_
   refine G.nil ?_
   refine GC.inBlock ?_
   refine GC.inBlock ?_
   refine GC.reg ?_
   refine G.v (V.addI (r := ((j + 1 : Nat) : Int)) rfl rfl rfl (by omega) (by omega)) rfl ?_
   refine G.m1 ?_
   refine G.nil ?_
   exact ih (N - 1) _ _ (by omega) ⟨j + 1, path.length, kv2, Hs2, _, by omega, by omega, by omega, by simp; omega, hma, hown3, .of rfl, rfl⟩
  refine GC.skip ?_
  refine GC.inBlock ?_
  refine GC.inBlock ?_
  refine GC.reg ?_
  refine G.v (V.addI (r := ((j + 1 : Nat) : Int)) rfl rfl rfl (by omega) (by omega)) rfl ?_
  refine G.m1 ?_
  refine G.nil ?_
  omega
 refine GC.exit rfl ?_
 refine GC.seq ?_
 refine GC.reg ?_
 refine G.m1 ?_
 refine G.m1 ?_
 refine G.m1 ?_
 refine G.v (V.lenS Tryd.underlying9 rfl) rfl ?_
 refine G.v (V.eqI rfl rfl) rfl ?_
 refine G.m2 ?_
 refine G.m2 ?_
 refine G.nil ?_
 have hje : j = l.length := by omega
 rw [hje, List.drop_length] at hma
 unfold mAt at hma
 refine GC.ret2 rfl rfl rfl fun w' hw' => ⟨_, _, _, rfl, ?_, ?_, hw'⟩
 ·by_cases hii : i = path.length
  ·rw [if_pos hii] at hma
   exact .inl ⟨decide_eq_true (by omega), acc, hma, by omega, hown⟩
  ·rw [if_neg hii] at hma
   exact .inr ⟨decide_eq_false (by omega), hma⟩
 ·exact hown.w
end Go.Proofs

/- Rules for a region that is drawn: one of two operations first; a store. -/
namespace Bw
open Go
variable {P : Program} {c : Cx} {n : Nat} {k : List Item} {fr : SF} {H : SH} {ops : Array Oper} {rest tail : List Oper} {ty t u : TypeId} {pos : String} {aft : Array Edge} {S : World → Prop} {m fuel : Nat} {listed : Array Bool}
theorem GM.two (i j : Nat) {oi oj : Oper} (hi : ops[i]? = some oi) (hj : ops[j]? = some oj) (hr : (match Region.ready .any ops listed with | [x, y] => Nat.beq x i && Nat.beq y j && Nat.blt i m && Nat.blt j m | _ => false) = true)
  (h1 : GMB P c n k ops S m tail fuel (listed.setIfInBounds i true) oi fr H) (h2 : GMB P c n k ops S m tail fuel (listed.setIfInBounds j true) oj fr H) : GM P c n k ops S m tail (fuel + 1) listed fr H := by
 have hr' : Region.ready .any ops listed = [i, j] ∧ i < m ∧ j < m := by
  split at hr
  ·rename_i x y e
   simp only [Bool.and_eq_true] at hr
   have e2 := Nat.eq_of_beq_eq_true hr.1.1.1
   have e3 := Nat.eq_of_beq_eq_true hr.1.1.2
   subst e2 e3
   exact ⟨e, by simpa [Nat.blt_eq] using hr.1.2, by simpa [Nat.blt_eq] using hr.2⟩
  ·cases hr
 intro hf a w ha hw inv
 refine ⟨by rw [hr'.1]; simp, fun q hq => ?_⟩
 have hq' := hq
 rw [hr'.1] at hq
 simp only [List.mem_cons, List.not_mem_nil, or_false] at hq
 rcases hq with rfl | rfl
 ·refine ⟨hr'.2.1, ?_⟩
  obtain ⟨g1, g2⟩ := h1 hf a w ha hw (inv.set hq' hr'.2.1)
  unfold wpOp
  simp only [hi]
  have : Region.wanted oi (yielded ops a.tmps) = true := by simp [Region.wanted, g1]
  rw [if_pos this]
  exact .inl g2
 ·refine ⟨hr'.2.2, ?_⟩
  obtain ⟨g1, g2⟩ := h2 hf a w ha hw (inv.set hq' hr'.2.2)
  unfold wpOp
  simp only [hj]
  have : Region.wanted oj (yielded ops a.tmps) = true := by simp [Region.wanted, g1]
  rw [if_pos this]
  exact .inl g2
theorem GMB.st {x y : Operand} {v : Value} {b off i : Nat} {l : List Value} {T : TypeId} {fz : Nat × Nat} (hs : ∀ w, (Go.sizeOf t).run P w = .ok 1 w) (hx : ev fr x = some (Pt b off)) (hy : ev fr y = some v)
  (h1 : v.oneCell' = true) (hi : At i ⟨b, true, .row l T fz⟩ H) (hc : (nth l off).isSome = true) (hf : (Nat.ble fz.1 off && Nat.blt off fz.2) = false) (hS : ∀ w, S w)
  (hk : GM P c n k ops S m tail fuel listed fr (putE (.row (setL l off v) T fz) i H)) : GMB P c n k ops S m tail fuel listed ⟨none, .store t x y, ty, pos, aft, none⟩ fr H := by
 intro hf' a w ha hw inv
 have hr : (execOp a.eval ⟨none, .store t x y, ty, pos, aft, none⟩).run P w = .ok .skip (w.setCell ⟨b, off, none⟩ v) := by
  obtain ⟨u, hu⟩ := Option.isSome_iff_exists.1 hc
  have hcell := cell_row hw hi.mem hu
  have hfz := frozen_row hw hi.mem (off := off)
  rw [bool_of_frz hf] at hfz
  have hcs : v.cells = #[v] := by cases v <;> first | rfl | (simp [Value.oneCell'] at h1)
  have hst := run_store P w ⟨b, off, none⟩ v .plain h1
  simp only [hcell, hfz] at hst
  simp [execOp, ha.eval hx, ha.eval hy, Instr.storeAt, Instr.sureAddr, storeVar, hcs, hs, storeCells, Addr.add, hst]
 refine ⟨rfl, ?_⟩
 simp only [Oper.wp, hr, Oper.upon]
 exact ⟨hS _, hk hf' _ _ ha (hw.setCell hi v) inv⟩
end Bw

/- Routes as texts. Printed by wip/mk_gn7.py. -/
set_option maxRecDepth 20000
namespace Go.Proofs
open Go Bw
open Gt
theorem _root_.Bw.G.appZ {P : Program} {c : Cx} {n : Nat} {k : List Item} {fr : SF} {H : SH} {ops : Array Oper} {rest : List Oper} {ty : TypeId} {pos : String} {aft : Array Edge} {T e sz by_ : Nat} {i : TypeInfo} {z : Value} {x y : Operand} {sv : Value} {n0 : Nat} {xs vs : List Value} {Hs H' : SH} {ad : Option Addr} {m1 mc d : Nat}
  (hT : P.underlying T = some (.slice e)) (hi : P.info? e = some i) (hz : i.zero = some z) (hsz : i.size = sz) (hby : i.bytes = by_) (hzs : z.cells.size = sz)
  (hx : ev fr x = some sv) (hy : ev fr y = some (.slice ad m1 mc)) (hown : Own e sz sv n0 xs Hs) (hperm : H.Perm (Hs ++ H'))
  (hsrc : 0 < m1 → ∃ a, ad = some a ∧ ∀ w, HF c.w0 c.D H w → ∀ j u, vs[j]? = some u → w.cell? (a.add j) = some u) (hvl : vs.length = m1 * sz) (h1 : ∀ u ∈ vs, u.oneCell' = true) (hbd : (n0 + m1) * by_ ≤ 140737488355328) (h63 : n0 + m1 ≤ 9223372036854775807)
  (hd : Nat.blt d n = true)
  (hk : ∀ sv' Hs', Own e sz sv' (n0 + m1) (xs ++ vs) Hs' → G P c n k ops rest ((d, sv') :: fr) (H' ++ Hs')) :
  G P c n k ops (⟨some d, .call ⟨.builtin .append, #[x, y], #[T, T]⟩, ty, pos, aft, none⟩ :: rest) fr H := by
 rcases Nat.eq_zero_or_pos m1 with h0 | h0
 ·subst h0
  have hv : vs = [] := List.length_eq_zero_iff.1 (by omega)
  subst hv
  obtain ⟨ad1, cp1, rfl, hle⟩ : ∃ ad1 cp1, sv = .slice ad1 n0 cp1 ∧ n0 ≤ cp1 := by
   cases hown with
   | nil => exact ⟨none, 0, rfl, Nat.le_refl _⟩
   | row hn hc hle => exact ⟨_, _, rfl, hle⟩
  have hk' := hk _ _ (by rw [Nat.add_zero, List.append_nil]; exact hown)
  refine G.v (V.app0 hT hi hz hx hy hle) hd ?_
  intro hf a w ha hw
  exact hk' hf a w ha (hw.perm (hperm.trans List.perm_append_comm))
 ·obtain ⟨a, rfl, hs⟩ := hsrc h0
  exact G.app hT hi hz hsz hby hzs hx hy hown hperm hs hvl h1 h0 hbd h63 hd hk
theorem rtT_snoc {l : List Prt} {j : Nat} {p : Prt} (h : l[j]? = some p) : rtT (l.take (j + 1)) = rtT (l.take j) ++ rtP p := by
 rw [take_snoc h]; simp [rtT]
theorem rtT_take_le {l : List Prt} (j : Nat) : (rtT (l.take j)).length ≤ (rtT l).length := by
 have : rtT l = rtT (l.take j) ++ rtT (l.drop j) := by unfold rtT; rw [← List.flatMap_append, List.take_append_drop]
 rw [this, List.length_append]; omega
theorem f24_any (w : World) (l : List Prt) (sv : Value) (hsv : Prts w sv l) (hlen : (rtT l).length ≤ 1000000) (hll : l.length ≤ 1000000) : Calls Tryd.prog 24 #[sv] w fun e w' => e = .returned (S (rtT l)) ∧ HF w (fun _ => False) [] w' := by
 refine enter (fun _ => False) [] Tryd.func24 rfl Tryd.ntmps24 rfl rfl (HF.start w _) fun c hc => ?_
 subst hc
 obtain ⟨ad, cp, rfl, hcp, hc⟩ := hsv
 refine GC.seq ?_
 refine GC.reg ?_
 refine G.m2 ?_
 refine G.nil ?_
 refine GC.seq ?_
 refine GC.reg ?_
 refine G.m2 ?_
 refine G.nil ?_
 refine GC.seq ?_
 refine GC.seq ?_
 refine GC.reg ?_
 refine G.m1 ?_
 refine G.v (V.lenL Tryd.underlying30 rfl) rfl ?_
 refine G.m1 ?_
 refine G.nil ?_
 refine GC.block ?_
 refine GC.loopJ (fun N fr' H' => ∃ j, j + N = l.length ∧ Sub [(3, S (rtT (l.take j))), (6, .slice ad l.length cp), (7, I (l.length : Nat)), (8, I (j : Nat))] fr' ∧ H' = []) l.length
  ⟨0, by omega, .of rfl, rfl⟩ ?_
 rintro N fr' H' ⟨j, hj, hs2, rfl⟩ ih
 refine GC.weak hs2 ?_
 clear hs2
 refine GC.seq ?_
 refine GC.reg ?_
 refine G.v (V.lt rfl rfl) rfl ?_
 refine G.nil ?_
 refine GC.seq ?_
 refine GC.condD rfl (fun h9 => ?_) (fun h9 => ?_)
 ·refine GC.skip ?_
  refine GC.seq ?_
  refine GC.block ?_
  refine GC.seq ?_
  have hjl : j < l.length := by omega
  obtain ⟨p, hp⟩ : ∃ p, l[j]? = some p := ⟨_, List.getElem?_eq_getElem hjl⟩
  obtain ⟨b, o, rfl, hc1, hc2⟩ := hc j p hp
  have hsn := rtT_snoc hp
  have hle := rtT_take_le (l := l) (j + 1)
  rw [hsn, List.length_append] at hle
  unfold rtP at hsn hle
  rw [List.length_append] at hle
  refine GC.reg ?_
  refine G.v (V.ia (i := j) Tryd.underlying30 Tryd.sizeOf32 rfl rfl hjl) rfl ?_
  refine G.v (V.ldAC (s := 2) (cs := prV p) Tryd.isAgg32 Tryd.sizeOf32 rfl (cells2 hc1 hc2) rfl id) rfl ?_
  refine G.al Tryd.zeroValue32 rfl rfl (fun pb hpb => ?_)
  refine G.stA (cs := prV p) Tryd.sizeOf32 rfl rfl (by simp [prV, Value.oneCell']) .z rfl ?_
  refine G.nil ?_
  refine GC.seq ?_
  refine GC.seq ?_
  refine GC.reg ?_
  refine G.v (V.fa F32_0 rfl) rfl ?_
  refine G.v (V.ld (b := pb) (off := 0 + 0) (wf := true) (l := prV p) (T := 32) (fz := (0, 0)) (v := .int .u8 (p.k.toNat : Int)) Tryd.isAgg5 rfl (.head _) rfl) rfl ?_
  refine G.nil ?_
  refine GC.block ?_
  refine GC.seq ?_
  refine GC.reg ?_
  refine G.v (V.eqI rfl rfl) rfl ?_
  refine G.m2 ?_
  refine G.nil ?_
  refine GC.join (fun fr' H' => Sub [(3, S (rtT (l.take j) ++ (if p.k.toNat = 1 then [58] else if p.k.toNat = 2 then [42] else []))), (5, Pt pb 0), (6, .slice (some ⟨b, o, none⟩) l.length cp), (7, I (l.length : Nat)), (8, I (j : Nat))] fr' ∧ H' = [⟨pb, true, .row (prV p) 32 (0, 0)⟩]) (fun J14 => ?_) ?_
  ·refine GC.condD rfl (fun h14 => ?_) (fun h14 => ?_)
   ·refine GC.reg ?_
    refine G.m1 ?_
    refine G.v (V.cat rfl rfl (by simp; omega)) rfl ?_
    refine G.m2 ?_
    refine G.nil ?_
    refine J14 _ _ ⟨?_, rfl⟩
    rw [if_pos (by omega)]
    exact .of rfl
   refine GC.seq ?_
   refine GC.reg ?_
   refine G.v (V.eqI rfl rfl) rfl ?_
   refine G.m2 ?_
   refine G.nil ?_
   refine GC.condD rfl (fun h18 => ?_) (fun h18 => ?_)
   ·refine GC.reg ?_
    refine G.m1 ?_
    refine G.v (V.cat rfl rfl (by simp; omega)) rfl ?_
    refine G.m2 ?_
    refine G.nil ?_
    refine J14 _ _ ⟨?_, rfl⟩
    rw [if_neg (by omega), if_pos (by omega)]
    exact .of rfl
   refine GC.skip ?_
   refine J14 _ _ ⟨?_, rfl⟩
   rw [if_neg (by omega), if_neg (by omega), List.append_nil]
   exact .of rfl
  rintro fr' H' ⟨hs4, rfl⟩
  refine GC.weak hs4 ?_
  clear hs4
  refine GC.inBlock ?_
  refine GC.reg ?_
  refine G.m1 ?_
  refine G.v (V.fa F32_1 rfl) rfl ?_
  refine G.v (V.ld (b := pb) (off := 0 + 1) (wf := true) (l := prV p) (T := 32) (fz := (0, 0)) (v := S p.nm) Tryd.isAgg9 rfl (.head _) rfl) rfl ?_
  refine G.v (V.cat rfl rfl (by rw [List.length_append]; omega)) rfl ?_
  refine G.m2 ?_
  refine G.nil ?_
  refine GC.inBlock ?_
  refine GC.reg ?_
  refine G.v (V.addI (r := ((j + 1 : Nat) : Int)) rfl rfl rfl (by omega) (by omega)) rfl ?_
  refine G.m1 ?_
  refine G.nil ?_
  refine GC.turn (H' := []) (fun w1 h1 => h1.sub (List.nil_sublist _)) ?_
  refine ih (N - 1) _ _ (by omega) ⟨j + 1, by omega, ?_, rfl⟩
  rw [hsn, ← List.append_assoc]
  exact .of rfl
 refine GC.exit rfl ?_
 refine GC.seq ?_
 refine GC.reg ?_
 refine G.m1 ?_
 refine G.m2 ?_
 refine G.nil ?_
 have hje : j = l.length := by omega
 refine GC.ret1 rfl rfl fun w' hw' => ⟨?_, hw'⟩
 rw [hje, List.take_length]
theorem f23_any (w : World) (l : List (List Prt)) (sv : Value) (hsv : Tbl w sv l) (hlen : ∀ r ∈ l, (rtT r).length ≤ 1000000 ∧ r.length ≤ 1000000) (hll : l.length ≤ 1000000) : Calls Tryd.prog 9 #[sv] w fun e w' => ∃ kv Hs, e = .returned kv ∧ Own 9 1 kv l.length ((l.map rtT).map S) Hs ∧ HF w (fun _ => False) Hs w' := by
 refine enter (fun _ => False) [] Tryd.func9 rfl Tryd.ntmps9 rfl rfl (HF.start w _) fun c hc => ?_
 subst hc
 obtain ⟨ad, cp, rfl, hcp, hc⟩ := hsv
 refine GC.seq ?_
 refine GC.reg ?_
 refine G.m2 ?_
 refine G.nil ?_
 refine GC.seq ?_
 refine GC.reg ?_
 refine G.m2 ?_
 refine G.nil ?_
 refine GC.seq ?_
 refine GC.seq ?_
 refine GC.reg ?_
 refine G.m1 ?_
 refine G.v (V.lenL Tryd.underlying22 rfl) rfl ?_
 refine G.m1 ?_
 refine G.nil ?_
 refine GC.block ?_
 refine GC.loopJ (fun N fr' H' => ∃ j kv Hs, j + N = l.length ∧ Own 9 1 kv j (((l.take j).map rtT).map S) Hs ∧ Sub [(3, kv), (6, .slice ad l.length cp), (7, I (l.length : Nat)), (8, I (j : Nat))] fr' ∧ Hs = H') l.length
  ⟨0, .slice none 0 0, [], by omega, Own.nil, .of rfl, rfl⟩ ?_
 rintro N fr' H' ⟨j, kv, Hs, hj, hown, hs2, rfl⟩ ih
 refine GC.weak hs2 ?_
 clear hs2
 refine GC.seq ?_
 refine GC.reg ?_
 refine G.v (V.lt rfl rfl) rfl ?_
 refine G.nil ?_
 refine GC.seq ?_
 refine GC.condD rfl (fun h9 => ?_) (fun h9 => ?_)
 ·refine GC.skip ?_
  refine GC.seq ?_
  refine GC.block ?_
  refine GC.seq ?_
  have hjl : j < l.length := by omega
  obtain ⟨r, hr⟩ : ∃ p, l[j]? = some p := ⟨_, List.getElem?_eq_getElem hjl⟩
  obtain ⟨b, o, rv, rfl, hc1, hc2⟩ := hc j r hr
  obtain ⟨hrl, hrl2⟩ := hlen r (List.mem_of_getElem? hr)
  refine GC.reg ?_
  refine G.v (V.ia (i := j) Tryd.underlying22 Tryd.sizeOf30 rfl rfl hjl) rfl ?_
  refine G.v (V.ldC (v := rv) Tryd.isAgg30 rfl (by rw [Nat.mul_one]; exact hc1) id) rfl ?_
  refine G.m2 ?_
  refine G.nil ?_
  refine GC.reg ?_
  refine G.m1 ?_
  refine G.m1 ?_
  refine G.callP (v := S (rtT r)) Tryd.call24 rfl rfl (fun w1 hw1 => f24_any w1 r rv (hc2.old hw1) hrl hrl2) ?_
  refine G.bs (BS.one Tryd.underlying27 Tryd.sizeOf9 Tryd.zeroValue9 (v := S (rtT r)) rfl) rfl rfl (fun sb hsb => ?_)
  refine G.app (i := Tryd.t9) (sz := 1) (by_ := 16) Tryd.underlying27 rfl rfl rfl rfl rfl rfl rfl hown (H' := [⟨sb, true, .row [S (rtT r)] 9 (0, 0)⟩]) (List.perm_append_comm (l₁ := ([⟨sb, true, .row [S (rtT r)] 9 (0, 0)⟩] : SH))) (src_row (vs := [S (rtT r)]) (r := []) (.head _)) rfl (by simp [Value.oneCell']) (by omega) (by omega) (by omega) rfl (fun kv2 Hs2 hown2 => ?_)
  refine G.m2 ?_
  refine G.nil ?_
  refine GC.inBlock ?_
  refine GC.reg ?_
  refine G.v (V.addI (r := ((j + 1 : Nat) : Int)) rfl rfl rfl (by omega) (by omega)) rfl ?_
  refine G.m1 ?_
  refine G.nil ?_
  refine GC.turn (H' := Hs2) (fun w1 h1 => h1.sub (List.sublist_cons_self _ _)) ?_
  refine ih (N - 1) _ _ (by omega) ⟨j + 1, kv2, Hs2, by omega, ?_, .of rfl, rfl⟩
  rw [take_snoc hr, List.map_append, List.map_append]
  exact hown2
 refine GC.exit rfl ?_
 refine GC.seq ?_
 refine GC.reg ?_
 refine G.m1 ?_
 refine G.m2 ?_
 refine G.nil ?_
 have hje : j = l.length := by omega
 subst hje
 rw [List.take_length] at hown
 exact GC.ret1 rfl rfl fun w' hw' => ⟨_, _, rfl, hown, hw'⟩
end Go.Proofs

/- What the reference finds in a table. Printed by wip/mk_go4.py. -/
set_option maxRecDepth 20000
namespace Go.Proofs
open Go Bw
open Gt
theorem bestN_lt {rs : List (List Prt)} {path : List UInt8} : ∀ {n m : Nat}, bestN rs path n = some m → m < n
 | 0, m, h => by cases h
 | n + 1, m, h => by
  unfold bestN at h
  split at h
  ·exact Nat.lt_succ_of_lt (bestN_lt h)
  ·split at h
   ·exact Nat.lt_succ_of_lt (bestN_lt h)
   ·cases h; exact Nat.lt_succ_self _
   ·rename_i hb
    split at h
    ·cases h; exact Nat.lt_succ_of_lt (bestN_lt hb)
    ·split at h
     ·cases h; exact Nat.lt_succ_self _
     ·cases h; exact Nat.lt_succ_of_lt (bestN_lt hb)
/-- what is kept of the best one so far -/
def BestAt (rs : List (List Prt)) (path : List UInt8) (o : Option Nat) (r : Nat) (pv : Value) (full : List UInt8) (Hp : SH) : Prop :=
 (o = none ∧ r = 0 ∧ pv = .slice none 0 0 ∧ full = [] ∧ Hp = []) ∨ ∃ m a ps, o = some m ∧ r = m + 1 ∧ rs[m]? = some a ∧ full = rtT a ∧ matchN a path = some ps ∧ ps.length ≤ 12 ∧ Own 71 2 pv ps.length (flatP ps) Hp
theorem BestAt.w {rs path o r pv full Hp} (h : BestAt rs path o r pv full Hp) : ∀ x ∈ Hp, x.w = true := by
 rcases h with ⟨_, _, _, _, rfl⟩ | ⟨m, a, ps, _, _, _, _, _, _, h⟩
 ·simp
 ·exact h.w
theorem BestAt.one {rs path o r pv full Hp} (h : BestAt rs path o r pv full Hp) : pv.oneCell' = true := by
 rcases h with ⟨_, _, rfl, _⟩ | ⟨m, a, ps, _, _, _, _, _, _, h⟩
 ·rfl
 ·exact Own.slice1 h
theorem bd_55 (r : Int) (pv : Value) (hpv : pv.oneCell' = true) (s : List UInt8) (w : World) : (Instr.build 38 #[(0, I r), (1, pv), (2, S s)]).run Tryd.prog w = .ok (.agg #[I r, pv, S s, .bool false]) w := by
 have hc : pv.cells = #[pv] := by cases pv <;> first | rfl | (simp [Value.oneCell'] at hpv)
 have hi : (I r).cells = #[I r] := rfl
 simp [Instr.build, Tryd.zeroValue38, Tryd.runUnderlying38, Tryd.sizeOf9, Tryd.sizeOf3, Tryd.sizeOf36, cells_agg, Instr.fill, cells_str, hc, hi]
theorem bd_55z (w : World) : (Instr.build 38 #[]).run Tryd.prog w = .ok (.agg #[I 0, .slice none 0 0, S [], .bool false]) w := by
 simp [Instr.build, Tryd.zeroValue38, Tryd.runUnderlying38, Instr.fill, Value.cells]
theorem f33_any (w : World) (l : List (List Prt)) (sv : Value) (hsv : Tbl w sv l) (hcl : ∀ r ∈ l, Gt.Clean r) (hll : l.length ≤ 1000000) (path : List UInt8) (hpl : path.length ≤ 1000000) : Calls Tryd.prog 13 #[sv, S path] w fun e w' => ∃ (r : Nat) (pv : Value) (full : List UInt8) (Hp : SH), e = .returned (.agg #[I (r : Nat), pv, S full, .bool false]) ∧ BestAt l path (bestN l path l.length) r pv full Hp ∧ HF w (fun _ => False) Hp w' := by
 refine enter (fun _ => False) [] Tryd.func13 rfl Tryd.ntmps13 rfl rfl (HF.start w _) fun c hc => ?_
 subst hc
 obtain ⟨ad, cp, rfl, hcp, hc⟩ := hsv
 refine GC.seq ?_
 refine GC.reg ?_
 refine G.al Tryd.zeroValue38 rfl rfl (fun b4 hb4 => ?_)
 refine G.nil ?_
 refine GC.seq ?_
 refine GC.reg ?_
 refine G.v (V.bd (vs := []) rfl (fun w1 => bd_55z w1)) rfl ?_
 refine G.al Tryd.zeroValue38 rfl rfl (fun b5 hb5 => ?_)
 refine G.stA (cs := [I 0, .slice none 0 0, S [], .bool false]) Tryd.sizeOf38 rfl rfl (by simp [Value.oneCell']) .z rfl ?_
 refine G.nil ?_
 refine GC.seq ?_
 refine GC.seq ?_
 refine GC.reg ?_
 refine G.m1 ?_
 refine G.v (V.lenL Tryd.underlying22 rfl) rfl ?_
 refine G.m1 ?_
 refine G.nil ?_
 refine GC.block ?_
 refine GC.loopJ (fun N fr' H' => ∃ (j r : Nat) (pv : Value) (full : List UInt8) (Hp : SH), j + N = l.length ∧ BestAt l path (bestN l path j) r pv full Hp ∧ Sub [(0, .slice ad l.length cp), (1, S path), (4, Pt b4 0), (5, Pt b5 0), (11, .slice ad l.length cp), (12, I (l.length : Nat)), (13, I (j : Nat))] fr' ∧ H' = ⟨b5, true, .row [I (r : Nat), pv, S full, .bool false] 38 (0, 0)⟩ :: ⟨b4, true, .row [I 0, .slice none 0 0, S [], .bool false] 38 (0, 0)⟩ :: Hp) l.length
  ⟨0, 0, .slice none 0 0, [], [], by omega, .inl ⟨rfl, rfl, rfl, rfl, rfl⟩, .of rfl, rfl⟩ ?_
 rintro N fr' H' ⟨j, r, pv, full, Hp, hj, hB, hs2, rfl⟩ ih
 refine GC.weak hs2 ?_
 clear hs2
 refine GC.seq ?_
 refine GC.reg ?_
 refine G.v (V.lt rfl rfl) rfl ?_
 refine G.nil ?_
 refine GC.seq ?_
 refine GC.condD rfl (fun h14 => ?_) (fun h14 => ?_)
 ·refine GC.skip ?_
  refine GC.seq ?_
  refine GC.block ?_
  refine GC.seq ?_
  have hjl : j < l.length := by omega
  obtain ⟨a, ha⟩ : ∃ p, l[j]? = some p := ⟨_, List.getElem?_eq_getElem hjl⟩
  obtain ⟨b, o, av, rfl, hc1, hc2⟩ := hc j a ha
  have hca := hcl a (List.mem_of_getElem? ha)
  refine GC.reg ?_
  refine G.m1 ?_
  refine G.v (V.ia (i := j) Tryd.underlying22 Tryd.sizeOf30 rfl rfl hjl) rfl ?_
  refine G.v (V.ldC (v := av) Tryd.isAgg30 rfl (by rw [Nat.mul_one]; exact hc1) id) rfl ?_
  refine G.m2 ?_
  refine G.m2 ?_
  refine G.nil ?_
  refine GC.seq ?_
  refine GC.reg ?_
  refine G.m1 ?_
  refine G.m1 ?_
  refine G.callW (fun v H2 => ∃ pv2 ok Hs, v = .tuple #[pv2, .bool ok] ∧ ((ok = true ∧ ∃ ps, matchN a path = some ps ∧ ps.length ≤ 12 ∧ Own 71 2 pv2 ps.length (flatP ps) Hs) ∨ (ok = false ∧ matchN a path = none)) ∧ H2 = Hs ++ (⟨b5, true, .row [I (r : Nat), pv, S full, .bool false] 38 (0, 0)⟩ :: ⟨b4, true, .row [I 0, .slice none 0 0, S [], .bool false] 38 (0, 0)⟩ :: Hp)) Tryd.call28 rfl rfl (fun w1 hw1 => ?_) ?_
  ·exact (f55_any w1 a av (hc2.old hw1) hca path hpl).mono fun e w' ⟨pv2, ok, Hs, h1, h2, h3, h4⟩ => ⟨_, _, h1, hw1.after0 h4 h3, pv2, ok, Hs, rfl, h2, rfl⟩
  rintro v H2 ⟨pv2, ok, Hs, rfl, hok, rfl⟩
  refine G.m1 ?_
  refine G.v (V.ex rfl rfl) rfl ?_
  refine G.v (V.ex rfl rfl) rfl ?_
  refine G.m2 ?_
  refine G.m2 ?_
  refine G.nil ?_
  refine GC.seq ?_
  have hst : bestN l path (j + 1) = match matchN a path, bestN l path j with
    | none, b => b
    | some _, none => some j
    | some _, some m => match l[m]? with
     | none => some m
     | some b => if dec (BetterN (tks a) (tks b)) then some j else some m := by
   rw [bestN, ha] <;> rfl
  refine GC.join (fun fr' H' => Sub [(0, .slice (some ⟨b, o, none⟩) l.length cp), (1, S path), (4, Pt b4 0), (5, Pt b5 0), (6, I (j : Nat)), (7, av), (8, pv2), (11, .slice (some ⟨b, o, none⟩) l.length cp), (12, I (l.length : Nat)), (13, I (j : Nat)), (39, .bool (dec (bestN l path (j + 1) = some j)))] fr' ∧ H' = Hs ++ (⟨b5, true, .row [I (r : Nat), pv, S full, .bool false] 38 (0, 0)⟩ :: ⟨b4, true, .row [I 0, .slice none 0 0, S [], .bool false] 38 (0, 0)⟩ :: Hp)) (fun J6 => ?_) ?_
  ·refine GC.reg ?_
   refine G.m1 ?_
   refine G.m1 ?_
   refine G.bc 25 rfl (fun h25 => ?_) (fun h25 => ?_)
   ·refine G.vg rfl rfl (V.fa F38_0 rfl) rfl ?_
    refine G.vg rfl rfl (V.ld (b := b5) (off := 0 + 0) (wf := true) (l := [I (r : Nat), pv, S full, .bool false]) (T := 38) (fz := (0, 0)) (v := I (r : Nat)) Tryd.isAgg3 rfl (List.mem_append_right _ (.head _)) rfl) rfl ?_
    refine G.vg rfl rfl (V.eqI rfl rfl) rfl ?_
    refine G.m5 ?_
    refine G.bc 29 rfl (fun h29 => ?_) (fun h29 => ?_)
    ·refine G.s1 ?_
     refine G.s1 ?_
     refine G.s1 ?_
     refine G.s1 ?_
     refine G.s1 ?_
     refine G.s1 ?_
     refine G.s1 ?_
     refine G.s1 ?_
     refine G.vg rfl rfl (V.pickT rfl rfl) rfl ?_
     refine G.m3 ?_
     refine G.nil ?_
     refine J6 _ _ ⟨.cons rfl (.cons rfl (.cons rfl (.cons rfl (.cons rfl (.cons rfl (.cons rfl (.cons rfl (.cons rfl (.cons rfl (.cons (rfl.trans (congrArg (fun b => some (Value.bool b)) ?_)) .nil)))))))))), rfl⟩
     obtain ⟨ps2, hm2, _⟩ : ∃ ps, matchN a path = some ps ∧ ps.length ≤ 12 ∧ Own 71 2 pv2 ps.length (flatP ps) Hs := by
      rcases hok with h | h
      ·exact h.2
      ·rw [h25] at h; cases h.1
     have hr0 : r = 0 := by have := of_decide_eq_true h29; omega
     have hbn : bestN l path j = none := by
      rcases hB with h | ⟨m, _, _, _, h, _⟩
      ·exact h.1
      ·omega
     exact dec_t (by rw [hst, hm2, hbn])
    ·refine G.m5 ?_
     refine G.m5 ?_
     refine G.vg rfl rfl (V.fa F38_0 rfl) rfl ?_
     refine G.vg rfl rfl (V.ld (b := b5) (off := 0 + 0) (wf := true) (l := [I (r : Nat), pv, S full, .bool false]) (T := 38) (fz := (0, 0)) (v := I (r : Nat)) Tryd.isAgg3 rfl (List.mem_append_right _ (.head _)) rfl) rfl ?_
     have hr0 : ¬ r = 0 := by have := of_decide_eq_false h29; omega
     obtain ⟨m, d, ps, hbm, hrm, hd, hfd, hmd, _, _⟩ : ∃ m a ps, bestN l path j = some m ∧ r = m + 1 ∧ l[m]? = some a ∧ full = rtT a ∧ matchN a path = some ps ∧ ps.length ≤ 12 ∧ Own 71 2 pv ps.length (flatP ps) Hp := hB.resolve_left (fun h => hr0 h.2.1)
     have hml := bestN_lt hbm
     obtain ⟨b', o', dv, e0, hd1, hd2⟩ := hc m d hd
     cases e0
     have hcd := hcl d (List.mem_of_getElem? hd)
     refine G.vg rfl rfl (V.subI (r := ((m : Nat) : Int)) rfl rfl (by omega) (by omega) (by omega)) rfl ?_
     refine G.vg rfl rfl (V.ia (i := m) Tryd.underlying22 Tryd.sizeOf30 rfl rfl (by omega)) rfl ?_
     refine G.vg rfl rfl (V.ldC (v := dv) Tryd.isAgg30 rfl (by rw [Nat.mul_one]; exact hd1) id) rfl ?_
     refine G.gd rfl rfl ?_
     refine G.callP (v := .bool (dec (BetterN (tks a) (tks d)))) Tryd.call29 rfl rfl (fun w1 hw1 => f54_any w1 a d av dv (hc2.old hw1) (hd2.old hw1) (clean_len hca) (clean_len hcd)) ?_
     refine G.vg rfl rfl (V.pickF rfl rfl) rfl ?_
     refine G.m3 ?_
     refine G.nil ?_
     refine J6 _ _ ⟨.cons rfl (.cons rfl (.cons rfl (.cons rfl (.cons rfl (.cons rfl (.cons rfl (.cons rfl (.cons rfl (.cons rfl (.cons (rfl.trans (congrArg (fun b => some (Value.bool b)) ?_)) .nil)))))))))), rfl⟩
     obtain ⟨ps2, hm2, _⟩ : ∃ ps, matchN a path = some ps ∧ ps.length ≤ 12 ∧ Own 71 2 pv2 ps.length (flatP ps) Hs := by
      rcases hok with h | h
      ·exact h.2
      ·rw [h25] at h; cases h.1
     rw [hm2, hbm] at hst
     simp only [hd] at hst
     cases hbt : dec (BetterN (tks a) (tks d)) with
     | true => rw [hbt, if_pos rfl] at hst; exact dec_t hst
     | false => rw [hbt] at hst; simp only [Bool.false_eq_true, if_false] at hst; exact dec_f (by rw [hst]; intro h; cases h; omega)
   ·refine G.s1 ?_
    refine G.s1 ?_
    refine G.s1 ?_
    refine G.s1 ?_
    refine G.sgU rfl rfl rfl rfl rfl ?_
    refine G.sgU rfl rfl rfl rfl rfl ?_
    refine G.sgU rfl rfl rfl rfl rfl ?_
    refine G.sgU rfl rfl rfl rfl rfl ?_
    refine G.sgU rfl rfl rfl rfl rfl ?_
    refine G.sgU rfl rfl rfl rfl rfl ?_
    refine G.sgU rfl rfl rfl rfl rfl ?_
    refine G.sgU rfl rfl rfl rfl rfl ?_
    refine G.s1 ?_
    refine G.m4 ?_
    refine G.nil ?_
    refine J6 _ _ ⟨.cons rfl (.cons rfl (.cons rfl (.cons rfl (.cons rfl (.cons rfl (.cons rfl (.cons rfl (.cons rfl (.cons rfl (.cons (rfl.trans (congrArg (fun b => some (Value.bool b)) ?_)) .nil)))))))))), rfl⟩
    have hmn : matchN a path = none := by
     rcases hok with h | h
     ·rw [h25] at h; cases h.1
     ·exact h.2
    exact dec_f (by rw [hst, hmn]; intro h; have := bestN_lt h; omega)
  rintro fr' H' ⟨hs4, rfl⟩
  refine GC.weak hs4 ?_
  clear hs4
  refine GC.cond rfl (fun h39 => ?_) (fun h39 => ?_)
  ·have hbj := dec_true.1 h39
   obtain ⟨ps2, hm2, hps2, hown2⟩ : ∃ ps, matchN a path = some ps ∧ ps.length ≤ 12 ∧ Own 71 2 pv2 ps.length (flatP ps) Hs := by
    rcases hok with h | h
    ·exact h.2
    ·rw [hst, h.2] at hbj; have := bestN_lt hbj; omega
   refine GC.reg ?_
   refine G.turn (H' := ⟨b5, true, .row [I (r : Nat), pv, S full, .bool false] 38 (0, 0)⟩ :: ⟨b4, true, .row [I 0, .slice none 0 0, S [], .bool false] 38 (0, 0)⟩ :: (Hs ++ Hp)) (fun w1 h1 => ?_) ?_
   ·have p1 := perm_idx [Hs, [⟨b5, true, .row [I (r : Nat), pv, S full, .bool false] 38 (0, 0)⟩], [⟨b4, true, .row [I 0, .slice none 0 0, S [], .bool false] 38 (0, 0)⟩], Hp] [0, 1, 2, 3] [1, 2, 0, 3] (by decide)
    exact h1.perm (by simpa using p1)
   refine G.m1 ?_
   refine G.v (V.addI (r := ((j + 1 : Nat) : Int)) rfl rfl rfl (by omega) (by omega)) rfl ?_
   refine G.m1 ?_
   refine G.m1 ?_
   refine G.callP (v := S (rtT a)) Tryd.call24 rfl rfl (fun w1 hw1 => f24_any w1 a av (hc2.old hw1) (Nat.le_trans hca.txt.1 (by omega)) (clean_len hca).2) ?_
   refine G.v (V.bd (vs := [(0, I ((j + 1 : Nat) : Int)), (1, pv2), (2, S (rtT a))]) rfl (fun w1 => bd_55 _ _ (Own.slice1 hown2) _ w1)) rfl ?_
   refine G.stA (b := b5) (cs := [I ((j + 1 : Nat) : Int), pv2, S (rtT a), .bool false]) (l := [I (r : Nat), pv, S full, .bool false]) Tryd.sizeOf38 rfl rfl (fun u hu => by simp only [List.mem_cons, List.not_mem_nil, or_false] at hu; rcases hu with rfl | rfl | rfl | rfl <;> first | rfl | exact Own.slice1 hown2) .z rfl ?_
   refine G.nil ?_
   refine GC.turn (H' := ⟨b5, true, .row [I ((j + 1 : Nat) : Int), pv2, S (rtT a), .bool false] 38 (0, 0)⟩ :: ⟨b4, true, .row [I 0, .slice none 0 0, S [], .bool false] 38 (0, 0)⟩ :: Hs) (fun w1 h1 => h1.sub ?_) ?_
   ·exact ((List.sublist_append_left Hs Hp).cons_cons _).cons_cons _
   refine GC.inBlock ?_
   refine GC.reg ?_
   refine G.v (V.addI (r := ((j + 1 : Nat) : Int)) rfl rfl rfl (by omega) (by omega)) rfl ?_
   refine G.m1 ?_
   refine G.nil ?_
   exact ih (N - 1) _ _ (by omega) ⟨j + 1, j + 1, pv2, rtT a, Hs, by omega, .inr ⟨j, a, ps2, hbj, rfl, ha, rfl, hm2, hps2, hown2⟩, .of rfl, rfl⟩
  refine GC.skip ?_
  refine GC.inBlock ?_
  refine GC.reg ?_
  refine G.v (V.addI (r := ((j + 1 : Nat) : Int)) rfl rfl rfl (by omega) (by omega)) rfl ?_
  refine G.m1 ?_
  refine G.nil ?_
  have hnb := dec_false.1 h39
  have hsame : bestN l path (j + 1) = bestN l path j := by
   rw [hst] at hnb ⊢
   cases hm0 : matchN a path with
   | none => rfl
   | some ps0 =>
    rw [hm0] at hnb
    cases hb0 : bestN l path j with
    | none => rw [hb0] at hnb; exact absurd rfl hnb
    | some m =>
     rw [hb0] at hnb
     simp only at hnb ⊢
     cases hd0 : l[m]? with
     | none => rfl
     | some d0 =>
      rw [hd0] at hnb
      simp only at hnb ⊢
      cases hbt : dec (BetterN (tks a) (tks d0)) with
      | true => rw [hbt, if_pos rfl] at hnb; exact absurd rfl hnb
      | false => rfl
  refine GC.turn (H' := ⟨b5, true, .row [I (r : Nat), pv, S full, .bool false] 38 (0, 0)⟩ :: ⟨b4, true, .row [I 0, .slice none 0 0, S [], .bool false] 38 (0, 0)⟩ :: Hp) (fun w1 h1 => h1.sub (List.sublist_append_right _ _)) ?_
  exact ih (N - 1) _ _ (by omega) ⟨j + 1, r, pv, full, Hp, by omega, by rw [hsame]; exact hB, .of rfl, rfl⟩
 refine GC.exit rfl ?_
 refine GC.seq ?_
 refine GC.reg ?_
 refine G.v (V.ldA (b := b5) (off := 0) (s := 4) (wf := true) (l := [I (r : Nat), pv, S full, .bool false]) (T := 38) (fz := (0, 0)) (cs := [I (r : Nat), pv, S full, .bool false]) Tryd.isAgg38 Tryd.sizeOf38 rfl (.head _) rfl rfl) rfl ?_
 refine G.stA (b := b4) (cs := [I (r : Nat), pv, S full, .bool false]) (l := [I 0, .slice none 0 0, S [], .bool false]) Tryd.sizeOf38 rfl rfl (fun u hu => by simp only [List.mem_cons, List.not_mem_nil, or_false] at hu; rcases hu with rfl | rfl | rfl | rfl <;> first | rfl | exact hB.one) (.s .z) rfl ?_
 refine G.nil ?_
 have hje : j = l.length := by omega
 rw [hje] at hB
 refine GC.retC (cs := [I (r : Nat), pv, S full, .bool false]) rfl Tryd.isAgg38 Tryd.sizeOf38 rfl (.tail _ (.head _)) rfl fun w' hw' => ⟨r, pv, full, Hp, rfl, hB, ?_⟩
 exact hw'.sub ((List.sublist_cons_self _ _).trans (List.sublist_cons_self _ _))
end Go.Proofs

/- Trees of texts alone: what is recommended. No program in sight. -/
namespace Gt
open Gs Tr
section
variable {u : List UInt8 → List UInt8} {cP cS : Nat} {F0 : F} {p0 : List UInt8}
end
end Gt

/- Tables of texts alone: what is recommended. No program in sight. -/
namespace Gt
open Gs Tr
/-- small letters in the place of capital ones -/
def foldB (c : UInt8) : UInt8 := if 65 ≤ c.toNat ∧ c.toNat ≤ 90 then c + 32 else c
def foldT (s : List UInt8) : List UInt8 := s.map foldB
end Gt

/- Texts alone, folded texts, slashes. Printed by wip/mk_gv1.py. -/
set_option maxRecDepth 20000
namespace Go.Proofs
open Go Bw
open Gt
section
variable {P : Program} {c : Cx} {n : Nat} {k : List Item} {fr : SF} {H : SH} {ops : Array Oper} {rest : List Oper} {ty t e : TypeId} {pos : String} {aft : Array Edge}
/-- bytes of a text in a new row; what may not be turned lies behind it -/
theorem _root_.Bw.G.cvSF {src dst e : TypeId} {x : Operand} {d : Nat} {l : List UInt8} (hs : P.underlying src = some .string) (hdt : P.underlying dst = some (.slice e)) (he : P.underlying e = some (.int .u8)) (hx : ev fr x = some (S l)) (hd : Nat.blt d n = true)
  (hk : ∀ b cp (z : List UInt8) (fz : Nat × Nat), l.length ≤ fz.1 → G P c n k ops rest ((d, .slice (some ⟨b, 0, none⟩) l.length cp) :: fr) (⟨b, true, .row (bC (l ++ z)) e fz⟩ :: H)) : G P c n k ops (⟨some d, .convert src dst x, ty, pos, aft, none⟩ :: rest) fr H := by
 intro hf a w ha hw
 refine wpList_step fun K hK => ?_
 have hsz : (⟨l.toArray⟩ : ByteArray).size = l.length := List.size_toArray
 have h := run_bytes_of_string (P := P) w src dst e ⟨l.toArray⟩ hs hdt he
 have hcap := grownCap_ge w (⟨l.toArray⟩ : ByteArray).size 0 e
 rw [hsz] at h hcap
 generalize grownCap w l.length 0 e = cp at h hcap
 have hrow : bytesRow ⟨l.toArray⟩ cp = (bC (l ++ List.replicate (cp - l.length) 0)).toArray := by
  simp [bytesRow, bC, Lib.byteCells, hsz]
 rw [hrow] at h
 have hz : l.length ≤ (bC (l ++ List.replicate (cp - l.length) 0)).toArray.size := by
  simp [bC, Lib.byteCells]
 generalize hfz : ((bC (l ++ List.replicate (cp - l.length) 0)).toArray.size, (bC (l ++ List.replicate (cp - l.length) 0)).toArray.size + 1) = fz at h
 have hf1 : l.length ≤ fz.1 := by rw [← hfz]; exact hz
 have hrun : (execOp a.eval ⟨some d, .convert src dst x, ty, pos, aft, none⟩).run P w = .ok (.value (.slice (some ⟨w.heap.size, 0, none⟩) l.length cp)) (w.drew.alloc (.cells (bC (l ++ List.replicate (cp - l.length) 0)).toArray e fz)) := by
  simp [execOp, ha.eval hx, h]
 simp only [Region.wanted, if_true, Oper.wp, hrun, Oper.upon]
 have hw2 : HF c.w0 c.D H w.drew := hw.drew _
 exact hK _ _ (hk w.heap.size cp (List.replicate (cp - l.length) 0) fz hf1 hf _ _ (ha.put hd _) (hw2.push (.row (bC (l ++ List.replicate (cp - l.length) 0)) e fz)))
theorem _root_.Bw.V.cvBF {src dst e : TypeId} {x : Operand} {b m cap : Nat} {l : List UInt8} {T : TypeId} {wf : Bool} {fz : Nat × Nat} (hs : P.underlying src = some (.slice e)) (he : P.underlying e = some (.int .u8)) (hd : P.underlying dst = some .string) (hx : ev fr x = some (.slice (some ⟨b, 0, none⟩) m cap))
  (hm : ⟨b, wf, .row (bC l) T fz⟩ ∈ H) (hl : m ≤ l.length) : Val P c n (.convert src dst x) ty fr H (S (l.take m)) := by
 intro a w ha hw ds pos aft g
 have hcell : ∀ i, i < m → w.cell? ⟨b, 0 + i, none⟩ = some (.int .u8 (((l.take m).map fun x => (x.toNat : Int)).getD i 0)) := fun i hi => by
  refine cell_row hw hm ?_
  have hil : i < l.length := by omega
  rw [nth_eq, Nat.zero_add]
  simp only [bC, Lib.byteCells, List.getElem?_map, List.getElem?_eq_getElem hil, Option.map_some, List.getD_eq_getElem?_getD, List.getElem?_take_of_lt hi, Option.getD_some]
 have h := run_convert_bytes_arg (P := P) w src e hs he b 0 m cap ((l.take m).map fun x => (x.toNat : Int)) (by simp; omega) hcell dst hd
 have e2 : strOfNums ((l.take m).map fun x => (x.toNat : Int)) = ⟨(l.take m).toArray⟩ := by
  have h0 : ((fun n : Int => UInt8.ofNat n.toNat) ∘ fun x : UInt8 => (x.toNat : Int)) = id := by
   funext x; simp
  simp [strOfNums, List.map_map, h0]
 rw [e2] at h
 simp [execOp, ha.eval hx, h]
end
theorem bC_set (l : List UInt8) (i : Nat) (x : UInt8) : (bC l).set i (.int .u8 (x.toNat : Int)) = bC (l.set i x) := by
 unfold bC Lib.byteCells
 rw [List.map_set]
theorem foldT_len (s : List UInt8) : (foldT s).length = s.length := List.length_map _
theorem f59_any (w : World) (s : List UInt8) (hsl : s.length ≤ 1000000) : Calls Tryd.prog 12 #[S s] w fun e w' => e = .returned (S (foldT s)) ∧ HF w (fun _ => False) [] w' := by
 refine enter (fun _ => False) [] Tryd.func12 rfl Tryd.ntmps12 rfl rfl (HF.start w _) fun c hc => ?_
 subst hc
 refine GC.seq ?_
 refine GC.reg ?_
 refine G.m2 ?_
 refine G.nil ?_
 refine GC.seq ?_
 refine GC.reg ?_
 refine G.m1 ?_
 refine G.cvSF Tryd.underlying9 Tryd.underlying44 Tryd.underlying5 rfl rfl (fun b cp z fz hfz => ?_)
 refine G.m2 ?_
 refine G.nil ?_
 refine GC.seq ?_
 refine GC.seq ?_
 refine GC.reg ?_
 refine G.m1 ?_
 refine G.v (V.lenL Tryd.underlying44 rfl) rfl ?_
 refine G.m1 ?_
 refine G.nil ?_
 refine GC.block ?_
 refine GC.loopJ (fun N fr' H' => ∃ (i : Nat) (cur : List UInt8), i + N = s.length ∧ cur = foldT (s.take i) ++ s.drop i ∧ Sub [(3, .slice (some ⟨b, 0, none⟩) s.length cp), (8, .slice (some ⟨b, 0, none⟩) s.length cp), (9, I (s.length : Nat)), (10, I (i : Nat))] fr' ∧ H' = [⟨b, true, .row (bC (cur ++ z)) 5 fz⟩]) s.length
  ⟨0, s, by omega, by simp [foldT], .of rfl, rfl⟩ ?_
 rintro N fr' H' ⟨i, cur, hi, hcur, hs2, rfl⟩ ih
 refine GC.weak hs2 ?_
 clear hs2
 refine GC.seq ?_
 refine GC.reg ?_
 refine G.v (V.lt rfl rfl) rfl ?_
 refine G.nil ?_
 refine GC.seq ?_
 refine GC.condD rfl (fun h11 => ?_) (fun h11 => ?_)
 ·refine GC.skip ?_
  refine GC.seq ?_
  refine GC.block ?_
  refine GC.seq ?_
  have hil : i < s.length := by omega
  obtain ⟨x, hx⟩ : ∃ x, s[i]? = some x := ⟨_, List.getElem?_eq_getElem hil⟩
  have hfl : (foldT (s.take i)).length = i := by rw [foldT_len, List.length_take]; omega
  have hcl : cur.length = s.length := by rw [hcur, List.length_append, hfl, List.length_drop]; omega
  have hcx : cur[i]? = some x := by rw [hcur, List.getElem?_append_right (by omega), hfl, Nat.sub_self, List.getElem?_drop]; exact hx
  have hxt := x.toNat_lt
  have wr : ∀ n : Int, 0 ≤ n → n < 256 → IntKind.u8.wrap n = n := fun n h1 h2 => by
   unfold IntKind.wrap
   simp [IntKind.bits, IntKind.signed]
   omega
  refine GC.reg ?_
  refine G.m1 ?_
  refine G.v (V.ia (i := i) Tryd.underlying44 Tryd.sizeOf5 rfl rfl hil) rfl ?_
  refine G.v (V.ld (b := b) (off := 0 + i * 1) (wf := true) (l := bC (cur ++ z)) (T := 5) (fz := fz) (v := .int .u8 (x.toNat : Int)) Tryd.isAgg5 rfl (.head _) (by rw [nth_eq, Nat.zero_add, Nat.mul_one]; unfold bC Lib.byteCells; rw [List.getElem?_map, List.getElem?_append_left (by omega), hcx]; rfl)) rfl ?_
  refine G.m2 ?_
  refine G.m2 ?_
  refine G.nil ?_
  refine GC.seq ?_
  refine GC.join (fun fr' H' => Sub [(3, .slice (some ⟨b, 0, none⟩) s.length cp), (4, I (i : Nat)), (5, .int .u8 (x.toNat : Int)), (8, .slice (some ⟨b, 0, none⟩) s.length cp), (9, I (s.length : Nat)), (10, I (i : Nat)), (20, .bool (decide (65 ≤ x.toNat ∧ x.toNat ≤ 90)))] fr' ∧ H' = [⟨b, true, .row (bC (cur ++ z)) 5 fz⟩]) (fun J5 => ?_) ?_
  ·refine GC.reg ?_
   refine G.m1 ?_
   refine G.v (V.ge rfl rfl) rfl ?_
   refine G.m1 ?_
   refine G.bc 17 rfl (fun h17 => ?_) (fun h17 => ?_)
   ·refine G.m5 ?_
    refine G.vg rfl rfl (V.le rfl rfl) rfl ?_
    refine G.m3 ?_
    refine G.nil ?_
    refine J5 _ _ ⟨?_, rfl⟩
    have h1 := of_decide_eq_true h17
    have e : decide ((x.toNat : Int) ≤ 90) = decide (65 ≤ x.toNat ∧ x.toNat ≤ 90) := decide_eq_decide.2 ⟨fun h => ⟨by omega, by omega⟩, fun h => by omega⟩
    rw [e]
    exact .of rfl
   ·refine G.s1 ?_
    refine G.s1 ?_
    refine G.m4 ?_
    refine G.nil ?_
    refine J5 _ _ ⟨?_, rfl⟩
    have h1 := of_decide_eq_false h17
    have e : decide (65 ≤ x.toNat ∧ x.toNat ≤ 90) = false := decide_eq_false fun h => h1 (by omega)
    rw [e]
    exact .of rfl
  rintro fr' H' ⟨hs5, rfl⟩
  refine GC.weak hs5 ?_
  clear hs5
  refine GC.condD rfl (fun h20 => ?_) (fun h20 => ?_)
  ·refine GC.reg ?_
   refine G.m1 ?_
   refine G.m1 ?_
   refine G.m1 ?_
   refine G.v (V.add (i := (x.toNat : Int)) (j := 32) rfl rfl) rfl ?_
   rw [wr _ (by omega) (by omega)]
   have hx32 : (x.toNat : Int) + 32 = ((x + 32).toNat : Int) := by
    have : (x + 32).toNat = x.toNat + 32 := by
     rw [UInt8.toNat_add]
     have : (32 : UInt8).toNat = 32 := rfl
     omega
    omega
   rw [hx32]
   refine G.v (V.ia (i := i) Tryd.underlying44 Tryd.sizeOf5 rfl rfl hil) rfl ?_
   refine G.st (b := b) (off := 0 + i * 1) (l := bC (cur ++ z)) (T := 5) (fz := fz) (v := .int .u8 ((x + 32).toNat : Int)) Tryd.sizeOf5 rfl rfl rfl .z (by rw [nth_eq, Nat.zero_add, Nat.mul_one]; unfold bC Lib.byteCells; rw [List.getElem?_map, List.getElem?_append_left (by omega), hcx]; rfl) (by rw [Bool.and_eq_false_iff]; exact .inl (by rw [← Bool.not_eq_true, Nat.ble_eq]; omega)) ?_
   have erow : setL (bC (cur ++ z)) (0 + i * 1) (.int .u8 ((x + 32).toNat : Int)) = bC (cur.set i (x + 32) ++ z) := by rw [setL_eq, Nat.zero_add, Nat.mul_one, bC_set, List.set_append_left _ _ (by omega)]
   refine G.turn (H' := [⟨b, true, .row (bC (cur.set i (x + 32) ++ z)) 5 fz⟩]) (fun w1 h1 => by rw [← erow]; exact h1) ?_
   refine G.nil ?_
   refine GC.inBlock ?_
   refine GC.reg ?_
   refine G.v (V.addI (r := ((i + 1 : Nat) : Int)) rfl rfl rfl (by omega) (by omega)) rfl ?_
   refine G.m1 ?_
   refine G.nil ?_
   have hfx : foldB x = x + 32 := if_pos h20
   have hts : s.take (i + 1) = s.take i ++ [x] := by rw [List.take_add_one, hx]; rfl
   have hds : s.drop i = x :: s.drop (i + 1) := drop_cons hx
   refine ih (N - 1) _ _ (by omega) ⟨i + 1, cur.set i (x + 32), by omega, ?_, .of rfl, rfl⟩
   rw [hcur, hts, hds]
   unfold foldT at hfl ⊢
   rw [List.set_append_right _ _ (by omega), hfl, Nat.sub_self, List.set_cons_zero, List.map_append, List.append_assoc, List.map_singleton, hfx]; rfl
  refine GC.skip ?_
  refine GC.inBlock ?_
  refine GC.reg ?_
  refine G.v (V.addI (r := ((i + 1 : Nat) : Int)) rfl rfl rfl (by omega) (by omega)) rfl ?_
  refine G.m1 ?_
  refine G.nil ?_
  have hfx : foldB x = x := if_neg h20
  have hts : s.take (i + 1) = s.take i ++ [x] := by rw [List.take_add_one, hx]; rfl
  have hds : s.drop i = x :: s.drop (i + 1) := drop_cons hx
  refine ih (N - 1) _ _ (by omega) ⟨i + 1, cur, by omega, ?_, .of rfl, rfl⟩
  rw [hcur, hts, hds]
  unfold foldT
  rw [List.map_append, List.append_assoc, List.map_singleton, hfx]; rfl
 refine GC.exit rfl ?_
 refine GC.seq ?_
 have hie : i = s.length := by omega
 have hcs : (cur ++ z).take s.length = foldT s := by
  rw [hcur, hie, List.drop_length, List.append_nil, List.take_length, List.take_left' (foldT_len s)]
 refine GC.reg ?_
 refine G.m1 ?_
 refine G.v (V.cvBF Tryd.underlying44 Tryd.underlying5 Tryd.underlying9 rfl (.head _) (by rw [hcur, hie]; simp [foldT_len])) rfl ?_
 rw [hcs]
 refine G.m2 ?_
 refine G.nil ?_
 exact GC.ret1 rfl rfl fun w' hw' => ⟨rfl, hw'.sub (List.nil_sublist _)⟩
end Go.Proofs

/- ASCII, Join, caseOne. Printed by wip/mk_hw3.py. -/
set_option maxRecDepth 20000
namespace Go.Proofs
open Go Bw
open Gt
def AscN (s : List UInt8) : Prop := ∀ x ∈ s, x.toNat < 128
theorem _root_.Bw.Own.txts {w0 w : World} {D : Nat → Prop} {H Hs : SH} {sv : Value} {l : List (List UInt8)} {n : Nat} (ho : Own 9 1 sv n (l.map S) Hs) (hn : n = l.length) (hw : HF w0 D H w) (hsub : ∀ x ∈ Hs, x ∈ H) : Txts w sv l := by
 subst hn
 generalize hn : l.length = n at ho
 generalize hx : l.map S = xs at ho
 cases ho with
 | nil => exact ⟨none, 0, by rw [hn], fun j x hj => by have := (List.getElem?_eq_some_iff.1 hj).1; omega⟩
 | @row b n cap xs spare h1 h2 h3 =>
  subst hx
  refine ⟨some ⟨b, 0, none⟩, cap, by rw [hn], fun j x hj => ⟨b, 0, rfl, ?_⟩⟩
  exact cell_row hw (hsub _ (.head _)) (by rw [nth_eq, Nat.zero_add, List.getElem?_append_left (by rw [List.length_map]; exact (List.getElem?_eq_some_iff.1 hj).1), List.getElem?_map, hj]; rfl)
theorem _root_.Bw.HF.below {w w' : World} (h : RowKit.Below w.heap.size w w') : HF w (fun _ => False) [] w' :=
 ⟨h.size, fun b hb _ => h.block b hb, fun _ h => (by cases h), fun _ h => (by cases h), List.Pairwise.nil, h.tape, h.os, h.output⟩
theorem inter_nil : ∀ l : List (List UInt8), ([] : List UInt8).intercalate l = l.flatten
 | [] => rfl
 | [a] => by simp [List.intercalate]
 | a :: b :: l => by
  have h := inter_nil (b :: l)
  unfold List.intercalate at h ⊢
  rw [List.intersperse_cons_cons, List.flatten_cons, List.flatten_cons, h]
  rfl
theorem c8_any (w : World) (kv : Value) (ts : List (List UInt8)) {n : Nat} {Hs H : SH} {w0 : World} {D : Nat → Prop} (h : Own 9 1 kv n (ts.map S) Hs) (hn : n = ts.length) (hw : HF w0 D H w) (hs : ∀ x ∈ Hs, x ∈ H) (hl : ts.length ≤ 1000000) (hlen : ts.flatten.length ≤ 1000000000) : Calls Tryd.prog 8 #[kv, S []] w fun e w' => e = .returned (S ts.flatten) ∧ HF w (fun _ => False) [] w' := by
 have hj : Lib.join ((ts.map fun t => (⟨t.toArray⟩ : ByteArray)).map (·.data.toList)) [] = ts.flatten := by
  rw [List.map_map]
  have : (fun t : List UInt8 => t) = ((·.data.toList) ∘ fun t : List UInt8 => (⟨t.toArray⟩ : ByteArray)) := by funext t; simp
  rw [← this, List.map_id']
  unfold Lib.join
  exact inter_nil ts
 have ht := h.txts hn hw hs
 generalize hxs : ts.map S = xs0 at h
 cases h with
 | nil =>
  have : ts = [] := List.length_eq_zero_iff.1 hn.symm
  subst this
  exact (Tryd.strings_Join_none none 0 ⟨#[]⟩ w).mono fun e w' ⟨h1, h2⟩ => ⟨h1, by subst h2; exact HF.start _ _⟩
 | @row b _ cap xs spare hn2 hc hle =>
  obtain ⟨ad, cp, he, hcell⟩ := ht
  cases he
  have hb := hw.has _ (hs _ (.head _))
  have hJ := (Tryd.strings_Join b 0 cap (ts.map fun t => (⟨t.toArray⟩ : ByteArray)) ⟨#[]⟩ w (fun j x hjx => by
   rw [List.getElem?_map] at hjx
   obtain ⟨t, ht1, rfl⟩ := Option.map_eq_some_iff.1 hjx
   obtain ⟨b2, o2, e2, h3⟩ := hcell j t ht1
   cases e2
   exact h3) (Array.getElem?_eq_some_iff.1 hb).1 (by rw [List.length_map]; omega) (by rw [List.length_map, ← hn]; exact hle) (by rw [hj]; omega))
  rw [List.length_map, ← hn] at hJ
  refine hJ.mono fun e w' ⟨h1, h2⟩ => ⟨?_, Bw.HF.below h2⟩
  ·rw [h1]
   show Ending.returned (.string ⟨(Lib.join _ []).toArray⟩) = _
   rw [hj]
theorem c7_any (w : World) (s : List UInt8) (hs : s.length ≤ 1000000000) : Calls Tryd.prog 7 #[S s] w fun e w' => e = .returned (.bool (dec (AscN s))) ∧ HF w (fun _ => False) [] w' := by
 refine enter (fun _ => False) [] Tryd.func7 rfl Tryd.ntmps7 rfl rfl (HF.start w _) fun c hc => ?_
 subst hc
 refine GC.seq ?_
 refine GC.reg ?_
 refine G.m2 ?_
 refine G.nil ?_
 refine GC.seq ?_
 refine GC.seq ?_
 refine GC.reg ?_
 refine G.m1 ?_
 refine G.v (V.lenS Tryd.underlying9 rfl) rfl ?_
 refine G.m1 ?_
 refine G.nil ?_
 refine GC.block ?_
 refine GC.loopJ (fun N fr' H' => ∃ i, i + N = s.length ∧ (∀ (j : Nat) x, j < i → s[j]? = some x → x.toNat < 128) ∧ Sub [(0, S s), (5, I (s.length : Nat)), (6, I (i : Nat))] fr' ∧ H' = []) s.length
  ⟨0, by omega, fun j x h => absurd h (Nat.not_lt_zero _), .of rfl, rfl⟩ ?_
 rintro N fr' H' ⟨i, hi, hlo, hs2, rfl⟩ ih
 refine GC.weak hs2 ?_
 clear hs2
 refine GC.seq ?_
 refine GC.reg ?_
 refine G.v (V.lt rfl rfl) rfl ?_
 refine G.nil ?_
 refine GC.seq ?_
 refine GC.condD rfl (fun h7 => ?_) (fun h7 => ?_)
 ·refine GC.skip ?_
  refine GC.seq ?_
  refine GC.block ?_
  refine GC.seq ?_
  have hlt : i < s.length := by omega
  obtain ⟨x, hx⟩ : ∃ x, s[i]? = some x := ⟨_, List.getElem?_eq_getElem hlt⟩
  refine GC.reg ?_
  refine G.m1 ?_
  refine G.m2 ?_
  refine G.nil ?_
  refine GC.seq ?_
  refine GC.reg ?_
  refine G.m1 ?_
  refine G.m1 ?_
  refine G.v (V.idx (i := i) (b := x) Tryd.underlying9 rfl rfl hx) rfl ?_
  refine G.v (V.ge rfl rfl) rfl ?_
  refine G.nil ?_
  refine GC.condD rfl (fun h12 => ?_) (fun h12 => ?_)
  ·refine GC.seq ?_
   refine GC.reg ?_
   refine G.m2 ?_
   refine G.nil ?_
   refine GC.ret1 rfl rfl fun w' hw' => ⟨?_, hw'⟩
   have : ¬ AscN s := fun h => by have := h x (List.mem_of_getElem? hx); omega
   rw [dec_false.2 this]
  refine GC.skip ?_
  refine GC.inBlock ?_
  refine GC.reg ?_
  refine G.v (V.addI (r := ((i + 1 : Nat) : Int)) rfl rfl rfl (by omega) (by omega)) rfl ?_
  refine G.m1 ?_
  refine G.nil ?_
  refine ih (N - 1) _ _ (by omega) ⟨i + 1, by omega, fun j y hj hy => ?_, .of rfl, rfl⟩
  rcases Nat.lt_or_ge j i with h | h
  ·exact hlo j y h hy
  ·have : j = i := by omega
   subst this
   rw [hx] at hy
   cases hy
   omega
 refine GC.exit rfl ?_
 refine GC.seq ?_
 refine GC.reg ?_
 refine G.m2 ?_
 refine G.nil ?_
 refine GC.ret1 rfl rfl fun w' hw' => ⟨?_, hw'⟩
 have : AscN s := fun y hy => by
  obtain ⟨j, hj⟩ := List.getElem?_of_mem hy
  exact hlo j y (by have := (List.getElem?_eq_some_iff.1 hj).1; omega) hj
 rw [dec_true.2 this]
end Go.Proofs

/- What a table's tree tells whatever the letters are; the sizes of what is asked. -/
set_option maxRecDepth 20000
namespace Go.Proofs
open Go Bw Gt Gs Tr
theorem table_txt {l : List (List Prt)} (ht : TableN l) : l.map rtT = (l.map tokT).map txt := by
 rw [List.map_map]
 exact List.map_congr_left fun r hr => (txt_tokT (ht.clean r hr).k2).symm
theorem table_good {l : List (List Prt)} (ht : TableN l) : (∀ r ∈ l.map tokT, Gt.Good r) ∧ (∀ r ∈ l.map tokT, (txt r).length ≤ 20000) ∧ ∀ r ∈ l.map tokT, ∀ c ∈ txt r, c ≠ 92 := by
 have key : ∀ r ∈ l.map tokT, Gt.Good r ∧ (txt r).length ≤ 20000 ∧ ∀ c ∈ txt r, c ≠ 92 := fun r hr => by
  obtain ⟨x, hx, rfl⟩ := List.mem_map.1 hr
  have hc := ht.clean x hx
  rw [txt_tokT hc.k2]
  exact ⟨hc.good, hc.txt⟩
 exact ⟨fun r hr => (key r hr).1, fun r hr => (key r hr).2.1, fun r hr => (key r hr).2.2⟩
/-- what is told of a table and a path -/
def CaseS (l : List (List Prt)) (path : List UInt8) (r : Option (List UInt8)) : Prop := ∀ out, r = some out → foldT out = foldT path ∧ bestN l out l.length ≠ none
theorem table_tree {l : List (List Prt)} {path : List UInt8} (hf : FitsN l path) (hne : l ≠ []) (hta : ∀ a ∈ l, AscN (rtT a)) : ∃ t r g, addAll new ((l.map tokT).map txt) 0 = .inl t ∧ Ln t ∧ AllQ (fun x => x.toNat < 128) t ∧ caseC Ef false g t path 0 [] = some r ∧ CaseS l path r := by
 obtain ⟨hg, hl, h92⟩ := table_good hf.2.1
 obtain ⟨t, ht, hts⟩ := addAll_ok (l.map tokT) new (fun _ => none) 0 (.inl ⟨rfl, rfl⟩) hg (fun _ _ _ _ h => by cases h) hf.2.1.pw
 obtain ⟨h1, h2⟩ := case_table hf hne ht
 obtain ⟨r, hr⟩ := h1 Ef false
 obtain ⟨a0, l', hl0⟩ := List.exists_cons_of_ne_nil hne
 have hn := pw_nodup hf.2.1.pw
 have ha0 : (l.map tokT)[0]? = some (tokT a0) := by rw [hl0]; rfl
 rcases hts with ⟨_, hf0⟩ | ⟨hrep, hnt, _⟩
 ·exfalso
  have h3 := fAdd_at (f := fun _ => none) (k := 0) hn ha0
  rw [hf0] at h3
  cases h3
 ·have hnb : NB t := NB.all _ _ _ _ NB.new (fun r hr => by
   obtain ⟨x, hx, rfl⟩ := List.mem_map.1 hr
   exact ⟨hl x hx, h92 x hx⟩) ht
  refine ⟨t, r, _, ht, Rep.ln hnb _ _ hrep, Rep.allQ (size t) t _ _ (Nat.le_refl _) hrep (fun e => by rw [hnt] at e; cases e) ⟨_, _, fAdd_at hn ha0⟩ (fun s v hs c hc => ?_), hr, fun out e => ?_⟩
  ·obtain ⟨i, hi, _⟩ := fAdd_of hn hs
   obtain ⟨a, ha, rfl⟩ := map_at hi
   rw [txt_tokT (hf.2.1.clean a (List.mem_of_getElem? ha)).k2] at hc
   exact hta a (List.mem_of_getElem? ha) c hc
  ·subst e
   exact h2 out hr
end Go.Proofs

/- caseOne, FnGinCaseFound. Printed by wip/mk_hw4.py. -/
set_option maxRecDepth 20000
namespace Go.Proofs
open Go Bw
open Gt
theorem table_bd {l : List (List Prt)} {path : List UInt8} (hf : FitsN l path) : ∀ r ∈ l, (rtT r).length ≤ 1000000 ∧ r.length ≤ 1000000 := fun r hr => ⟨Nat.le_trans (hf.2.1.clean r hr).txt.1 (by omega), (clean_len (hf.2.1.clean r hr)).2⟩
theorem c11_any (w : World) (l : List (List Prt)) (sv : Value) (hsv : Tbl w sv l) (path : List UInt8) (hft : FitsN l path) (hne : l ≠ []) (hpa : AscN path) (hta : ∀ a ∈ l, AscN (rtT a)) : Calls Tryd.prog 11 #[sv, S path, .bool false] w fun e w' => ∃ r, e = .returned (.tuple #[S (r.getD []), .bool r.isSome, .bool true]) ∧ CaseS l path r ∧ HF w (fun _ => False) [] w' := by
 refine enter (fun _ => False) [] Tryd.func11 rfl Tryd.ntmps11 rfl rfl (HF.start w _) fun c hc => ?_
 subst hc
 obtain ⟨t, r, g, hadd, hln, hq, hres, hcs⟩ := table_tree hft hne hta
 obtain ⟨hg, hl, h92⟩ := table_good hft.2.1
 obtain ⟨qq, hqq⟩ := hft.2.2.1
 have hp0 : path ≠ [] := by rw [← hqq]; simp
 have hpl : path.length ≤ 300 := hft.2.2.2.2
 have h30 : l.length ≤ 30 := hft.1
 refine GC.seq ?_
 refine GC.reg ?_
 refine G.m2 ?_
 refine G.m2 ?_
 refine G.m2 ?_
 refine G.nil ?_
 refine GC.seq ?_
 refine GC.reg ?_
 refine G.m1 ?_
 refine G.callW (fun v H2 => ∃ Hk, Own 9 1 v l.length ((l.map rtT).map S) Hk ∧ H2 = Hk ++ []) Tryd.call9 rfl rfl (fun w1 hw1 => ?_) ?_
 ·refine (f23_any w1 l _ (hsv.old hw1) (table_bd hft) (by have := hft.1; omega)).mono fun e w' ⟨kv, Hs, h1, h2, h3⟩ => ?_
  exact ⟨_, _, h1, hw1.after0 h3 h2.w, Hs, h2, rfl⟩
 rintro kv H2 ⟨Hs, hown, rfl⟩
 refine G.m1 ?_
 rw [List.append_nil]
 refine G.bs (BS.one Tryd.underlying27 Tryd.sizeOf9 Tryd.zeroValue9 (v := S path) rfl) rfl rfl (fun pb hpb => ?_)
 refine G.m1 ?_
 refine G.callW (fun v H2 => ∃ svT svF K1 K2, v = .tuple #[svT, svF, .bool true] ∧ Own 9 1 svT 1 [S (r.getD [])] K1 ∧ Own 4 1 svF 1 [.bool r.isSome] K2 ∧ H2 = K1 ++ K2) Tryd.call25 rfl rfl (fun w1 hw1 => ?_) ?_
 ·refine (c25_any w1 (l.map tokT) kv hg hl h92 (by rw [List.length_map]; omega) (by rw [← table_txt hft.2.1]; exact hown.txts (by simp) hw1 (fun e he => List.mem_cons_of_mem _ he)) eqC_low hadd hln hq pb 0 1 [⟨path, r⟩] (fun x hx => by rw [List.mem_singleton.1 hx]; exact ⟨hp0, hpa, by show path.length ≤ 50000; omega, g, hres⟩) (by simp) (fun i x hx => ?_)).mono fun e w' ⟨svT, svF, K1, K2, h1, h2, h3, h4⟩ => ⟨_, _, h1, ?_, svT, svF, K1, K2, rfl, h2, h3, rfl⟩
  ·rw [Nat.zero_add]
   refine cell_row hw1 (wf := true) (l := [S path]) (t := 9) (fz := (0, 0)) (by simp) ?_
   match i, hx with
   | 0, hx => cases hx; rfl
   | i + 1, hx => simp at hx
  ·have h5 := hw1.after0 h4 (fun e he => by rcases List.mem_append.1 he with he | he; exact h2.w e he; exact h3.w e he)
   exact h5.sub (List.sublist_append_left _ _)
 rintro v H2 ⟨svT, svF, K1, K2, rfl, hownT, hownF, rfl⟩
 refine G.m1 ?_
 refine G.v (V.ex rfl rfl) rfl ?_
 refine G.v (V.ex rfl rfl) rfl ?_
 refine G.v (V.ex rfl rfl) rfl ?_
 refine G.m2 ?_
 refine G.m2 ?_
 refine G.m2 ?_
 refine G.nil ?_
 refine GC.seq ?_
 refine GC.seq ?_
 obtain ⟨tb, tc, tsp, rfl, rfl⟩ := hownT.at (i := 0) (by decide)
 obtain ⟨fb, fc, fsp, rfl, rfl⟩ := hownF.at (i := 0) (by decide)
 refine GC.reg ?_
 refine G.m1 ?_
 refine G.v (V.not rfl) rfl ?_
 refine G.m1 ?_
 refine G.bc 23 rfl (fun h23 => ?_) (fun h23 => ?_)
 ·exact absurd h23 (by decide)
 ·refine G.m5 ?_
  refine G.vg rfl rfl (V.lenL Tryd.underlying27 rfl) rfl ?_
  refine G.vg rfl rfl (V.neI rfl rfl) rfl ?_
  refine G.m4 ?_
  refine G.m1 ?_
  refine G.bc 28 rfl (fun h28 => ?_) (fun h28 => ?_)
  ·exact absurd h28 (by decide)
  ·refine G.m5 ?_
   refine G.vg rfl rfl (V.lenL Tryd.underlying54 rfl) rfl ?_
   refine G.vg rfl rfl (V.neI rfl rfl) rfl ?_
   refine G.m4 ?_
   refine G.nil ?_
   refine GC.cond rfl (fun h32 => absurd h32 (by decide)) (fun h32 => ?_)
   refine GC.skip ?_
   refine GC.seq ?_
   refine GC.regQ mixed (by kernel_rfl) ?_
   refine GQ.v (V.mv rfl) rfl ?_
   refine GQ.v (V.ia (i := 0) Tryd.underlying27 Tryd.sizeOf9 rfl rfl (by decide)) rfl ?_
   refine GQ.v (V.ld (b := tb) (off := 0 + 0 * 1) (wf := true) (l := [S (r.getD [])] ++ tsp) (T := 9) (fz := (0, 0)) (v := S (r.getD [])) Tryd.isAgg9 rfl (.head _) rfl) rfl ?_
   refine GQ.v (V.mv rfl) rfl ?_
   refine GQ.v (V.ia (i := 0) Tryd.underlying54 Tryd.sizeOf4 rfl rfl (by decide)) rfl ?_
   refine GQ.v (V.ld (b := fb) (off := 0 + 0 * 1) (wf := true) (l := [.bool r.isSome] ++ fsp) (T := 4) (fz := (0, 0)) (v := .bool r.isSome) Tryd.isAgg4 rfl (.tail _ (.head _)) rfl) rfl ?_
   refine GQ.v (V.asg rfl) rfl ?_
   refine GQ.v (V.asg rfl) rfl ?_
   refine GQ.v (V.asg rfl) rfl ?_
   refine GQ.nil ?_
   exact GC.ret3 rfl rfl rfl rfl fun w' hw' => ⟨r, rfl, hcs, hw'.sub (List.nil_sublist _)⟩
end Go.Proofs

/- The law FnGinCaseFound. Printed by wip/mk_hw4.py. -/
set_option maxRecDepth 20000
namespace Go.Proofs
open Go Bw
open Gt
theorem flat_le : ∀ (ts : List (List UInt8)) (m : Nat), (∀ t ∈ ts, t.length ≤ m) → ts.flatten.length ≤ ts.length * m
 | [], _, _ => by simp
 | t :: ts, m, h => by
  have h1 := flat_le ts m fun x hx => h x (.tail _ hx)
  have h2 := h t (.head _)
  rw [List.flatten_cons, List.length_append, List.length_cons, Nat.add_mul]
  omega
theorem flat_bd {l : List (List Prt)} {path : List UInt8} (hf : FitsN l path) : ((l.map rtT).flatten).length ≤ 1000000000 := by
 have h1 := flat_le (l.map rtT) 1000000 fun t ht => by
  obtain ⟨a, ha, rfl⟩ := List.mem_map.1 ht
  exact (table_bd hf a ha).1
 have h2 := hf.1
 rw [List.length_map] at h1
 have h3 : l.length * 1000000 ≤ 30 * 1000000 := Nat.mul_le_mul_right _ h2
 omega
theorem c3_any (w : World) (l : List (List Prt)) (sv : Value) (hsv : Tbl w sv l) (path : List UInt8) : Calls Tryd.prog 3 #[sv, S path] w fun e w' => e = .returned (.bool true) ∧ HF w (fun _ => False) [] w' := by
 refine enter (fun _ => False) [] Tryd.func3 rfl Tryd.ntmps3 rfl rfl (HF.start w _) fun c hc => ?_
 subst hc
 obtain ⟨sad, scp, hse⟩ : ∃ ad cp, sv = .slice ad l.length cp := by
  obtain ⟨ad, cp, h, _⟩ := hsv
  exact ⟨ad, cp, h⟩
 subst hse
 refine GC.seq ?_
 refine GC.reg ?_
 refine G.m2 ?_
 refine G.nil ?_
 refine GC.seq ?_
 refine GC.seq ?_
 refine GC.join (fun fr' H' => Sub [(0, .slice sad l.length scp), (1, S path), (17, .bool (dec (¬ Fits4 l ∨ (2147483647 : Int) < (path.length : Int))))] fr' ∧ H' = []) (fun J1 => ?_) ?_
 ·refine GC.reg ?_
  refine G.m1 ?_
  refine G.callP (v := .bool (dec (Fits4 l))) Tryd.call5 rfl rfl (fun w1 hw1 => f17_any w1 l _ (hsv.old hw1)) ?_
  refine G.v (V.not rfl) rfl ?_
  refine G.m1 ?_
  refine G.bc 13 rfl (fun h13 => ?_) (fun h13 => ?_)
  ·refine G.s1 ?_
   refine G.s1 ?_
   refine G.s1 ?_
   refine G.m3 ?_
   refine G.nil ?_
   refine J1 _ _ ⟨.cons rfl (.cons rfl (.cons (rfl.trans (congrArg (fun b => some (Value.bool b)) ?_)) .nil)), rfl⟩
   exact dec_t (.inl (dec_false.1 (by simpa using h13)))
  ·refine G.m5 ?_
   refine G.vg rfl rfl (V.lenS Tryd.underlying9 rfl) rfl ?_
   refine G.vg rfl rfl (V.gt rfl rfl) rfl ?_
   refine G.m4 ?_
   refine G.nil ?_
   refine J1 _ _ ⟨.cons rfl (.cons rfl (.cons (rfl.trans (congrArg (fun b => some (Value.bool b)) ?_)) .nil)), rfl⟩
   exact dec_d ⟨.inr, fun h => h.resolve_left (fun h => h (dec_true.1 (by simpa using h13)))⟩
 rintro fr' H' ⟨hs1, rfl⟩
 refine GC.weak hs1 ?_
 clear hs1
 refine GC.cond rfl (fun h17 => ?_) (fun h17 => ?_)
 ·refine GC.seq ?_
  refine GC.reg ?_
  refine G.m2 ?_
  refine G.nil ?_
  exact GC.ret1 rfl rfl fun w' hw' => ⟨rfl, hw'.sub (List.nil_sublist _)⟩
 refine GC.skip ?_
 refine GC.seq ?_
 refine GC.seq ?_
 obtain ⟨h4, hpl⟩ : Fits4 l ∧ path.length ≤ 2147483647 := by
  have := dec_false.1 h17
  exact ⟨Classical.byContradiction fun h => this (.inl h), by omega⟩
 refine GC.join (fun fr' H' => ∃ t : Bool, (t = false → FitsN l path ∧ AscN path ∧ (∀ a ∈ l, AscN (rtT a)) ∧ l ≠ []) ∧ Sub [(0, .slice sad l.length scp), (1, S path), (38, .bool t)] fr' ∧ H' = []) (fun J3 => ?_) ?_
 ·refine GC.reg ?_
  refine G.m1 ?_
  refine G.m1 ?_
  refine G.callP (v := .bool (dec (FitsN l path))) Tryd.call6 rfl rfl (fun w1 hw1 => f19_any w1 l _ (hsv.old hw1) h4 path hpl) ?_
  refine G.v (V.not rfl) rfl ?_
  refine G.m1 ?_
  refine G.bc 22 rfl (fun h22 => ?_) (fun h22 => ?_)
  ·refine G.s1 ?_
   refine G.s1 ?_
   refine G.s1 ?_
   refine G.m3 ?_
   refine G.m1 ?_
   refine G.s1 ?_
   refine G.s1 ?_
   refine G.s1 ?_
   refine G.s1 ?_
   refine G.s1 ?_
   refine G.m3 ?_
   refine G.m1 ?_
   refine G.s1 ?_
   refine G.s1 ?_
   refine G.s1 ?_
   refine G.m3 ?_
   refine G.nil ?_
   refine GC.turn (H' := []) (fun w1 h1 => h1.sub (List.nil_sublist _)) ?_
   exact J3 _ _ ⟨true, fun h => (by cases h), .of rfl, rfl⟩
  ·refine G.m5 ?_
   have hft : FitsN l path := dec_true.1 (by simpa using h22)
   have hp300 := hft.2.2.2.2
   refine G.gd rfl rfl ?_
   refine G.callP (v := .bool (dec (AscN path))) Tryd.call7 rfl rfl (fun w1 _ => c7_any w1 path (by omega)) ?_
   refine G.vg rfl rfl (V.not rfl) rfl ?_
   refine G.m4 ?_
   refine G.m1 ?_
   refine G.bc 27 rfl (fun h27 => ?_) (fun h27 => ?_)
   ·refine G.s1 ?_
    refine G.s1 ?_
    refine G.s1 ?_
    refine G.s1 ?_
    refine G.s1 ?_
    refine G.m3 ?_
    refine G.m1 ?_
    refine G.s1 ?_
    refine G.s1 ?_
    refine G.s1 ?_
    refine G.m3 ?_
    refine G.nil ?_
    refine GC.turn (H' := []) (fun w1 h1 => h1.sub (List.nil_sublist _)) ?_
    exact J3 _ _ ⟨true, fun h => (by cases h), .of rfl, rfl⟩
   ·refine G.m5 ?_
    refine G.gd rfl rfl ?_
    refine G.callW (fun v H2 => ∃ Hk, Own 9 1 v l.length ((l.map rtT).map S) Hk ∧ H2 = Hk ++ []) Tryd.call9 rfl rfl (fun w1 hw1 => ?_) ?_
    ·refine (f23_any w1 l _ (hsv.old hw1) (table_bd hft) (by have := hft.1; omega)).mono fun e w' ⟨kv, Hs, h1, h2, h3⟩ => ?_
     exact ⟨_, _, h1, hw1.after0 h3 h2.w, Hs, h2, rfl⟩
    rintro kv H2 ⟨Hs, hown, rfl⟩
    refine G.gd rfl rfl ?_
    refine G.callP (v := S (l.map rtT).flatten) Tryd.call8 rfl rfl (fun w1 hw1 => c8_any w1 kv (l.map rtT) hown (by simp) hw1 (fun e he => List.mem_append_left _ he) (by rw [List.length_map]; have := hft.1; omega) (flat_bd hft)) ?_
    refine G.gd rfl rfl ?_
    refine G.callP (v := .bool (dec (AscN (l.map rtT).flatten))) Tryd.call7 rfl rfl (fun w1 _ => c7_any w1 _ (flat_bd hft)) ?_
    refine G.vg rfl rfl (V.not rfl) rfl ?_
    refine G.m4 ?_
    refine G.m1 ?_
    refine G.bc 34 rfl (fun h34 => ?_) (fun h34 => ?_)
    ·refine G.s1 ?_
     refine G.s1 ?_
     refine G.s1 ?_
     refine G.m3 ?_
     refine G.nil ?_
     refine GC.turn (H' := []) (fun w1 h1 => h1.sub (List.nil_sublist _)) ?_
     exact J3 _ _ ⟨true, fun h => (by cases h), .of rfl, rfl⟩
    ·refine G.m5 ?_
     refine G.vg rfl rfl (V.lenL Tryd.underlying22 rfl) rfl ?_
     refine G.vg rfl rfl (V.eqI rfl rfl) rfl ?_
     refine G.m4 ?_
     refine G.nil ?_
     refine GC.turn (H' := []) (fun w1 h1 => h1.sub (List.nil_sublist _)) ?_
     refine J3 _ _ ⟨_, fun h => ⟨hft, dec_true.1 (by simpa using h27), fun a ha x hx => ?_, fun e => ?_⟩, .of rfl, rfl⟩
     ·have hfl : AscN (l.map rtT).flatten := dec_true.1 (by simpa using h34)
      exact hfl x (List.mem_flatten.2 ⟨_, List.mem_map.2 ⟨a, ha, rfl⟩, hx⟩)
     ·rw [e] at h; exact absurd h (by decide)
 rintro fr' H' ⟨t38, ht38, hs3, rfl⟩
 refine GC.weak hs3 ?_
 clear hs3
 refine GC.cond rfl (fun h38 => ?_) (fun h38 => ?_)
 ·refine GC.seq ?_
  refine GC.reg ?_
  refine G.callP Tryd.call10 rfl rfl (fun w1 hw1 => s8_any w1) ?_
  refine G.m2 ?_
  refine G.nil ?_
  exact GC.ret1 rfl rfl fun w' hw' => ⟨rfl, hw'.sub (List.nil_sublist _)⟩
 refine GC.skip ?_
 refine GC.seq ?_
 refine GC.seq ?_
 obtain ⟨hft, hpa, hta, hne⟩ := ht38 h38
 have hsv0 := hsv
 obtain ⟨ad, cp, he0, hcp, hc⟩ := hsv
 cases he0
 obtain ⟨qq, hqq⟩ := hft.2.2.1
 have hp1 : 1 ≤ path.length := by rw [← hqq]; simp
 have hp300 := hft.2.2.2.2
 have h30 := hft.1
 refine GC.reg ?_
 refine G.m1 ?_
 refine G.v (V.lenL Tryd.underlying22 rfl) rfl ?_
 refine G.m1 ?_
 refine G.nil ?_
 refine GC.block ?_
 refine GC.loopJ (fun N fr' H' => ∃ j, j + N = l.length ∧ Sub [(0, .slice sad l.length scp), (1, S path), (40, .slice sad l.length scp), (41, I (l.length : Nat)), (42, I (j : Nat))] fr' ∧ H' = []) l.length
  ⟨0, by omega, .of rfl, rfl⟩ ?_
 rintro N fr' H' ⟨j, hj, hs2, rfl⟩ ih
 refine GC.weak hs2 ?_
 clear hs2
 refine GC.seq ?_
 refine GC.reg ?_
 refine G.v (V.lt rfl rfl) rfl ?_
 refine G.nil ?_
 refine GC.seq ?_
 refine GC.condD rfl (fun h43 => ?_) (fun h43 => ?_)
 ·refine GC.skip ?_
  refine GC.seq ?_
  refine GC.block ?_
  refine GC.seq ?_
  have hjl : j < l.length := by omega
  obtain ⟨a, ha⟩ : ∃ p, l[j]? = some p := ⟨_, List.getElem?_eq_getElem hjl⟩
  have hal := List.mem_of_getElem? ha
  have ha0 : 0 < a.length := List.length_pos_iff.2 (hft.2.1.clean a hal).1
  have hal2 := (table_bd hft a hal).2
  obtain ⟨p, hp⟩ : ∃ p, a[a.length - 1]? = some p := ⟨_, List.getElem?_eq_getElem (by omega)⟩
  obtain ⟨b, o, av, e0, hc1, pad, pcp, rfl, hpcp, hpc⟩ := hc j a ha
  cases e0
  obtain ⟨pb, po, e1, hq1, hq2⟩ := hpc _ p hp
  cases e1
  obtain ⟨y, hy⟩ : ∃ y, path[path.length - 1]? = some y := ⟨_, List.getElem?_eq_getElem (by omega)⟩
  refine GC.reg ?_
  refine G.v (V.ia (i := j) Tryd.underlying22 Tryd.sizeOf30 rfl rfl hjl) rfl ?_
  refine G.v (V.ldC (v := .slice (some ⟨pb, po, none⟩) a.length pcp) Tryd.isAgg30 rfl (by rw [Nat.mul_one]; exact hc1) id) rfl ?_
  refine G.m2 ?_
  refine G.nil ?_
  refine GC.seq ?_
  refine GC.join (fun fr' H' => ∃ t : Bool, Sub [(0, .slice (some ⟨b, o, none⟩) l.length scp), (1, S path), (40, .slice (some ⟨b, o, none⟩) l.length scp), (41, I (l.length : Nat)), (42, I (j : Nat)), (61, .bool t)] fr' ∧ H' = []) (fun J8 => ?_) ?_
  ·refine GC.reg ?_
   refine G.m1 ?_
   refine G.m1 ?_
   refine G.v (V.lenS Tryd.underlying9 rfl) rfl ?_
   refine G.v (V.subI (r := ((path.length - 1 : Nat) : Int)) rfl rfl (by omega) (by omega) (by omega)) rfl ?_
   refine G.v (V.idx (i := path.length - 1) (b := y) Tryd.underlying9 rfl rfl hy) rfl ?_
   refine G.v (V.eqI rfl rfl) rfl ?_
   refine G.m1 ?_
   refine G.bc 52 rfl (fun h52 => ?_) (fun h52 => ?_)
   ·refine G.m5 ?_
    refine G.m5 ?_
    refine G.vg rfl rfl (V.lenL Tryd.underlying30 rfl) rfl ?_
    refine G.vg rfl rfl (V.subI (r := ((a.length - 1 : Nat) : Int)) rfl rfl (by omega) (by omega) (by omega)) rfl ?_
    refine G.vg rfl rfl (V.ia (i := a.length - 1) Tryd.underlying30 Tryd.sizeOf32 rfl rfl (by omega)) rfl ?_
    refine G.vg rfl rfl (V.fa F32_0 rfl) rfl ?_
    refine G.vg rfl rfl (V.ldC (v := .int .u8 (p.k.toNat : Int)) Tryd.isAgg5 rfl hq1 id) rfl ?_
    refine G.vg rfl rfl (V.eqI rfl rfl) rfl ?_
    refine G.m3 ?_
    refine G.nil ?_
    exact J8 _ _ ⟨_, .of rfl, rfl⟩
   ·refine G.s1 ?_
    refine G.s1 ?_
    refine G.s1 ?_
    refine G.s1 ?_
    refine G.s1 ?_
    refine G.s1 ?_
    refine G.s1 ?_
    refine G.s1 ?_
    refine G.m4 ?_
    refine G.nil ?_
    exact J8 _ _ ⟨_, .of rfl, rfl⟩
  rintro fr' H' ⟨t61, hs8, rfl⟩
  refine GC.weak hs8 ?_
  clear hs8
  refine GC.cond rfl (fun h61 => ?_) (fun h61 => ?_)
  ·refine GC.seq ?_
   refine GC.reg ?_
   refine G.callP Tryd.call10 rfl rfl (fun w1 hw1 => s8_any w1) ?_
   refine G.m2 ?_
   refine G.nil ?_
   exact GC.ret1 rfl rfl fun w' hw' => ⟨rfl, hw'.sub (List.nil_sublist _)⟩
  refine GC.skip ?_
  refine GC.inBlock ?_
  refine GC.reg ?_
  refine G.v (V.addI (r := ((j + 1 : Nat) : Int)) rfl rfl rfl (by omega) (by omega)) rfl ?_
  refine G.m1 ?_
  refine G.nil ?_
  exact ih (N - 1) _ _ (by omega) ⟨j + 1, by omega, .of rfl, rfl⟩
 refine GC.exit rfl ?_
 refine GC.seq ?_
 refine GC.reg ?_
 refine G.m1 ?_
 refine G.m1 ?_
 refine G.callW (fun v H2 => ∃ r, v = .tuple #[S (r.getD []), .bool r.isSome, .bool true] ∧ CaseS l path r ∧ H2 = []) Tryd.call11 rfl rfl (fun w1 hw1 => (c11_any w1 l _ (hsv0.old hw1) path hft hne hpa hta).mono fun e w' ⟨r, h1, h2, h3⟩ => ⟨_, _, h1, hw1.after0 h3 (by simp), r, rfl, h2, rfl⟩) ?_
 rintro v H2 ⟨r, rfl, hcs, rfl⟩
 refine G.m1 ?_
 refine G.v (V.ex rfl rfl) rfl ?_
 refine G.v (V.ex rfl rfl) rfl ?_
 refine G.v (V.ex rfl rfl) rfl ?_
 refine G.m2 ?_
 refine G.m2 ?_
 refine G.m2 ?_
 refine G.nil ?_
 refine GC.seq ?_
 refine GC.seq ?_
 refine GC.reg ?_
 refine G.m1 ?_
 refine G.v (V.not rfl) rfl ?_
 refine G.nil ?_
 refine GC.cond rfl (fun h72 => absurd h72 (by decide)) (fun h72 => ?_)
 refine GC.skip ?_
 refine GC.seq ?_
 refine GC.seq ?_
 refine GC.reg ?_
 refine G.m1 ?_
 refine G.v (V.not rfl) rfl ?_
 refine G.nil ?_
 refine GC.cond rfl (fun h74 => ?_) (fun h74 => ?_)
 ·refine GC.seq ?_
  refine GC.reg ?_
  refine G.callP Tryd.call10 rfl rfl (fun w1 hw1 => s8_any w1) ?_
  refine G.m2 ?_
  refine G.nil ?_
  exact GC.ret1 rfl rfl fun w' hw' => ⟨rfl, hw'.sub (List.nil_sublist _)⟩
 refine GC.skip ?_
 refine GC.seq ?_
 obtain ⟨out, rfl⟩ : ∃ out, r = some out := by
  cases r with
  | none => exact absurd h74 (by decide)
  | some o => exact ⟨o, rfl⟩
 obtain ⟨hf1, hf2⟩ := hcs out rfl
 have hol : out.length ≤ 300 := by
  have := congrArg List.length hf1
  simp only [foldT, List.length_map] at this
  omega
 refine GC.reg ?_
 refine G.m1 ?_
 refine G.callP (v := S (foldT out)) Tryd.call12 rfl rfl (fun w1 hw1 => f59_any w1 out (by omega)) ?_
 refine G.m1 ?_
 refine G.callP (v := S (foldT path)) Tryd.call12 rfl rfl (fun w1 hw1 => f59_any w1 path (by omega)) ?_
 refine G.v (V.eqS rfl rfl) rfl ?_
 refine G.m1 ?_
 refine G.bc 81 rfl (fun h81 => ?_) (fun h81 => ?_)
 ·refine G.m5 ?_
  refine G.m5 ?_
  refine G.gd rfl rfl ?_
  refine G.callW (fun v H2 => ∃ r pv full Hp, v = .agg #[I (r : Nat), pv, S full, .bool false] ∧ r ≠ 0 ∧ H2 = Hp ++ []) Tryd.call13 rfl rfl (fun w1 hw1 => ?_) ?_
  ·refine (f33_any w1 l _ (hsv0.old hw1) (fun r hr => hft.2.1.clean r hr) (by omega) out (by omega)).mono fun e w' ⟨r, pv, full, Hp, h1, h2, h3⟩ => ⟨_, _, h1, hw1.after0 h3 h2.w, r, pv, full, Hp, rfl, ?_, rfl⟩
   rcases h2 with ⟨h5, _⟩ | ⟨m, a, ps, _, h5, _⟩
   ·exact absurd h5 hf2
   ·omega
  rintro v H2 ⟨r, pv, full, Hp, rfl, hr0, rfl⟩
  refine G.vg rfl rfl (V.fld (v := I (r : Nat)) Tryd.underlying38 rfl Tryd.isAgg3 rfl rfl) rfl ?_
  refine G.vg rfl rfl (V.neI rfl rfl) rfl ?_
  refine G.m3 ?_
  refine G.m1 ?_
  refine G.bc 88 rfl (fun h88 => ?_) (fun h88 => ?_)
  ·refine G.gd rfl rfl ?_
   refine G.callP Tryd.call10 rfl rfl (fun w1 hw1 => s8_any w1) ?_
   refine G.m3 ?_
   refine G.m2 ?_
   refine G.nil ?_
   exact GC.ret1 rfl rfl fun w' hw' => ⟨rfl, hw'.sub (List.nil_sublist _)⟩
  ·exact absurd h88 (by simp; omega)
 ·exact absurd hf1 (of_decide_eq_false h81)
end Go.Proofs
