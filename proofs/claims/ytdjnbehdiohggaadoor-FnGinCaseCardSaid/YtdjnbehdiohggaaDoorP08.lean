/- Lemmas of the walk and plain facts (HuE7 .. HuE10). -/
import Derived.Test.YtdjnbehdiohggaaDoorP07
import Derived.Test.YtdjnbehdiohggaaDoorP01
/- insertChild: a catch-all is put in, or refused. Printed by wip/mk_gu7.py. -/
set_option maxRecDepth 20000
namespace Go.Proofs
open Go Bw
open Gt
theorem f79_cat {R : Ending → World → Prop} {w : World} {D : Nat → Prop} {nb hb num : Nat} {p full tp idx : List UInt8} {wl : Bool} {nt pr : Nat} {h0 : Option Nat} {f0 : List UInt8} {kids : List T0} {bs : List Nat} {kv hv : Value} {Hs Hh Hk Hr : SH} {fr : SF}
  (hs : Own 83 1 kv kids.length (bs.map (Pt · 0)) Hs) (hh : HV h0 hv Hh) (hk : HTs kids bs Hk) (h92 : ∀ c ∈ p, c ≠ 92) (hpl : p.length ≤ 100000) (hkl : kids.length ≤ 90000) (hsub : Sub [(0, Pt nb 0), (1, S p), (2, S full), (3, .slice (some ⟨hb, 0, none⟩) 1 1)] fr) (wc : List UInt8) (i : Nat) (hf : fw p 0 = some (42 :: wc, i)) (hwc : ∀ c ∈ wc, c ≠ 58 ∧ c ≠ 42) (hwn : wc ≠ []) (hend : p.length = i + (wc.length + 1)) (h47 : 0 < i → p[i - 1]? = some 47) (htl : tp.length ≤ 100000) (htp : tp.getLast? ≠ some 47) (hi0 : 0 < i)
  (fin : ∀ Hn' w', HT (.node () (p.take (i - 1)) [47] wl nt pr h0 f0 (addKid wl kids (.node () [] [] true 3 1 none full [.node () (p.drop (i - 1)) [] false 3 1 (some num) full []]))) nb Hn' → HF w D (Hn' ++ Hr) w' → R (.returned (.tuple #[])) w') : GC Tryd.prog ⟨62, Tryd.f62, R, w, D⟩ 221 K79 fr (⟨nb, true, .row (nodeR tp idx wl nt pr kv hv f0) 94 (0, 0)⟩ :: ((Hs ++ (Hh ++ Hk)) ++ (⟨hb, true, .row [I (num : Int)] 3 (0, 0)⟩ :: Hr))) := by
 refine GC.weak hsub ?_
 clear hsub
 obtain ⟨X, hX⟩ : ∃ X, X = (Hh ++ Hk) ++ (⟨hb, true, .row [I (num : Int)] 3 (0, 0)⟩ :: Hr) := ⟨_, rfl⟩
 refine GC.turn (H' := ⟨nb, true, .row (nodeR tp idx wl nt pr kv hv f0) 94 (0, 0)⟩ :: (Hs ++ X)) (fun w1 h1 => by rw [hX, ← List.append_assoc]; exact h1) ?_
 have hkl2 := hk.len
 have h88 : ∀ w1, Calls Tryd.prog 77 #[S p] w1 fun e w' => e = .returned (.tuple #[S (42 :: wc), I (i : Int), .bool true]) ∧ HF w1 (fun _ => False) [] w' := by
  intro w1
  have := f88_any w1 p h92 (fun wc2 i2 h => by rw [hf] at h; cases h; exact hwc) hpl
  rw [hf] at this; exact this
 have hwl := List.length_pos_iff.2 hwn
 have hcl : (42 :: wc).length = wc.length + 1 := rfl
 refine GC.block ?_
 refine GC.seq ?_
 refine GC.reg ?_
 refine G.m1 ?_
 refine G.callP Tryd.call77 rfl rfl (fun w1 hw1 => h88 w1) ?_
 refine G.m1 ?_
 refine G.v (V.ex rfl rfl) rfl ?_
 refine G.v (V.ex rfl rfl) rfl ?_
 refine G.v (V.ex rfl rfl) rfl ?_
 refine G.m2 ?_
 refine G.m2 ?_
 refine G.m2 ?_
 refine G.nil ?_
 refine GC.seq ?_
 refine GC.seq ?_
 refine GC.reg ?_
 refine G.m1 ?_
 refine G.v (V.lt rfl rfl) rfl ?_
 refine G.nil ?_
 refine GC.condD rfl (fun h22 => absurd h22 (by omega)) (fun h22 => ?_)
 refine GC.skip ?_
 refine GC.seq ?_
 refine GC.seq ?_
 refine GC.reg ?_
 refine G.m1 ?_
 refine G.v (V.not rfl) rfl ?_
 refine G.nil ?_
 refine GC.cond rfl (fun h24 => absurd h24 (by decide)) (fun h24 => ?_)
 refine GC.skip ?_
 refine GC.seq ?_
 refine GC.seq ?_
 refine GC.reg ?_
 refine G.m1 ?_
 refine G.v (V.lenS Tryd.underlying9 rfl) rfl ?_
 refine G.v (V.lt rfl rfl) rfl ?_
 refine G.nil ?_
 refine GC.condD rfl (fun h34 => absurd h34 (by rw [hcl]; omega)) (fun h34 => ?_)
 refine GC.skip ?_
 refine GC.seq ?_
 refine GC.seq ?_
 refine GC.reg ?_
 refine G.m1 ?_
 refine G.v (V.idx (i := 0) (b := 42) Tryd.underlying9 rfl rfl rfl) rfl ?_
 refine G.v (V.eqI rfl rfl) rfl ?_
 refine G.nil ?_
 refine GC.condD rfl (fun h41 => absurd h41 (by decide)) (fun h41 => ?_)
 refine GC.skip ?_
 refine GC.seq ?_
 refine GC.seq ?_
 refine GC.reg ?_
 refine G.m1 ?_
 refine G.m1 ?_
 refine G.v (V.lenS Tryd.underlying9 rfl) rfl ?_
 refine G.v (V.addI (r := ((i + (wc.length + 1) : Nat) : Int)) rfl rfl (by rw [hcl]; omega) (by omega) (by omega)) rfl ?_
 refine G.m1 ?_
 refine G.v (V.lenS Tryd.underlying9 rfl) rfl ?_
 refine G.v (V.neI rfl rfl) rfl ?_
 refine G.nil ?_
 refine GC.cond rfl (fun h97 => absurd h97 (by rw [hend]; simp)) (fun h97 => ?_)
 refine GC.skip ?_
 refine GC.seq ?_
 refine GC.seq ?_
 refine GC.join (fun fr' H' => ∃ t : Bool, (t = true ↔ tp.getLast? = some 47) ∧ Sub [(0, Pt nb 0), (1, S p), (2, S full), (3, .slice (some ⟨hb, 0, none⟩) 1 1), (8, S (42 :: wc)), (9, I (i : Int)), (121, .bool t)] fr' ∧ H' = ⟨nb, true, .row (nodeR tp idx wl nt pr kv hv f0) 94 (0, 0)⟩ :: (Hs ++ X)) (fun J23 => ?_) ?_
 ·refine GC.regQ mixed (by kernel_rfl) ?_
  refine GQ.v (V.mv rfl) rfl ?_
  refine GQ.v (V.nc rfl) rfl ?_
  refine GQ.v (V.fa F94_0 rfl) rfl ?_
  refine GQ.v (V.ld (b := nb) (off := 0 + 0) (wf := true) (l := nodeR tp idx wl nt pr kv hv f0) (T := 94) (fz := (0, 0)) (v := S tp) Tryd.isAgg9 rfl (.head _) rfl) rfl ?_
  refine GQ.v (V.lenS Tryd.underlying9 rfl) rfl ?_
  refine GQ.v (V.gt rfl rfl) rfl ?_
  refine GQ.v (V.mv rfl) rfl ?_
  refine GQ.bc 108 rfl (fun h108 => ?_) (fun h108 => ?_)
  ·have htp : tp ≠ [] := fun e => by rw [e] at h108; simp at h108
   have htl := List.length_pos_iff.2 htp
   obtain ⟨y, hy⟩ : ∃ y, tp[tp.length - 1]? = some y := ⟨_, List.getElem?_eq_getElem (by omega)⟩
   refine GQ.vg rfl rfl (V.mv rfl) rfl ?_
   refine GQ.vg rfl rfl (V.nc rfl) rfl ?_
   refine GQ.vg rfl rfl (V.fa F94_0 rfl) rfl ?_
   refine GQ.vg rfl rfl (V.ld (b := nb) (off := 0 + 0) (wf := true) (l := nodeR tp idx wl nt pr kv hv f0) (T := 94) (fz := (0, 0)) (v := S tp) Tryd.isAgg9 rfl (.head _) rfl) rfl ?_
   refine GQ.vg rfl rfl (V.mv rfl) rfl ?_
   refine GQ.vg rfl rfl (V.nc rfl) rfl ?_
   refine GQ.vg rfl rfl (V.fa F94_0 rfl) rfl ?_
   refine GQ.vg rfl rfl (V.ld (b := nb) (off := 0 + 0) (wf := true) (l := nodeR tp idx wl nt pr kv hv f0) (T := 94) (fz := (0, 0)) (v := S tp) Tryd.isAgg9 rfl (.head _) rfl) rfl ?_
   refine GQ.vg rfl rfl (V.lenS Tryd.underlying9 rfl) rfl ?_
   refine GQ.vg rfl rfl (V.subI (r := ((tp.length - 1 : Nat) : Int)) rfl rfl (by omega) (by omega) (by omega)) rfl ?_
   refine GQ.vg rfl rfl (V.idx (i := tp.length - 1) (b := y) Tryd.underlying9 rfl rfl hy) rfl ?_
   refine GQ.vg rfl rfl (V.eqI rfl rfl) rfl ?_
   refine GQ.v (V.pickT rfl rfl) rfl ?_
   refine GQ.nil ?_
   refine J23 _ _ ⟨_, ?_, .of rfl, rfl⟩
   rw [decide_eq_true_eq, List.getLast?_eq_getElem?, hy]
   exact ⟨fun e => by rw [u47 e], fun e => by rw [Option.some.inj e]; rfl⟩
  ·refine GQ.sg rfl rfl rfl rfl rfl rfl ?_
   refine GQ.sg rfl rfl rfl rfl rfl rfl ?_
   refine GQ.sg rfl rfl rfl rfl rfl rfl ?_
   refine GQ.sg rfl rfl rfl rfl rfl rfl ?_
   refine GQ.sg rfl rfl rfl rfl rfl rfl ?_
   refine GQ.sg rfl rfl rfl rfl rfl rfl ?_
   refine GQ.sg rfl rfl rfl rfl rfl rfl ?_
   refine GQ.sg rfl rfl rfl rfl rfl rfl ?_
   refine GQ.sg rfl rfl rfl rfl rfl rfl ?_
   refine GQ.sg rfl rfl rfl rfl rfl rfl ?_
   refine GQ.sg rfl rfl rfl rfl rfl rfl ?_
   refine GQ.sg rfl rfl rfl rfl rfl rfl ?_
   refine GQ.v (V.pickF rfl rfl) rfl ?_
   refine GQ.nil ?_
   refine J23 _ _ ⟨false, ⟨fun h => (by cases h), fun h => ?_⟩, .of rfl, rfl⟩
   have htp : tp = [] := List.length_eq_zero_iff.1 (by have := of_decide_eq_false h108; omega)
   rw [htp] at h; cases h
 rintro fr' H' ⟨t, ht, hs23, rfl⟩
 refine GC.weak hs23 ?_
 clear hs23
 refine GC.cond rfl (fun h121 => absurd (ht.1 h121) htp) (fun h121 => ?_)
 refine GC.skip ?_
 refine GC.seq ?_
 refine GC.reg ?_
 refine G.m1 ?_
 refine G.v (V.subI (r := ((i - 1 : Nat) : Int)) rfl rfl (by omega) (by omega) (by omega)) rfl ?_
 refine G.m2 ?_
 refine G.nil ?_
 refine GC.seq ?_
 refine GC.seq ?_
 refine GC.join (fun fr' H' => Sub [(0, Pt nb 0), (1, S p), (2, S full), (3, .slice (some ⟨hb, 0, none⟩) 1 1), (9, I ((i - 1 : Nat) : Int)), (169, .bool false)] fr' ∧ H' = ⟨nb, true, .row (nodeR tp idx wl nt pr kv hv f0) 94 (0, 0)⟩ :: (Hs ++ X)) (fun J29 => ?_) ?_
 ·refine GC.reg ?_
  refine G.m1 ?_
  refine G.v (V.lt rfl rfl) rfl ?_
  refine G.m1 ?_
  refine G.bc 164 rfl (fun h164 => ?_) (fun h164 => ?_)
  ·refine G.s1 ?_
   refine G.s1 ?_
   refine G.s1 ?_
   refine G.s1 ?_
   refine G.m3 ?_
   refine G.nil ?_
   exact absurd (of_decide_eq_true h164) (by omega)
  ·refine G.m5 ?_
   refine G.m5 ?_
   refine G.vg rfl rfl (V.idx (i := i - 1) (b := 47) Tryd.underlying9 rfl rfl (h47 hi0)) rfl ?_
   refine G.vg rfl rfl (V.neI rfl rfl) rfl ?_
   refine G.m4 ?_
   refine G.nil ?_
   exact J29 _ _ ⟨.of rfl, rfl⟩
 rintro fr' H' ⟨hs29, rfl⟩
 refine GC.weak hs29 ?_
 clear hs29
 refine GC.condF rfl ?_
 refine GC.skip ?_
 refine GC.seq ?_
 refine GC.reg ?_
 refine G.m1 ?_
 refine G.m1 ?_
 refine G.m1 ?_
 refine G.v (V.slH (j := i - 1) Tryd.underlying9 rfl rfl (by omega)) rfl ?_
 refine G.v (V.nc rfl) rfl ?_
 refine G.v (V.fa F94_0 rfl) rfl ?_
 refine G.st (b := nb) (off := 0 + 0) (l := nodeR tp idx wl nt pr kv hv f0) (T := 94) (fz := (0, 0)) (v := S (p.take (i - 1))) Tryd.sizeOf9 rfl rfl rfl (.z) rfl rfl ?_
 refine G.nil ?_
 refine GC.seq ?_
 refine GC.turn (H' := ⟨nb, true, .row (nodeR (p.take (i - 1)) idx wl nt pr kv hv f0) 94 (0, 0)⟩ :: (Hs ++ X)) (fun w1 h1 => h1) ?_
 refine GC.reg ?_
 refine G.m1 ?_
 refine G.v (V.bd (vs := [(2, .bool true), (3, .int .u8 3), (7, S full)]) rfl (fun w1 => bd_ca _ w1)) rfl ?_
 refine G.bx (l := nodeR [] [] true 3 0 (.slice none 0 0) (.slice none 0 0) full) rfl (by simp [cells_agg, nodeR]) rfl (fun pb hpb => ?_)
 refine G.m2 ?_
 refine G.nil ?_
 refine GC.seq ?_
 refine GC.reg ?_
 refine G.m1 ?_
 refine G.m1 ?_
 rw [← hkl2] at hs
 refine G.callL (H1 := ⟨nb, true, .row (nodeR (p.take (i - 1)) idx wl nt pr kv hv f0) 94 (0, 0)⟩ :: Hs) (Hk := ⟨pb, true, .row (nodeR [] [] true 3 0 (.slice none 0 0) (.slice none 0 0) full) 94 (0, 0)⟩ :: X) (fun v H1' => v = .tuple #[] ∧ ∃ kv' Hs', Own 83 1 kv' (bs.length + 1) ((addB wl bs pb).map (Pt · 0)) Hs' ∧ H1' = ⟨nb, true, .row (nodeR (p.take (i - 1)) idx wl nt pr kv' hv f0) 94 (0, 0)⟩ :: Hs') (List.perm_middle (l₁ := ⟨nb, true, .row (nodeR (p.take (i - 1)) idx wl nt pr kv hv f0) 94 (0, 0)⟩ :: Hs)).symm (fun e0 he0 => ?_) Tryd.call65 rfl rfl (fun w1 hw1 _ => ?_) ?_
 ·rcases List.mem_cons.1 he0 with rfl | he0
  ·rfl
  ·exact hs.w e0 he0
 ·refine (f82_any w1 _ nb pb (p.take (i - 1)) idx wl nt pr hv f0 kv bs Hs (by omega) hs hw1).mono fun e w' ⟨h1, kv', Hs', h2, h3⟩ => ⟨_, _, h1, fun e0 he0 => ?_, h3, rfl, kv', Hs', h2, rfl⟩
  rcases List.mem_cons.1 he0 with rfl | he0
  ·rfl
  ·exact h2.w e0 he0
 rintro v H1' ⟨rfl, kv2, Hs2, hs2, rfl⟩
 refine G.turn (H' := ⟨pb, true, .row (nodeR [] [] true 3 0 (.slice none 0 0) (.slice none 0 0) full) 94 (0, 0)⟩ :: ⟨nb, true, .row (nodeR (p.take (i - 1)) idx wl nt pr kv2 hv f0) 94 (0, 0)⟩ :: (Hs2 ++ X)) (fun w1 h1 => h1.perm (List.perm_middle (l₁ := ⟨nb, true, .row (nodeR (p.take (i - 1)) idx wl nt pr kv2 hv f0) 94 (0, 0)⟩ :: Hs2))) ?_
 refine G.nil ?_
 refine GC.seq ?_
 refine GC.reg ?_
 refine G.m1 ?_
 refine G.v (V.nc rfl) rfl ?_
 refine G.v (V.fa F94_1 rfl) rfl ?_
 refine G.st (b := nb) (off := 0 + 1) (l := nodeR (p.take (i - 1)) idx wl nt pr kv2 hv f0) (T := 94) (fz := (0, 0)) (v := S [47]) Tryd.sizeOf9 rfl rfl rfl (.s .z) rfl rfl ?_
 refine G.nil ?_
 refine GC.seq ?_
 refine GC.turn (H' := ⟨pb, true, .row (nodeR [] [] true 3 0 (.slice none 0 0) (.slice none 0 0) full) 94 (0, 0)⟩ :: ⟨nb, true, .row (nodeR (p.take (i - 1)) [47] wl nt pr kv2 hv f0) 94 (0, 0)⟩ :: (Hs2 ++ X)) (fun w1 h1 => h1) ?_
 refine GC.reg ?_
 refine G.m1 ?_
 refine G.m2 ?_
 refine G.nil ?_
 refine GC.seq ?_
 refine GC.reg ?_
 refine G.m1 ?_
 refine G.v (V.nc rfl) rfl ?_
 refine G.v (V.fa F94_4 rfl) rfl ?_
 refine G.v (V.ld (b := pb) (off := 0 + 4) (wf := true) (l := nodeR [] [] true 3 0 (.slice none 0 0) (.slice none 0 0) full) (T := 94) (fz := (0, 0)) (v := .int .u32 ((0 % 4294967296 : Nat) : Int)) Tryd.isAgg89 rfl (.head _) rfl) rfl ?_
 refine G.v (V.add rfl rfl) rfl ?_
 rw [wrapU32]
 refine G.v (V.nc rfl) rfl ?_
 refine G.v (V.fa F94_4 rfl) rfl ?_
 refine G.st (b := pb) (off := 0 + 4) (l := nodeR [] [] true 3 0 (.slice none 0 0) (.slice none 0 0) full) (T := 94) (fz := (0, 0)) (v := .int .u32 (((0 + 1) % 4294967296 : Nat) : Int)) Tryd.sizeOf89 rfl rfl rfl (.z) rfl rfl ?_
 refine G.nil ?_
 refine GC.seq ?_
 refine GC.turn (H' := ⟨pb, true, .row (nodeR [] [] true 3 1 (.slice none 0 0) (.slice none 0 0) full) 94 (0, 0)⟩ :: ⟨nb, true, .row (nodeR (p.take (i - 1)) [47] wl nt pr kv2 hv f0) 94 (0, 0)⟩ :: (Hs2 ++ X)) (fun w1 h1 => h1) ?_
 refine GC.reg ?_
 refine G.m1 ?_
 refine G.m1 ?_
 refine G.v (V.slL (i := i - 1) Tryd.underlying9 rfl rfl (by omega)) rfl ?_
 refine G.m1 ?_
 refine G.m1 ?_
 refine G.v (V.bd (vs := [(0, S (p.drop (i - 1))), (3, .int .u8 3), (6, .slice (some ⟨hb, 0, none⟩) 1 1), (4, .int .u32 1), (7, S full)]) rfl (fun w1 => bd_cb _ _ _ w1)) rfl ?_
 refine G.bx (l := nodeR (p.drop (i - 1)) [] false 3 1 (.slice none 0 0) (.slice (some ⟨hb, 0, none⟩) 1 1) full) rfl (by simp [cells_agg, nodeR]) rfl (fun cb hcb => ?_)
 refine G.m2 ?_
 refine G.nil ?_
 refine GC.seq ?_
 refine GC.reg ?_
 refine G.m1 ?_
 refine G.m1 ?_
 refine G.bs (BS.one Tryd.underlying90 Tryd.sizeOf83 Tryd.zeroValue83 (v := Pt cb 0) rfl) rfl rfl (fun sb hsb => ?_)
 refine G.v (V.nc rfl) rfl ?_
 refine G.v (V.fa F94_5 rfl) rfl ?_
 refine G.st (b := pb) (off := 0 + 5) (l := nodeR [] [] true 3 1 (.slice none 0 0) (.slice none 0 0) full) (T := 94) (fz := (0, 0)) (v := .slice (some ⟨sb, 0, none⟩) 1 1) Tryd.sizeOf90 rfl rfl rfl (.s (.s .z)) rfl rfl ?_
 refine G.nil ?_
 refine GC.turn (H' := ⟨sb, true, .row [Pt cb 0] 83 (0, 0)⟩ :: ⟨cb, true, .row (nodeR (p.drop (i - 1)) [] false 3 1 (.slice none 0 0) (.slice (some ⟨hb, 0, none⟩) 1 1) full) 94 (0, 0)⟩ :: ⟨pb, true, .row (nodeR [] [] true 3 1 (.slice (some ⟨sb, 0, none⟩) 1 1) (.slice none 0 0) full) 94 (0, 0)⟩ :: ⟨nb, true, .row (nodeR (p.take (i - 1)) [47] wl nt pr kv2 hv f0) 94 (0, 0)⟩ :: (Hs2 ++ X)) (fun w1 h1 => h1) ?_
 refine GC.ret0 rfl fun w' hw' => ?_
 have hkid := HT.mk (path := p.drop (i - 1)) (idx := []) (wild := false) (nt := 3) (pr := 1) (full := full) (nb := cb) Own.nil (HV.row (k := num) (hb := hb)) HTs.nil
 have hown : Own 83 1 (.slice (some ⟨sb, 0, none⟩) 1 1) 1 ([cb].map (Pt · 0)) [⟨sb, true, .row [Pt cb 0] 83 (0, 0)⟩] := Own.row (xs := [Pt cb 0]) (spare := []) rfl rfl (Nat.le_refl _)
 obtain ⟨Hk2, hk2, hp2⟩ := hk.add (wild := wl) (HT.mk (path := []) (idx := []) (wild := true) (nt := 3) (pr := 1) (full := full) (nb := pb) (kids := [.node () (p.drop (i - 1)) [] false 3 1 (some num) full []]) hown HV.nil (HTs.one hkid))
 rw [hkl2] at hs2
 rw [← addKid_len wl kids (.node () [] [] true 3 1 none full [.node () (p.drop (i - 1)) [] false 3 1 (some num) full []])] at hs2
 refine fin _ w' (HT.mk hs2 hh hk2) (hw'.perm ?_)
 rw [hX]
 have e1 : Hk2.Perm (⟨pb, true, .row (nodeR [] [] true 3 1 (.slice (some ⟨sb, 0, none⟩) 1 1) (.slice none 0 0) full) 94 (0, 0)⟩ :: ⟨sb, true, .row [Pt cb 0] 83 (0, 0)⟩ :: ⟨cb, true, .row (nodeR (p.drop (i - 1)) [] false 3 1 (.slice none 0 0) (.slice (some ⟨hb, 0, none⟩) 1 1) full) 94 (0, 0)⟩ :: ⟨hb, true, .row [I (num : Int)] 3 (0, 0)⟩ :: Hk) := by simpa using hp2
 have p1 := perm_idx [[⟨sb, true, .row [Pt cb 0] 83 (0, 0)⟩], [⟨cb, true, .row (nodeR (p.drop (i - 1)) [] false 3 1 (.slice none 0 0) (.slice (some ⟨hb, 0, none⟩) 1 1) full) 94 (0, 0)⟩], [⟨pb, true, .row (nodeR [] [] true 3 1 (.slice (some ⟨sb, 0, none⟩) 1 1) (.slice none 0 0) full) 94 (0, 0)⟩], [⟨nb, true, .row (nodeR (p.take (i - 1)) [47] wl nt pr kv2 hv f0) 94 (0, 0)⟩], Hs2, Hh, Hk, [⟨hb, true, .row [I (num : Int)] 3 (0, 0)⟩], Hr] [0, 1, 2, 3, 4, 5, 6, 7, 8] [3, 4, 5, 2, 0, 1, 7, 6, 8] (by decide)
 refine List.Perm.trans (l₂ := ⟨nb, true, .row (nodeR (p.take (i - 1)) [47] wl nt pr kv2 hv f0) 94 (0, 0)⟩ :: (Hs2 ++ (Hh ++ ((⟨pb, true, .row (nodeR [] [] true 3 1 (.slice (some ⟨sb, 0, none⟩) 1 1) (.slice none 0 0) full) 94 (0, 0)⟩ :: ⟨sb, true, .row [Pt cb 0] 83 (0, 0)⟩ :: ⟨cb, true, .row (nodeR (p.drop (i - 1)) [] false 3 1 (.slice none 0 0) (.slice (some ⟨hb, 0, none⟩) 1 1) full) 94 (0, 0)⟩ :: ⟨hb, true, .row [I (num : Int)] 3 (0, 0)⟩ :: Hk) ++ Hr)))) (by simpa using p1) ?_
 have p2 := (((e1.symm.append_right Hr).append_left Hh).append_left Hs2).cons ⟨nb, true, .row (nodeR (p.take (i - 1)) [47] wl nt pr kv2 hv f0) 94 (0, 0)⟩
 simpa using p2
theorem f79_catx {R : Ending → World → Prop} {w : World} {D : Nat → Prop} {nb hb num : Nat} {p full tp idx : List UInt8} {wl : Bool} {nt pr : Nat} {h0 : Option Nat} {f0 : List UInt8} {kids : List T0} {bs : List Nat} {kv hv : Value} {Hs Hh Hk Hr : SH} {fr : SF}
  (hs : Own 83 1 kv kids.length (bs.map (Pt · 0)) Hs) (_hh : HV h0 hv Hh) (hk : HTs kids bs Hk) (h92 : ∀ c ∈ p, c ≠ 92) (hpl : p.length ≤ 100000) (_hkl : kids.length ≤ 90000) (hsub : Sub [(0, Pt nb 0), (1, S p), (2, S full), (3, .slice (some ⟨hb, 0, none⟩) 1 1)] fr) (wc : List UInt8) (i : Nat) (hf : fw p 0 = some (42 :: wc, i)) (hwc : ∀ c ∈ wc, c ≠ 58 ∧ c ≠ 42) (hwn : wc ≠ []) (hend : p.length = i + (wc.length + 1)) (_h47 : 0 < i → p[i - 1]? = some 47) (htl : tp.length ≤ 100000) (hx : tp.getLast? = some 47 ∨ i = 0) (hfl : full.length ≤ 100000) (hkp : ∀ k ∈ kids, k.path.length ≤ 100000)
  (pan : ∀ e w', onePanic e → HF w D [] w' → R e w') : GC Tryd.prog ⟨62, Tryd.f62, R, w, D⟩ 221 K79 fr (⟨nb, true, .row (nodeR tp idx wl nt pr kv hv f0) 94 (0, 0)⟩ :: ((Hs ++ (Hh ++ Hk)) ++ (⟨hb, true, .row [I (num : Int)] 3 (0, 0)⟩ :: Hr))) := by
 refine GC.weak hsub ?_
 clear hsub
 obtain ⟨X, hX⟩ : ∃ X, X = (Hh ++ Hk) ++ (⟨hb, true, .row [I (num : Int)] 3 (0, 0)⟩ :: Hr) := ⟨_, rfl⟩
 refine GC.turn (H' := ⟨nb, true, .row (nodeR tp idx wl nt pr kv hv f0) 94 (0, 0)⟩ :: (Hs ++ X)) (fun w1 h1 => by rw [hX, ← List.append_assoc]; exact h1) ?_
 have hkl2 := hk.len
 obtain ⟨ad, cap, rfl⟩ := hs.slice
 have h88 : ∀ w1, Calls Tryd.prog 77 #[S p] w1 fun e w' => e = .returned (.tuple #[S (42 :: wc), I (i : Int), .bool true]) ∧ HF w1 (fun _ => False) [] w' := by
  intro w1
  have := f88_any w1 p h92 (fun wc2 i2 h => by rw [hf] at h; cases h; exact hwc) hpl
  rw [hf] at this; exact this
 have hwl := List.length_pos_iff.2 hwn
 have hcl : (42 :: wc).length = wc.length + 1 := rfl
 refine GC.block ?_
 refine GC.seq ?_
 refine GC.reg ?_
 refine G.m1 ?_
 refine G.callP Tryd.call77 rfl rfl (fun w1 hw1 => h88 w1) ?_
 refine G.m1 ?_
 refine G.v (V.ex rfl rfl) rfl ?_
 refine G.v (V.ex rfl rfl) rfl ?_
 refine G.v (V.ex rfl rfl) rfl ?_
 refine G.m2 ?_
 refine G.m2 ?_
 refine G.m2 ?_
 refine G.nil ?_
 refine GC.seq ?_
 refine GC.seq ?_
 refine GC.reg ?_
 refine G.m1 ?_
 refine G.v (V.lt rfl rfl) rfl ?_
 refine G.nil ?_
 refine GC.condD rfl (fun h22 => absurd h22 (by omega)) (fun h22 => ?_)
 refine GC.skip ?_
 refine GC.seq ?_
 refine GC.seq ?_
 refine GC.reg ?_
 refine G.m1 ?_
 refine G.v (V.not rfl) rfl ?_
 refine G.nil ?_
 refine GC.cond rfl (fun h24 => absurd h24 (by decide)) (fun h24 => ?_)
 refine GC.skip ?_
 refine GC.seq ?_
 refine GC.seq ?_
 refine GC.reg ?_
 refine G.m1 ?_
 refine G.v (V.lenS Tryd.underlying9 rfl) rfl ?_
 refine G.v (V.lt rfl rfl) rfl ?_
 refine G.nil ?_
 refine GC.condD rfl (fun h34 => absurd h34 (by rw [hcl]; omega)) (fun h34 => ?_)
 refine GC.skip ?_
 refine GC.seq ?_
 refine GC.seq ?_
 refine GC.reg ?_
 refine G.m1 ?_
 refine G.v (V.idx (i := 0) (b := 42) Tryd.underlying9 rfl rfl rfl) rfl ?_
 refine G.v (V.eqI rfl rfl) rfl ?_
 refine G.nil ?_
 refine GC.condD rfl (fun h41 => absurd h41 (by decide)) (fun h41 => ?_)
 refine GC.skip ?_
 refine GC.seq ?_
 refine GC.seq ?_
 refine GC.reg ?_
 refine G.m1 ?_
 refine G.m1 ?_
 refine G.v (V.lenS Tryd.underlying9 rfl) rfl ?_
 refine G.v (V.addI (r := ((i + (wc.length + 1) : Nat) : Int)) rfl rfl (by rw [hcl]; omega) (by omega) (by omega)) rfl ?_
 refine G.m1 ?_
 refine G.v (V.lenS Tryd.underlying9 rfl) rfl ?_
 refine G.v (V.neI rfl rfl) rfl ?_
 refine G.nil ?_
 refine GC.cond rfl (fun h97 => absurd h97 (by rw [hend]; simp)) (fun h97 => ?_)
 refine GC.skip ?_
 refine GC.seq ?_
 refine GC.seq ?_
 refine GC.join (fun fr' H' => ∃ t : Bool, (t = true ↔ tp.getLast? = some 47) ∧ Sub [(0, Pt nb 0), (1, S p), (2, S full), (3, .slice (some ⟨hb, 0, none⟩) 1 1), (8, S (42 :: wc)), (9, I (i : Int)), (121, .bool t)] fr' ∧ H' = ⟨nb, true, .row (nodeR tp idx wl nt pr (.slice ad kids.length cap) hv f0) 94 (0, 0)⟩ :: (Hs ++ X)) (fun J23 => ?_) ?_
 ·refine GC.regQ mixed (by kernel_rfl) ?_
  refine GQ.v (V.mv rfl) rfl ?_
  refine GQ.v (V.nc rfl) rfl ?_
  refine GQ.v (V.fa F94_0 rfl) rfl ?_
  refine GQ.v (V.ld (b := nb) (off := 0 + 0) (wf := true) (l := nodeR tp idx wl nt pr (.slice ad kids.length cap) hv f0) (T := 94) (fz := (0, 0)) (v := S tp) Tryd.isAgg9 rfl (.head _) rfl) rfl ?_
  refine GQ.v (V.lenS Tryd.underlying9 rfl) rfl ?_
  refine GQ.v (V.gt rfl rfl) rfl ?_
  refine GQ.v (V.mv rfl) rfl ?_
  refine GQ.bc 108 rfl (fun h108 => ?_) (fun h108 => ?_)
  ·have htp : tp ≠ [] := fun e => by rw [e] at h108; simp at h108
   have htl := List.length_pos_iff.2 htp
   obtain ⟨y, hy⟩ : ∃ y, tp[tp.length - 1]? = some y := ⟨_, List.getElem?_eq_getElem (by omega)⟩
   refine GQ.vg rfl rfl (V.mv rfl) rfl ?_
   refine GQ.vg rfl rfl (V.nc rfl) rfl ?_
   refine GQ.vg rfl rfl (V.fa F94_0 rfl) rfl ?_
   refine GQ.vg rfl rfl (V.ld (b := nb) (off := 0 + 0) (wf := true) (l := nodeR tp idx wl nt pr (.slice ad kids.length cap) hv f0) (T := 94) (fz := (0, 0)) (v := S tp) Tryd.isAgg9 rfl (.head _) rfl) rfl ?_
   refine GQ.vg rfl rfl (V.mv rfl) rfl ?_
   refine GQ.vg rfl rfl (V.nc rfl) rfl ?_
   refine GQ.vg rfl rfl (V.fa F94_0 rfl) rfl ?_
   refine GQ.vg rfl rfl (V.ld (b := nb) (off := 0 + 0) (wf := true) (l := nodeR tp idx wl nt pr (.slice ad kids.length cap) hv f0) (T := 94) (fz := (0, 0)) (v := S tp) Tryd.isAgg9 rfl (.head _) rfl) rfl ?_
   refine GQ.vg rfl rfl (V.lenS Tryd.underlying9 rfl) rfl ?_
   refine GQ.vg rfl rfl (V.subI (r := ((tp.length - 1 : Nat) : Int)) rfl rfl (by omega) (by omega) (by omega)) rfl ?_
   refine GQ.vg rfl rfl (V.idx (i := tp.length - 1) (b := y) Tryd.underlying9 rfl rfl hy) rfl ?_
   refine GQ.vg rfl rfl (V.eqI rfl rfl) rfl ?_
   refine GQ.v (V.pickT rfl rfl) rfl ?_
   refine GQ.nil ?_
   refine J23 _ _ ⟨_, ?_, .of rfl, rfl⟩
   rw [decide_eq_true_eq, List.getLast?_eq_getElem?, hy]
   exact ⟨fun e => by rw [u47 e], fun e => by rw [Option.some.inj e]; rfl⟩
  ·refine GQ.sg rfl rfl rfl rfl rfl rfl ?_
   refine GQ.sg rfl rfl rfl rfl rfl rfl ?_
   refine GQ.sg rfl rfl rfl rfl rfl rfl ?_
   refine GQ.sg rfl rfl rfl rfl rfl rfl ?_
   refine GQ.sg rfl rfl rfl rfl rfl rfl ?_
   refine GQ.sg rfl rfl rfl rfl rfl rfl ?_
   refine GQ.sg rfl rfl rfl rfl rfl rfl ?_
   refine GQ.sg rfl rfl rfl rfl rfl rfl ?_
   refine GQ.sg rfl rfl rfl rfl rfl rfl ?_
   refine GQ.sg rfl rfl rfl rfl rfl rfl ?_
   refine GQ.sg rfl rfl rfl rfl rfl rfl ?_
   refine GQ.sg rfl rfl rfl rfl rfl rfl ?_
   refine GQ.v (V.pickF rfl rfl) rfl ?_
   refine GQ.nil ?_
   refine J23 _ _ ⟨false, ⟨fun h => (by cases h), fun h => ?_⟩, .of rfl, rfl⟩
   have htp : tp = [] := List.length_eq_zero_iff.1 (by have := of_decide_eq_false h108; omega)
   rw [htp] at h; cases h
 rintro fr' H' ⟨t, ht, hs23, rfl⟩
 refine GC.weak hs23 ?_
 clear hs23
 refine GC.cond rfl (fun h121 => ?_) (fun h121 => ?_)
 ·refine GC.seq ?_
  refine GC.reg ?_
  refine G.m2 ?_
  refine G.nil ?_
  refine GC.seq ?_
  refine GC.seq ?_
  refine GC.reg ?_
  refine G.m1 ?_
  refine G.v (V.nc rfl) rfl ?_
  refine G.v (V.fa F94_5 rfl) rfl ?_
  refine G.v (V.ld (b := nb) (off := 0 + 5) (wf := true) (l := nodeR tp idx wl nt pr (.slice ad kids.length cap) hv f0) (T := 94) (fz := (0, 0)) (v := (.slice ad kids.length cap)) Tryd.isAgg90 rfl (.head _) rfl) rfl ?_
  refine G.v (V.lenL Tryd.underlying90 rfl) rfl ?_
  refine G.v (V.neI rfl rfl) rfl ?_
  refine G.nil ?_
  refine GC.join (fun fr' H' => ∃ sg : List UInt8, sg.length ≤ 100000 ∧ Sub [(0, Pt nb 0), (1, S p), (2, S full), (13, S sg)] fr' ∧ H' = ⟨nb, true, .row (nodeR tp idx wl nt pr (.slice ad kids.length cap) hv f0) 94 (0, 0)⟩ :: (Hs ++ X)) (fun J127 => ?_) ?_
  ·refine GC.cond rfl (fun h127 => ?_) (fun h127 => ?_)
   ·have hk0 : 0 < kids.length := by
     rcases Nat.eq_zero_or_pos kids.length with e | e
     ·rw [e] at h127; simp at h127
     ·exact e
    obtain ⟨rb, cap2, spare, e1, rfl⟩ := hs.at hk0
    cases e1
    obtain ⟨k0, hk00⟩ : ∃ k0, kids[0]? = some k0 := ⟨_, List.getElem?_eq_getElem hk0⟩
    obtain ⟨b0, kv0, hv0, hb0, hm0⟩ := hk.mem hk00
    have hkp0 := hkp k0 (List.mem_of_getElem? hk00)
    refine GC.reg ?_
    refine G.m1 ?_
    refine G.v (V.nc rfl) rfl ?_
    refine G.v (V.fa F94_5 rfl) rfl ?_
    refine G.v (V.ld (b := nb) (off := 0 + 5) (wf := true) (l := nodeR tp idx wl nt pr (.slice (some ⟨rb, 0, none⟩) kids.length cap) hv f0) (T := 94) (fz := (0, 0)) (v := .slice (some ⟨rb, 0, none⟩) kids.length cap) Tryd.isAgg90 rfl (.head _) rfl) rfl ?_
    refine G.v (V.ia (i := 0) Tryd.underlying90 Tryd.sizeOf83 rfl rfl hk0) rfl ?_
    refine G.v (V.ld (b := rb) (off := 0 + 0 * 1) (wf := true) (l := bs.map (Pt · 0) ++ spare) (T := 83) (fz := (0, 0)) (v := Pt b0 0) Tryd.isAgg83 rfl (.tail _ (.head _)) (by rw [nth_eq, List.getElem?_append_left (by rw [List.length_map, hkl2]; exact hk0), List.getElem?_map, hb0]; rfl)) rfl ?_
    refine G.v (V.nc rfl) rfl ?_
    refine G.v (V.fa F94_0 rfl) rfl ?_
    refine G.v (V.ld (b := b0) (off := 0 + 0) (wf := true) (l := nodeR k0.path k0.idx k0.wild k0.nt k0.pr kv0 hv0 k0.full) (T := 94) (fz := (0, 0)) (v := S k0.path) Tryd.isAgg9 rfl (.tail _ (List.mem_append_right _ (by rw [hX]; exact List.mem_append_left _ (List.mem_append_right _ hm0)))) rfl) rfl ?_
    refine G.callW (fun v H2 => ∃ a b t, a <+: k0.path ∧ v = .tuple #[S a, S b, .bool t] ∧ H2 = ⟨nb, true, .row (nodeR tp idx wl nt pr (.slice (some ⟨rb, 0, none⟩) kids.length cap) hv f0) 94 (0, 0)⟩ :: ([⟨rb, true, .row (bs.map (Pt · 0) ++ spare) 83 (0, 0)⟩] ++ X)) Tryd.call66 rfl rfl (fun w1 hw1 => (f83_any w1 k0.path [47] (by omega) (by simp)).mono fun e w' ⟨a, b, t, h1, h2, h3⟩ => ⟨_, _, h2, hw1.after0 h3 (fun e he => by cases he), a, b, t, h1, rfl, rfl⟩) ?_
    rintro v H2 ⟨a, b, t2, hpre, rfl, rfl⟩
    refine G.m1 ?_
    refine G.v (V.ex rfl rfl) rfl ?_
    refine G.v (V.ex rfl rfl) rfl ?_
    refine G.v (V.ex rfl rfl) rfl ?_
    refine G.m2 ?_
    refine G.nil ?_
    exact J127 _ _ ⟨a, Nat.le_trans hpre.length_le hkp0, .of rfl, rfl⟩
   refine GC.skip ?_
   exact J127 _ _ ⟨[], by simp, .of rfl, rfl⟩
  rintro fr' H' ⟨sg, hsg, hs127, rfl⟩
  refine GC.weak hs127 ?_
  clear hs127
  refine GC.reg ?_
  refine G.m1 ?_
  refine G.v (V.cat rfl rfl (by simp; omega)) rfl ?_
  refine G.v (V.cat rfl rfl (by simp; omega)) rfl ?_
  refine G.m1 ?_
  refine G.v (V.cat rfl rfl (by simp; omega)) rfl ?_
  refine G.v (V.cat rfl rfl (by simp; omega)) rfl ?_
  refine G.m1 ?_
  refine G.v (V.cat rfl rfl (by simp; omega)) rfl ?_
  refine G.v (V.cat rfl rfl (by simp; omega)) rfl ?_
  refine G.m1 ?_
  refine G.v (V.nc rfl) rfl ?_
  refine G.v (V.fa F94_0 rfl) rfl ?_
  refine G.v (V.ld (b := nb) (off := 0 + 0) (wf := true) (l := nodeR tp idx wl nt pr (.slice ad kids.length cap) hv f0) (T := 94) (fz := (0, 0)) (v := S tp) Tryd.isAgg9 rfl (.head _) rfl) rfl ?_
  refine G.v (V.cat rfl rfl (by simp; omega)) rfl ?_
  refine G.m1 ?_
  refine G.v (V.cat rfl rfl (by simp; omega)) rfl ?_
  refine G.v (V.cat rfl rfl (by simp; omega)) rfl ?_
  refine G.v (V.miS Tryd.underlying9 rfl) rfl ?_
  refine G.panic rfl fun w' hw' => pan _ _ ⟨_, _, rfl⟩ (hw'.sub (List.nil_sublist _))
 refine GC.skip ?_
 refine GC.seq ?_
 have hi0 : i = 0 := by
  rcases hx with h | h
  ·exact absurd (ht.2 h) (by simp [h121])
  ·exact h
 refine GC.reg ?_
 refine G.m1 ?_
 refine G.v (V.subI (r := ((i : Int) - 1)) rfl rfl rfl (by omega) (by omega)) rfl ?_
 refine G.m2 ?_
 refine G.nil ?_
 refine GC.seq ?_
 refine GC.seq ?_
 refine GC.join (fun fr' H' => Sub [(2, S full), (169, .bool true)] fr' ∧ H' = ⟨nb, true, .row (nodeR tp idx wl nt pr (.slice ad kids.length cap) hv f0) 94 (0, 0)⟩ :: (Hs ++ X)) (fun J29 => ?_) ?_
 ·refine GC.reg ?_
  refine G.m1 ?_
  refine G.v (V.lt rfl rfl) rfl ?_
  refine G.m1 ?_
  refine G.bc 164 rfl (fun h164 => ?_) (fun h164 => ?_)
  ·refine G.s1 ?_
   refine G.s1 ?_
   refine G.s1 ?_
   refine G.s1 ?_
   refine G.m3 ?_
   refine G.nil ?_
   exact J29 _ _ ⟨.of rfl, rfl⟩
  ·exact absurd (of_decide_eq_false h164) (by omega)
 rintro fr' H' ⟨hs29, rfl⟩
 refine GC.weak hs29 ?_
 clear hs29
 refine GC.condT rfl ?_
 refine GC.reg ?_
 refine G.m1 ?_
 refine G.v (V.cat rfl rfl (by simp; omega)) rfl ?_
 refine G.v (V.cat rfl rfl (by simp; omega)) rfl ?_
 refine G.v (V.miS Tryd.underlying9 rfl) rfl ?_
 refine G.panic rfl fun w' hw' => pan _ _ ⟨_, _, rfl⟩ (hw'.sub (List.nil_sublist _))
end Go.Proofs

/- insertChild does what insT says. -/
set_option maxRecDepth 20000
namespace Go.Proofs
open Go Bw Gt
theorem f79_loop {R : Ending → World → Prop} {w : World} {D : Nat → Prop} {hb num : Nat} {full : List UInt8} (hfl : full.length ≤ 100000) : ∀ (g : Nat) (sl : Bool) (s : List Tok) (t : T0) (nb : Nat) (Hn Hr : SH) (fr : SF) (res : Option T0), Ok sl s → (∀ c ∈ txt s, c ≠ 92) → (txt s).length ≤ 100000 →
  t.kids.length ≤ 90000 → t.path.length ≤ 100000 → (∀ k ∈ t.kids, k.path.length ≤ 100000) → HT t nb Hn → insT g t (txt s) full num = some res → Sub [(0, Pt nb 0), (1, S (txt s)), (2, S full), (3, .slice (some ⟨hb, 0, none⟩) 1 1)] fr →
  (∀ t', res = some t' → ∀ Hn' w', HT t' nb Hn' → HF w D (Hn' ++ Hr) w' → R (.returned (.tuple #[])) w') → (res = none → ∀ e w', onePanic e → HF w D [] w' → R e w') →
  GC Tryd.prog ⟨62, Tryd.f62, R, w, D⟩ 221 K79 fr (Hn ++ (⟨hb, true, .row [I (num : Int)] 3 (0, 0)⟩ :: Hr))
 | 0, sl, s, t, nb, Hn, Hr, fr, res, _, _, _, _, _, _, _, h, _, _, _ => by unfold insT at h; cases h
 | g + 1, sl, s, t, nb, Hn, Hr, fr, res, hok, h92, hpl, hkl, htl, hkp, ht, h, hsub, fin, pan => by
  cases ht with
  | @mk tp idx wl nt pr h0 f0 kids _ bs kv hv Hs Hh Hk hs hh hk =>
  obtain ⟨pre, r, rfl, hp, hr, hcase⟩ := tok_split sl s hok
  simp only [Tr.kids, Tr.path] at hkl htl hkp
  rw [txt_app, txt_bs] at h92 hpl h hsub
  rcases hcase with rfl | ⟨n, q, rfl⟩ | ⟨n, rfl⟩
  ·have hf := fw_plain pre 0 hp
   simp only [txt, List.append_nil] at h92 hpl h hsub
   unfold insT at h
   simp only [hf] at h
   cases h
   exact f79_none hs hh hk h92 hpl hkl hsub hf (fin _ rfl)
  ·obtain ⟨h1, hn, hq, hq2⟩ := hr
   have hn0 : 0 < n.length := List.length_pos_iff.2 hn.1
   have hf := fw_P (t := txt q) hp hn (txt_hd47 hq)
   have hwc : ∀ c ∈ n, c ≠ 58 ∧ c ≠ 42 := fun c hc => (hn.2 c hc).2
   simp only [txt] at h92 hpl h hsub
   have hpl2 : (pre ++ 58 :: (n ++ txt q)).length = pre.length + (n.length + 1) + (txt q).length := by simp; omega
   unfold insT at h
   have hl : ¬ (58 :: n).length < 2 := by simp; omega
   have hd : (58 :: (n ++ txt q)).drop (58 :: n).length = txt q := by simp
   simp only [hf, hl, if_false, List.head?_cons, if_true, List.drop_left, hd] at h
   have hcut : (if 0 < pre.length then (pre ++ 58 :: (n ++ txt q)).take pre.length else tp) = cutP tp (pre ++ 58 :: (n ++ txt q)) pre.length := rfl
   rw [hcut] at h
   rcases hq with rfl | ⟨q', rfl⟩
   ·have h2 : ¬ (58 :: n).length < (58 :: (n ++ txt [])).length := by simp [txt]
    rw [if_neg h2] at h
    cases h
    exact f79_pend hs hh hk h92 hpl hkl hsub n pre.length hf hwc hn.1 (by simp) (by simp [txt]) (fin _ rfl)
   ·have h2 : (58 :: n).length < (58 :: (n ++ txt (.b 47 :: q'))).length := by simp [txt]
    rw [if_pos h2] at h
    obtain ⟨r2, hr2, hres⟩ := Option.map_eq_some_iff.1 h
    refine f79_pmore hs hh hk h92 hpl hkl hsub n pre.length hf hwc hn.1 (by simp) (by simp [txt]) fun pb cb kv2 kv3 Hs2 Hs3 fr' hs2 hs3 hsub' => ?_
    have e1 : (pre ++ 58 :: (n ++ txt (.b 47 :: q'))).drop (pre.length + (58 :: n).length) = txt (.b 47 :: q') := by
     rw [← List.drop_drop, List.drop_left]; simp
    rw [e1] at hsub'
    have hkl2 := hk.len
    refine f79_loop hfl g false (.b 47 :: q') (.node () [] [] false 0 1 none full []) cb [_] _ fr' r2 hq2 (fun c hc => h92 c (by simp [hc])) (by rw [hpl2] at hpl; omega) (by simp [Tr.kids]) (by simp [Tr.path]) (by simp [Tr.kids]) (HT.mk Own.nil HV.nil HTs.nil) hr2 hsub' ?_ ?_
    ·intro c2 hc2 Hn2 w' hc hw'
     subst hc2
     obtain ⟨Hk2, hk2, hp2⟩ := hk.add (wild := wl) (HT.mk (path := 58 :: n) (idx := []) (wild := false) (nt := 2) (pr := 1) (h := none) (full := full) (nb := pb) (kids := [c2]) (bs := [cb]) hs3 HV.nil (HTs.one hc))
     rw [hkl2] at hs2
     rw [← addKid_len wl kids (.node () (58 :: n) [] false 2 1 none full [c2])] at hs2
     refine fin _ hres.symm _ w' (HT.mk hs2 hh hk2) (hw'.perm ?_)
     generalize (⟨nb, true, .row (nodeR (cutP tp (pre ++ 58 :: (n ++ txt (.b 47 :: q'))) pre.length) idx true nt pr kv2 hv f0) 94 (0, 0)⟩ : Ent) = EC at *
     generalize (⟨pb, true, .row (nodeR (58 :: n) [] false 2 1 kv3 (.slice none 0 0) full) 94 (0, 0)⟩ : Ent) = PE at *
     have e2 : Hk2.Perm (PE :: (Hs3 ++ Hn2) ++ Hk) := by simpa using hp2
     have p1 := perm_idx [Hn2, [EC], Hs2, Hh, Hk, [PE], Hs3, Hr] [0, 1, 2, 3, 4, 5, 6, 7] [1, 2, 3, 5, 6, 0, 4, 7] (by decide)
     refine List.Perm.trans (l₂ := EC :: (Hs2 ++ (Hh ++ ((PE :: (Hs3 ++ Hn2) ++ Hk) ++ Hr)))) (by simpa using p1) ?_
     have p2 := (((e2.symm.append_right Hr).append_left Hh).append_left Hs2).cons EC
     simpa using p2
    ·intro hr0
     subst hr0
     exact pan hres.symm
  ·obtain ⟨h1, hn, _⟩ := hr
   have hn0 : 0 < n.length := List.length_pos_iff.2 hn.1
   have hwc : ∀ c ∈ n, c ≠ 58 ∧ c ≠ 42 := fun c hc => (hn.2 c hc).2
   have e1 : txt [.A n] = 42 :: n := by simp [txt]
   rw [e1] at h92 hpl h hsub
   have hf := fw_A hp hn
   have h47 : 0 < pre.length → (pre ++ 42 :: n)[pre.length - 1]? = some 47 := by
    intro h0
    have hne : pre ≠ [] := List.length_pos_iff.1 h0
    rw [if_neg hne] at h1
    rw [List.getElem?_append_left (by omega), ← List.getLast?_eq_getElem?]
    simpa using h1
   have hlen : (pre ++ 42 :: n).length = pre.length + (n.length + 1) := by simp
   unfold insT at h
   have hl : ¬ (42 :: n).length < 2 := by simp; omega
   have hh2 : ¬ ((some 42 : Option UInt8) = some 58) := by decide
   have hl2 : ¬ (pre.length + (42 :: n).length ≠ (pre ++ 42 :: n).length) := by simp
   simp only [hf, hl, if_false, List.head?_cons, hh2, hl2] at h
   by_cases htp : tp.getLast? = some 47
   ·rw [if_pos htp] at h
    cases h
    exact f79_catx hs hh hk h92 hpl hkl hsub n pre.length hf hwc hn.1 hlen h47 htl (.inl htp) hfl hkp (pan rfl)
   rw [if_neg htp] at h
   by_cases h0 : pre.length = 0
   ·rw [if_pos (.inl h0)] at h
    cases h
    exact f79_catx hs hh hk h92 hpl hkl hsub n pre.length hf hwc hn.1 hlen h47 htl (.inr h0) hfl hkp (pan rfl)
   ·have h3 := h47 (by omega)
    rw [if_neg (by rintro (e | e); exact h0 e; exact e h3)] at h
    cases h
    exact f79_cat hs hh hk h92 hpl hkl hsub n pre.length hf hwc hn.1 hlen h47 htl htp (by omega) (fin _ rfl)
/-- insertChild -/
theorem f79_any (w : World) (D : Nat → Prop) {hb num : Nat} {full : List UInt8} (hfl : full.length ≤ 100000) (g : Nat) (sl : Bool) (s : List Tok) (t : T0) (nb : Nat) (Hn Hr : SH) (res : Option T0) (hok : Ok sl s) (h92 : ∀ c ∈ txt s, c ≠ 92) (hpl : (txt s).length ≤ 100000)
  (hkl : t.kids.length ≤ 90000) (htl : t.path.length ≤ 100000) (hkp : ∀ k ∈ t.kids, k.path.length ≤ 100000) (ht : HT t nb Hn) (hres : insT g t (txt s) full num = some res) (hH : HF w D (Hn ++ (⟨hb, true, .row [I (num : Int)] 3 (0, 0)⟩ :: Hr)) w) :
  Calls Tryd.prog 62 #[Pt nb 0, S (txt s), S full, .slice (some ⟨hb, 0, none⟩) 1 1] w fun e w' => (∃ t' Hn', res = some t' ∧ e = .returned (.tuple #[]) ∧ HT t' nb Hn' ∧ HF w D (Hn' ++ Hr) w') ∨ (res = none ∧ onePanic e ∧ HF w D [] w') := by
 refine enter D (Hn ++ (⟨hb, true, .row [I (num : Int)] 3 (0, 0)⟩ :: Hr)) Tryd.func62 rfl Tryd.ntmps62 rfl rfl hH fun c hc => ?_
 subst hc
 refine GC.seq ?_
 refine GC.block ?_
 refine GC.loop ?_
 exact f79_loop hfl g sl s t nb Hn Hr _ res hok h92 hpl hkl htl hkp ht hres (.of rfl) (fun t' h1 Hn' w' h2 h3 => .inl ⟨t', Hn', h1, rfl, h2, h3⟩) (fun h1 e w' h2 h3 => .inr ⟨h1, h2, h3⟩)
end Go.Proofs

/- addRoute: the head of its loop: an edge is split. Printed by wip/mk_gu9.py. -/
set_option maxRecDepth 20000
namespace Go.Proofs
open Go Bw
open Gt
theorem _root_.Bw.V.sub32 {P : Program} {c : Cx} {n : Nat} {fr : SF} {H : SH} {ty t u : TypeId} {x y : Operand} {p q : Nat} (hq : q = p + 4294967295) (hx : ev fr x = some (.int .u32 ((p % 4294967296 : Nat) : Int))) (hy : ev fr y = some (.int .u32 1)) : Val P c n (.binOp .sub t x y u) ty fr H (.int .u32 ((q % 4294967296 : Nat) : Int)) := by
 subst hq
 have := V.sub (P := P) (c := c) (n := n) (H := H) (ty := ty) (t := t) (u := u) hx hy
 rw [wrapU32m] at this; exact this
theorem bd_all (a b f : List UInt8) (wl : Bool) (k1 k2 : Option Addr) (n1 c1 n2 c2 p : Nat) (w : World) : (Instr.build 94 #[(0, S a), (2, .bool wl), (3, .int .u8 0), (1, S b), (5, .slice k1 n1 c1), (6, .slice k2 n2 c2), (4, .int .u32 ((p % 4294967296 : Nat) : Int)), (7, S f)]).run Tryd.prog w = .ok (.agg (nodeR a b wl 0 p (.slice k1 n1 c1) (.slice k2 n2 c2) f).toArray) w := by
 simp [Instr.build, Tryd.zeroValue94, Tryd.runUnderlying94, Tryd.sizeOf9, Tryd.sizeOf4, Tryd.sizeOf88, Tryd.sizeOf89, Tryd.sizeOf90, Tryd.sizeOf92, cells_agg, Instr.fill, cells_str, cells_bool, cells_int, cells_sl, nodeR]
def sR : Code → Code
 | .seq _ b => b
 | c => c
def mid3 : List Item → List Item
 | .code (.block id y) :: k => .code (sR (sR y)) :: .inBlock id :: k
 | k => k
/-- addRoute's loop; .. behind the split -/
noncomputable def K72 : List Item := (splitLoop ((Tryd.f56.body).getD .skip) []).getD []
noncomputable def K72m : List Item := mid3 K72
theorem f72_split {R : Ending → World → Prop} {w : World} {D : Nat → Prop} {nb hb num pfi : Nat} {p full tp idx : List UInt8} {wl : Bool} {nt pr : Nat} {h0 : Option Nat} {f0 : List UInt8} {kids : List T0} {bs : List Nat} {kv hv : Value} {Hs Hh Hk Hr : SH} {fr : SF}
  (hs : Own 83 1 kv kids.length (bs.map (Pt · 0)) Hs) (hh : HV h0 hv Hh) (hk : HTs kids bs Hk) (hpl : p.length ≤ 100000) (hfl : full.length ≤ 100000) (hpf : pfi + p.length ≤ full.length) (hsub : Sub [(0, Pt nb 0), (1, S p), (2, .slice (some ⟨hb, 0, none⟩) 1 1), (6, S full), (7, I (pfi : Int))] fr)
  (go : ∀ Hn1 fr', HT (if Gs.lcp p tp < tp.length then split (.node () tp idx wl nt pr h0 f0 kids) () (Gs.lcp p tp) (full.take (pfi + Gs.lcp p tp)) else .node () tp idx wl nt pr h0 f0 kids) nb Hn1 → Sub [(0, Pt nb 0), (1, S p), (2, .slice (some ⟨hb, 0, none⟩) 1 1), (6, S full), (7, I (pfi : Int)), (8, I (Gs.lcp p tp : Nat))] fr' → GC Tryd.prog ⟨56, Tryd.f56, R, w, D⟩ 377 K72m fr' (Hn1 ++ (⟨hb, true, .row [I (num : Int)] 3 (0, 0)⟩ :: Hr))) :
  GC Tryd.prog ⟨56, Tryd.f56, R, w, D⟩ 377 K72 fr (⟨nb, true, .row (nodeR tp idx wl nt pr kv hv f0) 94 (0, 0)⟩ :: ((Hs ++ (Hh ++ Hk)) ++ (⟨hb, true, .row [I (num : Int)] 3 (0, 0)⟩ :: Hr))) := by
 refine GC.weak hsub ?_
 clear hsub
 obtain ⟨X, hX⟩ : ∃ X, X = (Hh ++ Hk) ++ (⟨hb, true, .row [I (num : Int)] 3 (0, 0)⟩ :: Hr) := ⟨_, rfl⟩
 refine GC.turn (H' := ⟨nb, true, .row (nodeR tp idx wl nt pr kv hv f0) 94 (0, 0)⟩ :: (Hs ++ X)) (fun w1 h1 => by rw [hX, ← List.append_assoc]; exact h1) ?_
 have hkl2 := hk.len
 obtain ⟨pr2, hpr2⟩ : ∃ q, q = pr + 4294967295 := ⟨_, rfl⟩
 have hle := Gs.lcp_le p tp
 obtain ⟨ad, cap, rfl⟩ := hs.slice
 obtain ⟨ad2, l2, c2, rfl, hnn⟩ := hh.slice
 generalize hi : Gs.lcp p tp = i at *
 have htk : p.take i = tp.take i := by rw [← hi]; exact (Gs.lcp_take p tp)
 refine GC.block ?_
 refine GC.seq ?_
 refine GC.reg ?_
 refine G.m1 ?_
 refine G.m1 ?_
 refine G.v (V.nc rfl) rfl ?_
 refine G.v (V.fa F94_0 rfl) rfl ?_
 refine G.v (V.ld (b := nb) (off := 0 + 0) (wf := true) (l := nodeR tp idx wl nt pr (.slice ad kids.length cap) (.slice ad2 l2 c2) f0) (T := 94) (fz := (0, 0)) (v := S tp) Tryd.isAgg9 rfl (.head _) rfl) rfl ?_
 refine G.callP Tryd.call63 rfl rfl (fun w1 hw1 => by have := f80_any w1 p tp (by omega); rw [hi] at this; exact this) ?_
 refine G.m2 ?_
 refine G.nil ?_
 refine GC.seq ?_
 refine GC.seq ?_
 refine GC.reg ?_
 refine G.m1 ?_
 refine G.m1 ?_
 refine G.v (V.nc rfl) rfl ?_
 refine G.v (V.fa F94_0 rfl) rfl ?_
 refine G.v (V.ld (b := nb) (off := 0 + 0) (wf := true) (l := nodeR tp idx wl nt pr (.slice ad kids.length cap) (.slice ad2 l2 c2) f0) (T := 94) (fz := (0, 0)) (v := S tp) Tryd.isAgg9 rfl (.head _) rfl) rfl ?_
 refine G.v (V.lenS Tryd.underlying9 rfl) rfl ?_
 refine G.v (V.lt rfl rfl) rfl ?_
 refine G.nil ?_
 refine GC.join (fun fr' H' => ∃ Hn1, HT (if i < tp.length then split (.node () tp idx wl nt pr h0 f0 kids) () i (full.take (pfi + i)) else .node () tp idx wl nt pr h0 f0 kids) nb Hn1 ∧ Sub [(0, Pt nb 0), (1, S p), (2, .slice (some ⟨hb, 0, none⟩) 1 1), (6, S full), (7, I (pfi : Int)), (8, I (i : Nat))] fr' ∧ (∀ w1, HF w D H' w1 → HF w D (Hn1 ++ (⟨hb, true, .row [I (num : Int)] 3 (0, 0)⟩ :: Hr)) w1)) (fun J58 => ?_) ?_
 ·refine GC.condD rfl (fun h58 => ?_) (fun h58 => ?_)
  ·refine GC.seq ?_
   refine GC.regM 33 (fun w1 => w1.heap[nb]? = some (Blk.den (.row (nodeR tp idx wl nt pr (.slice ad kids.length cap) (.slice ad2 l2 c2) f0) 94 (0, 0)))) mixed (by kernel_rfl) ?_
   refine GM.p 0 rfl (by kernel_rfl) (by kernel_rfl) (fun w1 h1 => h1.has ⟨nb, true, .row (nodeR tp idx wl nt pr (.slice ad kids.length cap) (.slice ad2 l2 c2) f0) 94 (0, 0)⟩ (by first | exact .head _ | exact .tail _ (.head _))) (fun _ => V.mv rfl) rfl ?_
   refine GM.p 1 rfl (by kernel_rfl) (by kernel_rfl) (fun w1 h1 => h1.has ⟨nb, true, .row (nodeR tp idx wl nt pr (.slice ad kids.length cap) (.slice ad2 l2 c2) f0) 94 (0, 0)⟩ (by first | exact .head _ | exact .tail _ (.head _))) (fun _ => V.nc rfl) rfl ?_
   refine GM.p 2 rfl (by kernel_rfl) (by kernel_rfl) (fun w1 h1 => h1.has ⟨nb, true, .row (nodeR tp idx wl nt pr (.slice ad kids.length cap) (.slice ad2 l2 c2) f0) 94 (0, 0)⟩ (by first | exact .head _ | exact .tail _ (.head _))) (fun _ => V.fa F94_0 rfl) rfl ?_
   refine GM.ld 3 rfl (by kernel_rfl) (by kernel_rfl) (fun w1 h1 => h1.has ⟨nb, true, .row (nodeR tp idx wl nt pr (.slice ad kids.length cap) (.slice ad2 l2 c2) f0) 94 (0, 0)⟩ (by first | exact .head _ | exact .tail _ (.head _))) Tryd.isAgg9 rfl (fun w1 h1 => cellB h1 rfl) rfl ?_
   refine GM.p 4 rfl (by kernel_rfl) (by kernel_rfl) (fun w1 h1 => h1.has ⟨nb, true, .row (nodeR tp idx wl nt pr (.slice ad kids.length cap) (.slice ad2 l2 c2) f0) 94 (0, 0)⟩ (by first | exact .head _ | exact .tail _ (.head _))) (fun _ => V.mv rfl) rfl ?_
   refine GM.p 5 rfl (by kernel_rfl) (by kernel_rfl) (fun w1 h1 => h1.has ⟨nb, true, .row (nodeR tp idx wl nt pr (.slice ad kids.length cap) (.slice ad2 l2 c2) f0) 94 (0, 0)⟩ (by first | exact .head _ | exact .tail _ (.head _))) (fun _ => V.slL (i := i) Tryd.underlying9 rfl rfl (by omega)) rfl ?_
   refine GM.p 6 rfl (by kernel_rfl) (by kernel_rfl) (fun w1 h1 => h1.has ⟨nb, true, .row (nodeR tp idx wl nt pr (.slice ad kids.length cap) (.slice ad2 l2 c2) f0) 94 (0, 0)⟩ (by first | exact .head _ | exact .tail _ (.head _))) (fun _ => V.mv rfl) rfl ?_
   refine GM.p 7 rfl (by kernel_rfl) (by kernel_rfl) (fun w1 h1 => h1.has ⟨nb, true, .row (nodeR tp idx wl nt pr (.slice ad kids.length cap) (.slice ad2 l2 c2) f0) 94 (0, 0)⟩ (by first | exact .head _ | exact .tail _ (.head _))) (fun _ => V.nc rfl) rfl ?_
   refine GM.p 8 rfl (by kernel_rfl) (by kernel_rfl) (fun w1 h1 => h1.has ⟨nb, true, .row (nodeR tp idx wl nt pr (.slice ad kids.length cap) (.slice ad2 l2 c2) f0) 94 (0, 0)⟩ (by first | exact .head _ | exact .tail _ (.head _))) (fun _ => V.fa F94_2 rfl) rfl ?_
   refine GM.ld 9 rfl (by kernel_rfl) (by kernel_rfl) (fun w1 h1 => h1.has ⟨nb, true, .row (nodeR tp idx wl nt pr (.slice ad kids.length cap) (.slice ad2 l2 c2) f0) 94 (0, 0)⟩ (by first | exact .head _ | exact .tail _ (.head _))) Tryd.isAgg4 rfl (fun w1 h1 => cellB h1 rfl) rfl ?_
   refine GM.p 10 rfl (by kernel_rfl) (by kernel_rfl) (fun w1 h1 => h1.has ⟨nb, true, .row (nodeR tp idx wl nt pr (.slice ad kids.length cap) (.slice ad2 l2 c2) f0) 94 (0, 0)⟩ (by first | exact .head _ | exact .tail _ (.head _))) (fun _ => V.mv rfl) rfl ?_
   refine GM.p 11 rfl (by kernel_rfl) (by kernel_rfl) (fun w1 h1 => h1.has ⟨nb, true, .row (nodeR tp idx wl nt pr (.slice ad kids.length cap) (.slice ad2 l2 c2) f0) 94 (0, 0)⟩ (by first | exact .head _ | exact .tail _ (.head _))) (fun _ => V.nc rfl) rfl ?_
   refine GM.p 12 rfl (by kernel_rfl) (by kernel_rfl) (fun w1 h1 => h1.has ⟨nb, true, .row (nodeR tp idx wl nt pr (.slice ad kids.length cap) (.slice ad2 l2 c2) f0) 94 (0, 0)⟩ (by first | exact .head _ | exact .tail _ (.head _))) (fun _ => V.fa F94_1 rfl) rfl ?_
   refine GM.ld 13 rfl (by kernel_rfl) (by kernel_rfl) (fun w1 h1 => h1.has ⟨nb, true, .row (nodeR tp idx wl nt pr (.slice ad kids.length cap) (.slice ad2 l2 c2) f0) 94 (0, 0)⟩ (by first | exact .head _ | exact .tail _ (.head _))) Tryd.isAgg9 rfl (fun w1 h1 => cellB h1 rfl) rfl ?_
   refine GM.p 14 rfl (by kernel_rfl) (by kernel_rfl) (fun w1 h1 => h1.has ⟨nb, true, .row (nodeR tp idx wl nt pr (.slice ad kids.length cap) (.slice ad2 l2 c2) f0) 94 (0, 0)⟩ (by first | exact .head _ | exact .tail _ (.head _))) (fun _ => V.mv rfl) rfl ?_
   refine GM.p 15 rfl (by kernel_rfl) (by kernel_rfl) (fun w1 h1 => h1.has ⟨nb, true, .row (nodeR tp idx wl nt pr (.slice ad kids.length cap) (.slice ad2 l2 c2) f0) 94 (0, 0)⟩ (by first | exact .head _ | exact .tail _ (.head _))) (fun _ => V.nc rfl) rfl ?_
   refine GM.p 16 rfl (by kernel_rfl) (by kernel_rfl) (fun w1 h1 => h1.has ⟨nb, true, .row (nodeR tp idx wl nt pr (.slice ad kids.length cap) (.slice ad2 l2 c2) f0) 94 (0, 0)⟩ (by first | exact .head _ | exact .tail _ (.head _))) (fun _ => V.fa F94_5 rfl) rfl ?_
   refine GM.ld 17 rfl (by kernel_rfl) (by kernel_rfl) (fun w1 h1 => h1.has ⟨nb, true, .row (nodeR tp idx wl nt pr (.slice ad kids.length cap) (.slice ad2 l2 c2) f0) 94 (0, 0)⟩ (by first | exact .head _ | exact .tail _ (.head _))) Tryd.isAgg90 rfl (fun w1 h1 => cellB h1 rfl) rfl ?_
   refine GM.p 18 rfl (by kernel_rfl) (by kernel_rfl) (fun w1 h1 => h1.has ⟨nb, true, .row (nodeR tp idx wl nt pr (.slice ad kids.length cap) (.slice ad2 l2 c2) f0) 94 (0, 0)⟩ (by first | exact .head _ | exact .tail _ (.head _))) (fun _ => V.mv rfl) rfl ?_
   refine GM.p 19 rfl (by kernel_rfl) (by kernel_rfl) (fun w1 h1 => h1.has ⟨nb, true, .row (nodeR tp idx wl nt pr (.slice ad kids.length cap) (.slice ad2 l2 c2) f0) 94 (0, 0)⟩ (by first | exact .head _ | exact .tail _ (.head _))) (fun _ => V.nc rfl) rfl ?_
   refine GM.p 20 rfl (by kernel_rfl) (by kernel_rfl) (fun w1 h1 => h1.has ⟨nb, true, .row (nodeR tp idx wl nt pr (.slice ad kids.length cap) (.slice ad2 l2 c2) f0) 94 (0, 0)⟩ (by first | exact .head _ | exact .tail _ (.head _))) (fun _ => V.fa F94_6 rfl) rfl ?_
   refine GM.ld 21 rfl (by kernel_rfl) (by kernel_rfl) (fun w1 h1 => h1.has ⟨nb, true, .row (nodeR tp idx wl nt pr (.slice ad kids.length cap) (.slice ad2 l2 c2) f0) 94 (0, 0)⟩ (by first | exact .head _ | exact .tail _ (.head _))) Tryd.isAgg92 rfl (fun w1 h1 => cellB h1 rfl) rfl ?_
   refine GM.p 22 rfl (by kernel_rfl) (by kernel_rfl) (fun w1 h1 => h1.has ⟨nb, true, .row (nodeR tp idx wl nt pr (.slice ad kids.length cap) (.slice ad2 l2 c2) f0) 94 (0, 0)⟩ (by first | exact .head _ | exact .tail _ (.head _))) (fun _ => V.mv rfl) rfl ?_
   refine GM.p 23 rfl (by kernel_rfl) (by kernel_rfl) (fun w1 h1 => h1.has ⟨nb, true, .row (nodeR tp idx wl nt pr (.slice ad kids.length cap) (.slice ad2 l2 c2) f0) 94 (0, 0)⟩ (by first | exact .head _ | exact .tail _ (.head _))) (fun _ => V.nc rfl) rfl ?_
   refine GM.p 24 rfl (by kernel_rfl) (by kernel_rfl) (fun w1 h1 => h1.has ⟨nb, true, .row (nodeR tp idx wl nt pr (.slice ad kids.length cap) (.slice ad2 l2 c2) f0) 94 (0, 0)⟩ (by first | exact .head _ | exact .tail _ (.head _))) (fun _ => V.fa F94_4 rfl) rfl ?_
   refine GM.ld 25 rfl (by kernel_rfl) (by kernel_rfl) (fun w1 h1 => h1.has ⟨nb, true, .row (nodeR tp idx wl nt pr (.slice ad kids.length cap) (.slice ad2 l2 c2) f0) 94 (0, 0)⟩ (by first | exact .head _ | exact .tail _ (.head _))) Tryd.isAgg89 rfl (fun w1 h1 => cellB h1 rfl) rfl ?_
   refine GM.p 26 rfl (by kernel_rfl) (by kernel_rfl) (fun w1 h1 => h1.has ⟨nb, true, .row (nodeR tp idx wl nt pr (.slice ad kids.length cap) (.slice ad2 l2 c2) f0) 94 (0, 0)⟩ (by first | exact .head _ | exact .tail _ (.head _))) (fun _ => V.sub32 hpr2 rfl rfl) rfl ?_
   refine GM.p 27 rfl (by kernel_rfl) (by kernel_rfl) (fun w1 h1 => h1.has ⟨nb, true, .row (nodeR tp idx wl nt pr (.slice ad kids.length cap) (.slice ad2 l2 c2) f0) 94 (0, 0)⟩ (by first | exact .head _ | exact .tail _ (.head _))) (fun _ => V.mv rfl) rfl ?_
   refine GM.p 28 rfl (by kernel_rfl) (by kernel_rfl) (fun w1 h1 => h1.has ⟨nb, true, .row (nodeR tp idx wl nt pr (.slice ad kids.length cap) (.slice ad2 l2 c2) f0) 94 (0, 0)⟩ (by first | exact .head _ | exact .tail _ (.head _))) (fun _ => V.nc rfl) rfl ?_
   refine GM.p 29 rfl (by kernel_rfl) (by kernel_rfl) (fun w1 h1 => h1.has ⟨nb, true, .row (nodeR tp idx wl nt pr (.slice ad kids.length cap) (.slice ad2 l2 c2) f0) 94 (0, 0)⟩ (by first | exact .head _ | exact .tail _ (.head _))) (fun _ => V.fa F94_7 rfl) rfl ?_
   refine GM.ld 30 rfl (by kernel_rfl) (by kernel_rfl) (fun w1 h1 => h1.has ⟨nb, true, .row (nodeR tp idx wl nt pr (.slice ad kids.length cap) (.slice ad2 l2 c2) f0) 94 (0, 0)⟩ (by first | exact .head _ | exact .tail _ (.head _))) Tryd.isAgg9 rfl (fun w1 h1 => cellB h1 rfl) rfl ?_
   refine GM.p 31 rfl (by kernel_rfl) (by kernel_rfl) (fun w1 h1 => h1.has ⟨nb, true, .row (nodeR tp idx wl nt pr (.slice ad kids.length cap) (.slice ad2 l2 c2) f0) 94 (0, 0)⟩ (by first | exact .head _ | exact .tail _ (.head _))) (fun _ => V.bd (vs := [(0, S (tp.drop i)), (2, .bool wl), (3, .int .u8 0), (1, S idx), (5, .slice ad kids.length cap), (6, .slice ad2 l2 c2), (4, .int .u32 ((pr2 % 4294967296 : Nat) : Int)), (7, S f0)]) rfl (fun w1 => bd_all _ _ _ _ _ _ _ _ _ _ _ w1)) rfl ?_
   refine GM.one 32 rfl (by kernel_rfl) ?_
   refine GMB.al (l := nodeR [] [] false 0 0 (.slice none 0 0) (.slice none 0 0) []) Tryd.zeroValue94 (by simp [cells_agg, nodeR]) (fun w1 h1 => h1.has ⟨nb, true, .row (nodeR tp idx wl nt pr (.slice ad kids.length cap) (.slice ad2 l2 c2) f0) 94 (0, 0)⟩ (.head _)) rfl (fun cb => ?_)
   refine GM.tl (by kernel_rfl) ?_
   refine G.stA (l := nodeR [] [] false 0 0 (.slice none 0 0) (.slice none 0 0) []) (cs := nodeR (tp.drop i) idx wl 0 pr2 (.slice ad kids.length cap) (.slice ad2 l2 c2) f0) Tryd.sizeOf94 rfl rfl (nodeR_one rfl rfl) .z rfl ?_
   refine G.nil ?_
   refine GC.seq ?_
   refine GC.turn (H' := ⟨cb, true, .row (nodeR (tp.drop i) idx wl 0 pr2 (.slice ad kids.length cap) (.slice ad2 l2 c2) f0) 94 (0, 0)⟩ :: ⟨nb, true, .row (nodeR tp idx wl nt pr (.slice ad kids.length cap) (.slice ad2 l2 c2) f0) 94 (0, 0)⟩ :: (Hs ++ X)) (fun w1 h1 => h1) ?_
   refine GC.reg ?_
   refine G.m1 ?_
   refine G.bs (BS.one Tryd.underlying90 Tryd.sizeOf83 Tryd.zeroValue83 (v := Pt cb 0) rfl) rfl rfl (fun sb hsb => ?_)
   refine G.v (V.nc rfl) rfl ?_
   refine G.v (V.fa F94_5 rfl) rfl ?_
   refine G.st (b := nb) (off := 0 + 5) (l := nodeR tp idx wl nt pr (.slice ad kids.length cap) (.slice ad2 l2 c2) f0) (T := 94) (fz := (0, 0)) (v := .slice (some ⟨sb, 0, none⟩) 1 1) Tryd.sizeOf90 rfl rfl rfl (.s (.s .z)) rfl rfl ?_
   refine G.nil ?_
   refine GC.seq ?_
   refine GC.turn (H' := ⟨sb, true, .row [Pt cb 0] 83 (0, 0)⟩ :: ⟨cb, true, .row (nodeR (tp.drop i) idx wl 0 pr2 (.slice ad kids.length cap) (.slice ad2 l2 c2) f0) 94 (0, 0)⟩ :: ⟨nb, true, .row (nodeR tp idx wl nt pr (.slice (some ⟨sb, 0, none⟩) 1 1) (.slice ad2 l2 c2) f0) 94 (0, 0)⟩ :: (Hs ++ X)) (fun w1 h1 => h1) ?_
   have hlt : i < tp.length := by omega
   obtain ⟨x, hx⟩ : ∃ x, tp[i]? = some x := ⟨_, List.getElem?_eq_getElem hlt⟩
   refine GC.reg ?_
   refine G.m1 ?_
   refine G.m1 ?_
   refine G.v (V.nc rfl) rfl ?_
   refine G.v (V.fa F94_0 rfl) rfl ?_
   refine G.v (V.ld (b := nb) (off := 0 + 0) (wf := true) (l := nodeR tp idx wl nt pr (.slice (some ⟨sb, 0, none⟩) 1 1) (.slice ad2 l2 c2) f0) (T := 94) (fz := (0, 0)) (v := S tp) Tryd.isAgg9 rfl (m2 (.head _)) rfl) rfl ?_
   refine G.m1 ?_
   refine G.v (V.idx (i := i) (b := x) Tryd.underlying9 rfl rfl hx) rfl ?_
   refine G.bs (BS.one Tryd.underlying44 Tryd.sizeOf5 Tryd.zeroValue5 (v := .int .u8 (x.toNat : Int)) rfl) rfl rfl (fun tb htb => ?_)
   refine G.v (V.cvBS (l := [x]) (T := 5) (wf := true) Tryd.underlying44 Tryd.underlying5 Tryd.underlying9 rfl (.head _) (by simp)) rfl ?_
   refine G.v (V.nc rfl) rfl ?_
   refine G.v (V.fa F94_1 rfl) rfl ?_
   refine G.st (b := nb) (off := 0 + 1) (l := nodeR tp idx wl nt pr (.slice (some ⟨sb, 0, none⟩) 1 1) (.slice ad2 l2 c2) f0) (T := 94) (fz := (0, 0)) (v := S [x]) Tryd.sizeOf9 rfl rfl rfl (.s (.s (.s .z))) rfl rfl ?_
   refine G.nil ?_
   refine GC.seq ?_
   refine GC.turn (H' := ⟨tb, true, .row (bC [x]) 5 (0, 0)⟩ :: ⟨sb, true, .row [Pt cb 0] 83 (0, 0)⟩ :: ⟨cb, true, .row (nodeR (tp.drop i) idx wl 0 pr2 (.slice ad kids.length cap) (.slice ad2 l2 c2) f0) 94 (0, 0)⟩ :: ⟨nb, true, .row (nodeR tp [x] wl nt pr (.slice (some ⟨sb, 0, none⟩) 1 1) (.slice ad2 l2 c2) f0) 94 (0, 0)⟩ :: (Hs ++ X)) (fun w1 h1 => h1) ?_
   refine GC.reg ?_
   refine G.m1 ?_
   refine G.m1 ?_
   refine G.m1 ?_
   refine G.v (V.slH (j := i) Tryd.underlying9 rfl rfl (by omega)) rfl ?_
   refine G.v (V.nc rfl) rfl ?_
   refine G.v (V.fa F94_0 rfl) rfl ?_
   refine G.st (b := nb) (off := 0 + 0) (l := nodeR tp [x] wl nt pr (.slice (some ⟨sb, 0, none⟩) 1 1) (.slice ad2 l2 c2) f0) (T := 94) (fz := (0, 0)) (v := S (p.take i)) Tryd.sizeOf9 rfl rfl rfl (.s (.s (.s .z))) rfl rfl ?_
   refine G.nil ?_
   refine GC.seq ?_
   refine GC.turn (H' := ⟨tb, true, .row (bC [x]) 5 (0, 0)⟩ :: ⟨sb, true, .row [Pt cb 0] 83 (0, 0)⟩ :: ⟨cb, true, .row (nodeR (tp.drop i) idx wl 0 pr2 (.slice ad kids.length cap) (.slice ad2 l2 c2) f0) 94 (0, 0)⟩ :: ⟨nb, true, .row (nodeR (p.take i) [x] wl nt pr (.slice (some ⟨sb, 0, none⟩) 1 1) (.slice ad2 l2 c2) f0) 94 (0, 0)⟩ :: (Hs ++ X)) (fun w1 h1 => h1) ?_
   refine GC.reg ?_
   refine G.m1 ?_
   refine G.v (V.nc rfl) rfl ?_
   refine G.v (V.fa F94_6 rfl) rfl ?_
   refine G.st (b := nb) (off := 0 + 6) (l := nodeR (p.take i) [x] wl nt pr (.slice (some ⟨sb, 0, none⟩) 1 1) (.slice ad2 l2 c2) f0) (T := 94) (fz := (0, 0)) (v := .slice none 0 0) Tryd.sizeOf92 rfl rfl rfl (.s (.s (.s .z))) rfl rfl ?_
   refine G.nil ?_
   refine GC.seq ?_
   refine GC.turn (H' := ⟨tb, true, .row (bC [x]) 5 (0, 0)⟩ :: ⟨sb, true, .row [Pt cb 0] 83 (0, 0)⟩ :: ⟨cb, true, .row (nodeR (tp.drop i) idx wl 0 pr2 (.slice ad kids.length cap) (.slice ad2 l2 c2) f0) 94 (0, 0)⟩ :: ⟨nb, true, .row (nodeR (p.take i) [x] wl nt pr (.slice (some ⟨sb, 0, none⟩) 1 1) (.slice none 0 0) f0) 94 (0, 0)⟩ :: (Hs ++ X)) (fun w1 h1 => h1) ?_
   refine GC.reg ?_
   refine G.m1 ?_
   refine G.v (V.nc rfl) rfl ?_
   refine G.v (V.fa F94_2 rfl) rfl ?_
   refine G.st (b := nb) (off := 0 + 2) (l := nodeR (p.take i) [x] wl nt pr (.slice (some ⟨sb, 0, none⟩) 1 1) (.slice none 0 0) f0) (T := 94) (fz := (0, 0)) (v := .bool false) Tryd.sizeOf4 rfl rfl rfl (.s (.s (.s .z))) rfl rfl ?_
   refine G.nil ?_
   refine GC.turn (H' := ⟨tb, true, .row (bC [x]) 5 (0, 0)⟩ :: ⟨sb, true, .row [Pt cb 0] 83 (0, 0)⟩ :: ⟨cb, true, .row (nodeR (tp.drop i) idx wl 0 pr2 (.slice ad kids.length cap) (.slice ad2 l2 c2) f0) 94 (0, 0)⟩ :: ⟨nb, true, .row (nodeR (p.take i) [x] false nt pr (.slice (some ⟨sb, 0, none⟩) 1 1) (.slice none 0 0) f0) 94 (0, 0)⟩ :: (Hs ++ X)) (fun w1 h1 => h1) ?_
   refine GC.reg ?_
   refine G.m1 ?_
   refine G.m1 ?_
   refine G.m1 ?_
   refine G.m1 ?_
   refine G.v (V.addI (r := ((pfi + i : Nat) : Int)) rfl rfl (by omega) (by omega) (by omega)) rfl ?_
   refine G.v (V.slH (j := pfi + i) Tryd.underlying9 rfl rfl (by omega)) rfl ?_
   refine G.v (V.nc rfl) rfl ?_
   refine G.v (V.fa F94_7 rfl) rfl ?_
   refine G.st (b := nb) (off := 0 + 7) (l := nodeR (p.take i) [x] false nt pr (.slice (some ⟨sb, 0, none⟩) 1 1) (.slice none 0 0) f0) (T := 94) (fz := (0, 0)) (v := S (full.take (pfi + i))) Tryd.sizeOf9 rfl rfl rfl (.s (.s (.s .z))) rfl rfl ?_
   refine G.nil ?_
   have hown : Own 83 1 (.slice (some ⟨sb, 0, none⟩) 1 1) 1 ([cb].map (Pt · 0)) [⟨sb, true, .row [Pt cb 0] 83 (0, 0)⟩] := Own.row (xs := [Pt cb 0]) (spare := []) rfl rfl (Nat.le_refl _)
   have hch := HT.mk (path := tp.drop i) (idx := idx) (wild := wl) (nt := 0) (pr := pr2) (h := h0) (full := f0) (nb := cb) hs hh hk
   have hT := HT.mk (path := p.take i) (idx := [x]) (wild := false) (nt := nt) (pr := pr) (h := none) (full := full.take (pfi + i)) (nb := nb) (kids := [.node () (tp.drop i) idx wl 0 pr2 h0 f0 kids]) hown HV.nil (HTs.one hch)
   have e0 : (if i < tp.length then split (.node () tp idx wl nt pr h0 f0 kids) () i (full.take (pfi + i)) else .node () tp idx wl nt pr h0 f0 kids) = .node () (p.take i) [x] false nt pr none (full.take (pfi + i)) [.node () (tp.drop i) idx wl 0 pr2 h0 f0 kids] := by
    rw [if_pos hlt, htk]
    have e1 : (tp.drop i).take 1 = [x] := by rw [drop_cons hx]; rfl
    unfold split
    simp only [Tr.path, Tr.an, Tr.nt, Tr.pr, Tr.idx, Tr.wild, Tr.h, Tr.full, Tr.kids, e1, hpr2]
   refine J58 _ _ ⟨_, by rw [e0]; exact hT, .of rfl, fun w1 h1 => ?_⟩
   rw [hX] at h1
   have h2 : HF w D (⟨tb, true, .row (bC [x]) 5 (0, 0)⟩ :: ⟨sb, true, .row [Pt cb 0] 83 (0, 0)⟩ :: ⟨cb, true, .row (nodeR (tp.drop i) idx wl 0 pr2 (.slice ad kids.length cap) (.slice ad2 l2 c2) f0) 94 (0, 0)⟩ :: ⟨nb, true, .row (nodeR (p.take i) [x] false nt pr (.slice (some ⟨sb, 0, none⟩) 1 1) (.slice none 0 0) (full.take (pfi + i))) 94 (0, 0)⟩ :: (Hs ++ ((Hh ++ Hk) ++ (⟨hb, true, .row [I (num : Int)] 3 (0, 0)⟩ :: Hr)))) w1 := h1
   generalize (⟨nb, true, .row (nodeR (p.take i) [x] false nt pr (.slice (some ⟨sb, 0, none⟩) 1 1) (.slice none 0 0) (full.take (pfi + i))) 94 (0, 0)⟩ : Ent) = E6 at *
   generalize (⟨cb, true, .row (nodeR (tp.drop i) idx wl 0 pr2 (.slice ad kids.length cap) (.slice ad2 l2 c2) f0) 94 (0, 0)⟩ : Ent) = C6 at *
   have p1 := perm_idx [[⟨tb, true, .row (bC [x]) 5 (0, 0)⟩], [⟨sb, true, .row [Pt cb 0] 83 (0, 0)⟩], [C6], [E6], Hs, Hh, Hk, [⟨hb, true, .row [I (num : Int)] 3 (0, 0)⟩], Hr] [0, 1, 2, 3, 4, 5, 6, 7, 8] [0, 3, 1, 2, 4, 5, 6, 7, 8] (by decide)
   have h3 := h2.perm (H' := ⟨tb, true, .row (bC [x]) 5 (0, 0)⟩ :: ((E6 :: ([⟨sb, true, .row [Pt cb 0] 83 (0, 0)⟩] ++ ([] ++ (C6 :: (Hs ++ (Hh ++ Hk)))))) ++ (⟨hb, true, .row [I (num : Int)] 3 (0, 0)⟩ :: Hr))) (by simpa using p1)
   exact h3.sub (List.sublist_cons_self _ _)
  refine GC.skip ?_
  have hge : ¬ i < tp.length := by omega
  refine J58 _ _ ⟨_, by rw [if_neg hge]; exact HT.mk hs hh hk, .of rfl, fun w1 h1 => ?_⟩
  rw [hX] at h1
  rw [List.cons_append, List.append_assoc]
  exact h1
 rintro fr' H' ⟨Hn1, hn1, hs58, hH58⟩
 exact GC.turn hH58 (go Hn1 _ hn1 hs58)
end Go.Proofs

/- addRoute: behind the split: the path ends here; the ways down. Printed by wip/mk_gu10.py. -/
set_option maxRecDepth 20000
namespace Go.Proofs
open Go Bw
open Gt
def thn : Code → Code
 | .cond _ a _ => a
 | c => c
def mid5 : List Item → List Item
 | .code (.seq (.seq _ cnd) tail) :: k => .code (sR (sR (sR (sR (thn cnd))))) :: .code tail :: k
 | k => k
/-- behind the search for an index -/
noncomputable def K72s : List Item := mid5 K72m
theorem idxOf_some {c : UInt8} : ∀ {l : List UInt8} {j : Nat}, idxOf c l = some j → l[j]? = some c ∧ ∀ q : Nat, q < j → l[q]? ≠ some c
 | [], j, h => by cases h
 | d :: l, j, h => by
  unfold idxOf at h
  by_cases e : c = d
  ·rw [if_pos e] at h; cases h; exact ⟨by simp [e], fun q hq => by omega⟩
  ·rw [if_neg e] at h
   obtain ⟨j', h1, rfl⟩ := Option.map_eq_some_iff.1 h
   obtain ⟨h2, h3⟩ := idxOf_some h1
   refine ⟨by simpa using h2, fun q hq => ?_⟩
   cases q with
   | zero => simp; exact fun e2 => e e2.symm
   | succ q => simpa using h3 q (by omega)
theorem idxOf_none {c : UInt8} : ∀ {l : List UInt8}, idxOf c l = none → ∀ q : Nat, l[q]? ≠ some c
 | [], h, q => by simp
 | d :: l, h, q => by
  unfold idxOf at h
  by_cases e : c = d
  ·rw [if_pos e] at h; cases h
  ·rw [if_neg e] at h
   cases q with
   | zero => simp; exact fun e2 => e e2.symm
   | succ q => simpa using idxOf_none (Option.map_eq_none_iff.1 h) q
theorem f72_set {R : Ending → World → Prop} {w : World} {D : Nat → Prop} {nb hb num pfi i : Nat} {p full tp idx : List UInt8} {wl : Bool} {nt pr : Nat} {h0 : Option Nat} {f0 : List UInt8} {kids : List T0} {bs : List Nat} {kv hv : Value} {Hs Hh Hk Hr : SH} {fr : SF}
  (hs : Own 83 1 kv kids.length (bs.map (Pt · 0)) Hs) (hh : HV h0 hv Hh) (hk : HTs kids bs Hk) (_hpl : p.length ≤ 100000) (_hfl : full.length ≤ 100000) (_hpf : pfi + p.length ≤ full.length) (_hip : i ≤ p.length) (hti : tp.length = i) (hsub : Sub [(0, Pt nb 0), (1, S p), (2, .slice (some ⟨hb, 0, none⟩) 1 1), (6, S full), (7, I (pfi : Int)), (8, I (i : Nat))] fr) (hie : i = p.length) (hn : h0 = none)
  (fin : ∀ Hn' w', HT (.node () tp idx wl nt pr (some num) full kids) nb Hn' → HF w D (Hn' ++ Hr) w' → R (.returned (.tuple #[])) w') :
  GC Tryd.prog ⟨56, Tryd.f56, R, w, D⟩ 377 K72m fr (⟨nb, true, .row (nodeR tp idx wl nt pr kv hv f0) 94 (0, 0)⟩ :: ((Hs ++ (Hh ++ Hk)) ++ (⟨hb, true, .row [I (num : Int)] 3 (0, 0)⟩ :: Hr))) := by
 refine GC.weak hsub ?_
 clear hsub
 obtain ⟨X, hX⟩ : ∃ X, X = (Hh ++ Hk) ++ (⟨hb, true, .row [I (num : Int)] 3 (0, 0)⟩ :: Hr) := ⟨_, rfl⟩
 refine GC.turn (H' := ⟨nb, true, .row (nodeR tp idx wl nt pr kv hv f0) 94 (0, 0)⟩ :: (Hs ++ X)) (fun w1 h1 => by rw [hX, ← List.append_assoc]; exact h1) ?_
 have hkl2 := hk.len
 obtain ⟨ad, cap, rfl⟩ := hs.slice
 obtain ⟨ad2, l2, c2, rfl, hnn⟩ := hh.slice
 rw [hn] at hnn
 have had : ad2 = none := by cases ad2 with | none => rfl | some _ => cases hnn
 subst had
 refine GC.seq ?_
 refine GC.seq ?_
 refine GC.reg ?_
 refine G.m1 ?_
 refine G.m1 ?_
 refine G.v (V.lenS Tryd.underlying9 rfl) rfl ?_
 refine G.v (V.lt rfl rfl) rfl ?_
 refine G.nil ?_
 refine GC.condD rfl (fun h129 => absurd h129 (by omega)) (fun h129 => ?_)
 refine GC.skip ?_
 refine GC.seq ?_
 refine GC.seq ?_
 refine GC.reg ?_
 refine G.m1 ?_
 refine G.v (V.nc rfl) rfl ?_
 refine G.v (V.fa F94_6 rfl) rfl ?_
 refine G.v (V.ld (b := nb) (off := 0 + 6) (wf := true) (l := nodeR tp idx wl nt pr (.slice ad kids.length cap) (.slice none l2 c2) f0) (T := 94) (fz := (0, 0)) (v := .slice none l2 c2) Tryd.isAgg92 rfl (.head _) rfl) rfl ?_
 refine G.v (V.neL Tryd.underlying92 rfl) rfl ?_
 refine G.nil ?_
 refine GC.cond rfl (fun h364 => absurd h364 (by decide)) (fun h364 => ?_)
 refine GC.skip ?_
 refine GC.seq ?_
 refine GC.reg ?_
 refine G.m1 ?_
 refine G.m1 ?_
 refine G.v (V.nc rfl) rfl ?_
 refine G.v (V.fa F94_6 rfl) rfl ?_
 refine G.st (b := nb) (off := 0 + 6) (l := nodeR tp idx wl nt pr (.slice ad kids.length cap) (.slice none l2 c2) f0) (T := 94) (fz := (0, 0)) (v := .slice (some ⟨hb, 0, none⟩) 1 1) Tryd.sizeOf92 rfl rfl rfl (.z) rfl rfl ?_
 refine G.nil ?_
 refine GC.seq ?_
 refine GC.turn (H' := ⟨nb, true, .row (nodeR tp idx wl nt pr (.slice ad kids.length cap) (.slice (some ⟨hb, 0, none⟩) 1 1) f0) 94 (0, 0)⟩ :: (Hs ++ X)) (fun w1 h1 => h1) ?_
 refine GC.reg ?_
 refine G.m1 ?_
 refine G.m1 ?_
 refine G.v (V.nc rfl) rfl ?_
 refine G.v (V.fa F94_7 rfl) rfl ?_
 refine G.st (b := nb) (off := 0 + 7) (l := nodeR tp idx wl nt pr (.slice ad kids.length cap) (.slice (some ⟨hb, 0, none⟩) 1 1) f0) (T := 94) (fz := (0, 0)) (v := S full) Tryd.sizeOf9 rfl rfl rfl (.z) rfl rfl ?_
 refine G.nil ?_
 refine GC.turn (H' := ⟨nb, true, .row (nodeR tp idx wl nt pr (.slice ad kids.length cap) (.slice (some ⟨hb, 0, none⟩) 1 1) full) 94 (0, 0)⟩ :: (Hs ++ X)) (fun w1 h1 => h1) ?_
 refine GC.ret0 rfl fun w' hw' => fin _ w' (HT.mk hs (HV.row (k := num) (hb := hb)) hk) ?_
 rw [hX] at hw'
 have p1 := perm_idx [[⟨nb, true, .row (nodeR tp idx wl nt pr (.slice ad kids.length cap) (.slice (some ⟨hb, 0, none⟩) 1 1) full) 94 (0, 0)⟩], Hs, Hh, Hk, [⟨hb, true, .row [I (num : Int)] 3 (0, 0)⟩], Hr] [0, 1, 2, 3, 4, 5] [2, 0, 1, 4, 3, 5] (by decide)
 have h2 := hw'.perm (H' := Hh ++ ((⟨nb, true, .row (nodeR tp idx wl nt pr (.slice ad kids.length cap) (.slice (some ⟨hb, 0, none⟩) 1 1) full) 94 (0, 0)⟩ :: (Hs ++ ([⟨hb, true, .row [I (num : Int)] 3 (0, 0)⟩] ++ Hk))) ++ Hr)) (by simpa using p1)
 exact h2.sub (List.sublist_append_right _ _)
theorem f72_dup {R : Ending → World → Prop} {w : World} {D : Nat → Prop} {nb hb num pfi i : Nat} {p full tp idx : List UInt8} {wl : Bool} {nt pr : Nat} {h0 : Option Nat} {f0 : List UInt8} {kids : List T0} {bs : List Nat} {kv hv : Value} {Hs Hh Hk Hr : SH} {fr : SF}
  (hs : Own 83 1 kv kids.length (bs.map (Pt · 0)) Hs) (hh : HV h0 hv Hh) (hk : HTs kids bs Hk) (_hpl : p.length ≤ 100000) (hfl : full.length ≤ 100000) (_hpf : pfi + p.length ≤ full.length) (_hip : i ≤ p.length) (hti : tp.length = i) (hsub : Sub [(0, Pt nb 0), (1, S p), (2, .slice (some ⟨hb, 0, none⟩) 1 1), (6, S full), (7, I (pfi : Int)), (8, I (i : Nat))] fr) (hie : i = p.length) (hn : h0.isSome = true)
  (pan : ∀ e w', onePanic e → HF w D [] w' → R e w') :
  GC Tryd.prog ⟨56, Tryd.f56, R, w, D⟩ 377 K72m fr (⟨nb, true, .row (nodeR tp idx wl nt pr kv hv f0) 94 (0, 0)⟩ :: ((Hs ++ (Hh ++ Hk)) ++ (⟨hb, true, .row [I (num : Int)] 3 (0, 0)⟩ :: Hr))) := by
 refine GC.weak hsub ?_
 clear hsub
 obtain ⟨X, hX⟩ : ∃ X, X = (Hh ++ Hk) ++ (⟨hb, true, .row [I (num : Int)] 3 (0, 0)⟩ :: Hr) := ⟨_, rfl⟩
 refine GC.turn (H' := ⟨nb, true, .row (nodeR tp idx wl nt pr kv hv f0) 94 (0, 0)⟩ :: (Hs ++ X)) (fun w1 h1 => by rw [hX, ← List.append_assoc]; exact h1) ?_
 have hkl2 := hk.len
 obtain ⟨ad, cap, rfl⟩ := hs.slice
 obtain ⟨ad2, l2, c2, rfl, hnn⟩ := hh.slice
 obtain ⟨ad3, rfl⟩ : ∃ a, ad2 = some a := by cases ad2 with | none => rw [← Option.not_isNone, ← hnn] at hn; cases hn | some a => exact ⟨a, rfl⟩
 refine GC.seq ?_
 refine GC.seq ?_
 refine GC.reg ?_
 refine G.m1 ?_
 refine G.m1 ?_
 refine G.v (V.lenS Tryd.underlying9 rfl) rfl ?_
 refine G.v (V.lt rfl rfl) rfl ?_
 refine G.nil ?_
 refine GC.condD rfl (fun h129 => absurd h129 (by omega)) (fun h129 => ?_)
 refine GC.skip ?_
 refine GC.seq ?_
 refine GC.seq ?_
 refine GC.reg ?_
 refine G.m1 ?_
 refine G.v (V.nc rfl) rfl ?_
 refine G.v (V.fa F94_6 rfl) rfl ?_
 refine G.v (V.ld (b := nb) (off := 0 + 6) (wf := true) (l := nodeR tp idx wl nt pr (.slice ad kids.length cap) (.slice (some ad3) l2 c2) f0) (T := 94) (fz := (0, 0)) (v := .slice (some ad3) l2 c2) Tryd.isAgg92 rfl (.head _) rfl) rfl ?_
 refine G.v (V.neL Tryd.underlying92 rfl) rfl ?_
 refine G.nil ?_
 refine GC.cond rfl (fun h364 => ?_) (fun h364 => absurd h364 (by simp))
 refine GC.reg ?_
 refine G.m1 ?_
 refine G.v (V.cat rfl rfl (by simp; omega)) rfl ?_
 refine G.v (V.cat rfl rfl (by simp; omega)) rfl ?_
 refine G.v (V.miS Tryd.underlying9 rfl) rfl ?_
 refine G.panic rfl fun w' hw' => pan _ _ ⟨_, _, rfl⟩ (hw'.sub (List.nil_sublist _))
theorem f72_par {R : Ending → World → Prop} {w : World} {D : Nat → Prop} {nb hb num pfi i : Nat} {p full tp idx : List UInt8} {wl : Bool} {nt pr : Nat} {h0 : Option Nat} {f0 : List UInt8} {kids : List T0} {bs : List Nat} {kv hv : Value} {Hs Hh Hk Hr : SH} {fr : SF}
  (hs : Own 83 1 kv kids.length (bs.map (Pt · 0)) Hs) (hh : HV h0 hv Hh) (hk : HTs kids bs Hk) (_hpl : p.length ≤ 100000) (hfl : full.length ≤ 100000) (hpf : pfi + p.length ≤ full.length) (hip : i ≤ p.length) (hti : tp.length = i) (hsub : Sub [(0, Pt nb 0), (1, S p), (2, .slice (some ⟨hb, 0, none⟩) 1 1), (6, S full), (7, I (pfi : Int)), (8, I (i : Nat))] fr) {c : UInt8} {k0 : T0} (hlt : i < p.length) (hc : p[i]? = some c) (hc47 : c = 47) (hnt : nt = 2) (hkk : kids = [k0])
  (go : ∀ cb Hk1 Hr' fr', HT k0.incr cb Hk1 → (∀ k' Hk1', HT k' cb Hk1' → ∃ Hn', HT (.node () tp idx wl nt pr h0 f0 [k']) nb Hn' ∧ (Hk1' ++ Hr').Perm (Hn' ++ Hr)) → Sub [(0, Pt cb 0), (1, S (p.drop i)), (2, .slice (some ⟨hb, 0, none⟩) 1 1), (6, S full), (7, I ((pfi + tp.length : Nat) : Int))] fr' → GC Tryd.prog ⟨56, Tryd.f56, R, w, D⟩ 377 K72 fr' (Hk1 ++ (⟨hb, true, .row [I (num : Int)] 3 (0, 0)⟩ :: Hr'))) :
  GC Tryd.prog ⟨56, Tryd.f56, R, w, D⟩ 377 K72m fr (⟨nb, true, .row (nodeR tp idx wl nt pr kv hv f0) 94 (0, 0)⟩ :: ((Hs ++ (Hh ++ Hk)) ++ (⟨hb, true, .row [I (num : Int)] 3 (0, 0)⟩ :: Hr))) := by
 refine GC.weak hsub ?_
 clear hsub
 obtain ⟨X, hX⟩ : ∃ X, X = (Hh ++ Hk) ++ (⟨hb, true, .row [I (num : Int)] 3 (0, 0)⟩ :: Hr) := ⟨_, rfl⟩
 refine GC.turn (H' := ⟨nb, true, .row (nodeR tp idx wl nt pr kv hv f0) 94 (0, 0)⟩ :: (Hs ++ X)) (fun w1 h1 => by rw [hX, ← List.append_assoc]; exact h1) ?_
 have hkl2 := hk.len
 obtain ⟨ad, cap, rfl⟩ := hs.slice
 obtain ⟨ad2, l2, c2, rfl, hnn⟩ := hh.slice
 subst hkk
 obtain ⟨rb, cap2, spare, e1, rfl⟩ := hs.at (i := 0) (by simp)
 cases e1
 cases hk with
 | @cons _ b1 K1 _ _ _ hk1 hk0 =>
 cases hk0
 cases hk1 with
 | @mk kpath kidx kwild knt kpr ko kfull kkids _ kbs kkv khv Ks Kh Kk ks kh kk =>
 refine GC.seq ?_
 refine GC.seq ?_
 refine GC.reg ?_
 refine G.m1 ?_
 refine G.m1 ?_
 refine G.v (V.lenS Tryd.underlying9 rfl) rfl ?_
 refine G.v (V.lt rfl rfl) rfl ?_
 refine G.nil ?_
 refine GC.condD rfl (fun h129 => ?_) (fun h129 => absurd (by omega) h129)
 refine GC.seq ?_
 refine GC.reg ?_
 refine G.m1 ?_
 refine G.m1 ?_
 refine G.v (V.slL (i := i) Tryd.underlying9 rfl rfl hip) rfl ?_
 refine G.m2 ?_
 refine G.nil ?_
 refine GC.seq ?_
 refine GC.reg ?_
 refine G.m1 ?_
 refine G.v (V.idx (i := 0) (b := c) Tryd.underlying9 rfl rfl (by rw [List.getElem?_drop]; exact hc)) rfl ?_
 refine G.m2 ?_
 refine G.nil ?_
 refine GC.seq ?_
 refine GC.seq ?_
 refine GC.join (fun fr' H' => Sub [(0, Pt nb 0), (1, S (p.drop i)), (2, .slice (some ⟨hb, 0, none⟩) 1 1), (6, S full), (7, I (pfi : Int)), (151, .bool true)] fr' ∧ H' = ⟨nb, true, .row (nodeR tp idx wl nt pr (.slice (some ⟨rb, 0, none⟩) 1 cap) (.slice ad2 l2 c2) f0) 94 (0, 0)⟩ :: ([⟨rb, true, .row ([b1].map (Pt · 0) ++ spare) 83 (0, 0)⟩] ++ X)) (fun J18 => ?_) ?_
 ·refine GC.reg ?_
  refine G.m1 ?_
  refine G.v (V.nc rfl) rfl ?_
  refine G.v (V.fa F94_3 rfl) rfl ?_
  refine G.v (V.ld (b := nb) (off := 0 + 3) (wf := true) (l := nodeR tp idx wl nt pr (.slice (some ⟨rb, 0, none⟩) 1 cap) (.slice ad2 l2 c2) f0) (T := 94) (fz := (0, 0)) (v := .int .u8 (nt : Int)) Tryd.isAgg88 rfl (.head _) rfl) rfl ?_
  refine G.v (V.eqI rfl rfl) rfl ?_
  refine G.m1 ?_
  refine G.bc 140 rfl (fun h140 => ?_) (fun h140 => ?_)
  ·refine G.m5 ?_
   refine G.vg rfl rfl (V.eqI rfl rfl) rfl ?_
   refine G.m3 ?_
   refine G.m1 ?_
   refine G.bc 144 rfl (fun h144 => ?_) (fun h144 => ?_)
   ·refine G.m5 ?_
    refine G.vg rfl rfl (V.nc rfl) rfl ?_
    refine G.vg rfl rfl (V.fa F94_5 rfl) rfl ?_
    refine G.vg rfl rfl (V.ld (b := nb) (off := 0 + 5) (wf := true) (l := nodeR tp idx wl nt pr (.slice (some ⟨rb, 0, none⟩) 1 cap) (.slice ad2 l2 c2) f0) (T := 94) (fz := (0, 0)) (v := (.slice (some ⟨rb, 0, none⟩) 1 cap)) Tryd.isAgg90 rfl (.head _) rfl) rfl ?_
    refine G.vg rfl rfl (V.lenL Tryd.underlying90 rfl) rfl ?_
    refine G.vg rfl rfl (V.eqI rfl rfl) rfl ?_
    refine G.m3 ?_
    refine G.nil ?_
    exact J18 _ _ ⟨.of rfl, rfl⟩
   ·refine G.s1 ?_
    refine G.s1 ?_
    refine G.s1 ?_
    refine G.s1 ?_
    refine G.s1 ?_
    refine G.s1 ?_
    refine G.m4 ?_
    refine G.nil ?_
    exact absurd h144 (by rw [hc47]; decide)
  ·refine G.s1 ?_
   refine G.s1 ?_
   refine G.m4 ?_
   refine G.m1 ?_
   refine G.s1 ?_
   refine G.s1 ?_
   refine G.s1 ?_
   refine G.s1 ?_
   refine G.s1 ?_
   refine G.s1 ?_
   refine G.m4 ?_
   refine G.nil ?_
   exact absurd h140 (by rw [hnt]; decide)
 rintro fr' H' ⟨hs18, rfl⟩
 refine GC.weak hs18 ?_
 clear hs18
 refine GC.condT rfl ?_
 refine GC.seq ?_
 refine GC.reg ?_
 refine G.m1 ?_
 refine G.m1 ?_
 refine G.v (V.nc rfl) rfl ?_
 refine G.v (V.fa F94_0 rfl) rfl ?_
 refine G.v (V.ld (b := nb) (off := 0 + 0) (wf := true) (l := nodeR tp idx wl nt pr (.slice (some ⟨rb, 0, none⟩) 1 cap) (.slice ad2 l2 c2) f0) (T := 94) (fz := (0, 0)) (v := S tp) Tryd.isAgg9 rfl (.head _) rfl) rfl ?_
 refine G.v (V.lenS Tryd.underlying9 rfl) rfl ?_
 refine G.v (V.addI (r := ((pfi + tp.length : Nat) : Int)) rfl rfl rfl (by omega) (by omega)) rfl ?_
 refine G.m2 ?_
 refine G.nil ?_
 refine GC.seq ?_
 refine GC.reg ?_
 refine G.m1 ?_
 refine G.v (V.nc rfl) rfl ?_
 refine G.v (V.fa F94_5 rfl) rfl ?_
 refine G.v (V.ld (b := nb) (off := 0 + 5) (wf := true) (l := nodeR tp idx wl nt pr (.slice (some ⟨rb, 0, none⟩) 1 cap) (.slice ad2 l2 c2) f0) (T := 94) (fz := (0, 0)) (v := (.slice (some ⟨rb, 0, none⟩) 1 cap)) Tryd.isAgg90 rfl (.head _) rfl) rfl ?_
 refine G.v (V.ia (i := 0) Tryd.underlying90 Tryd.sizeOf83 rfl rfl (by omega)) rfl ?_
 refine G.v (V.ld (b := rb) (off := 0 + 0 * 1) (wf := true) (l := [b1].map (Pt · 0) ++ spare) (T := 83) (fz := (0, 0)) (v := Pt b1 0) Tryd.isAgg83 rfl (.tail _ (.head _)) rfl) rfl ?_
 refine G.m2 ?_
 refine G.nil ?_
 refine GC.seq ?_
 refine GC.turn (H' := ⟨b1, true, .row (nodeR kpath kidx kwild knt kpr kkv khv kfull) 94 (0, 0)⟩ :: (⟨nb, true, .row (nodeR tp idx wl nt pr (.slice (some ⟨rb, 0, none⟩) 1 cap) (.slice ad2 l2 c2) f0) 94 (0, 0)⟩ :: ⟨rb, true, .row ([b1].map (Pt · 0) ++ spare) 83 (0, 0)⟩ :: (Hh ++ ((Ks ++ (Kh ++ Kk)) ++ (⟨hb, true, .row [I (num : Int)] 3 (0, 0)⟩ :: Hr))))) (fun w1 h1 => ?_) ?_
 ·rw [hX] at h1
  have p1 := perm_idx [[⟨nb, true, .row (nodeR tp idx wl nt pr (.slice (some ⟨rb, 0, none⟩) 1 cap) (.slice ad2 l2 c2) f0) 94 (0, 0)⟩], [⟨rb, true, .row ([b1].map (Pt · 0) ++ spare) 83 (0, 0)⟩], Hh, [⟨b1, true, .row (nodeR kpath kidx kwild knt kpr kkv khv kfull) 94 (0, 0)⟩], (Ks ++ (Kh ++ Kk)), [⟨hb, true, .row [I (num : Int)] 3 (0, 0)⟩], Hr] [0, 1, 2, 3, 4, 5, 6] [3, 0, 1, 2, 4, 5, 6] (by decide)
  exact h1.perm (by simpa using p1)
 refine GC.reg ?_
 refine G.m1 ?_
 refine G.v (V.nc rfl) rfl ?_
 refine G.v (V.fa F94_4 rfl) rfl ?_
 refine G.v (V.ld (b := b1) (off := 0 + 4) (wf := true) (l := nodeR kpath kidx kwild knt kpr kkv khv kfull) (T := 94) (fz := (0, 0)) (v := .int .u32 ((kpr % 4294967296 : Nat) : Int)) Tryd.isAgg89 rfl (.head _) rfl) rfl ?_
 refine G.v (V.add rfl rfl) rfl ?_
 rw [wrapU32]
 refine G.v (V.nc rfl) rfl ?_
 refine G.v (V.fa F94_4 rfl) rfl ?_
 refine G.st (b := b1) (off := 0 + 4) (l := nodeR kpath kidx kwild knt kpr kkv khv kfull) (T := 94) (fz := (0, 0)) (v := .int .u32 (((kpr + 1) % 4294967296 : Nat) : Int)) Tryd.sizeOf89 rfl rfl rfl (.z) rfl rfl ?_
 refine G.nil ?_
 refine GC.exit rfl ?_
 refine GC.inLoop ?_
 refine GC.turn (H' := (⟨b1, true, .row (nodeR kpath kidx kwild knt (kpr + 1) kkv khv kfull) 94 (0, 0)⟩ :: (Ks ++ (Kh ++ Kk))) ++ (⟨hb, true, .row [I (num : Int)] 3 (0, 0)⟩ :: (⟨nb, true, .row (nodeR tp idx wl nt pr (.slice (some ⟨rb, 0, none⟩) 1 cap) (.slice ad2 l2 c2) f0) 94 (0, 0)⟩ :: ⟨rb, true, .row ([b1].map (Pt · 0) ++ spare) 83 (0, 0)⟩ :: (Hh ++ Hr)))) (fun w1 h1 => ?_) (go b1 _ _ _ (HT.mk (pr := kpr + 1) ks kh kk) (fun k' Hk1' hk' => ⟨_, HT.mk (kids := [k']) (bs := [b1]) hs hh (HTs.one hk'), ?_⟩) (.of rfl))
 ·have h2 : HF w D (⟨b1, true, .row (nodeR kpath kidx kwild knt (kpr + 1) kkv khv kfull) 94 (0, 0)⟩ :: (⟨nb, true, .row (nodeR tp idx wl nt pr (.slice (some ⟨rb, 0, none⟩) 1 cap) (.slice ad2 l2 c2) f0) 94 (0, 0)⟩ :: ⟨rb, true, .row ([b1].map (Pt · 0) ++ spare) 83 (0, 0)⟩ :: (Hh ++ ((Ks ++ (Kh ++ Kk)) ++ (⟨hb, true, .row [I (num : Int)] 3 (0, 0)⟩ :: Hr))))) w1 := h1
  have p1 := perm_idx [[⟨b1, true, .row (nodeR kpath kidx kwild knt (kpr + 1) kkv khv kfull) 94 (0, 0)⟩], [⟨nb, true, .row (nodeR tp idx wl nt pr (.slice (some ⟨rb, 0, none⟩) 1 cap) (.slice ad2 l2 c2) f0) 94 (0, 0)⟩, ⟨rb, true, .row ([b1].map (Pt · 0) ++ spare) 83 (0, 0)⟩], Hh, (Ks ++ (Kh ++ Kk)), [⟨hb, true, .row [I (num : Int)] 3 (0, 0)⟩], Hr] [0, 1, 2, 3, 4, 5] [0, 3, 4, 1, 2, 5] (by decide)
  exact h2.perm (by simpa using p1)
 ·have p1 := perm_idx [Hk1', [⟨nb, true, .row (nodeR tp idx wl nt pr (.slice (some ⟨rb, 0, none⟩) 1 cap) (.slice ad2 l2 c2) f0) 94 (0, 0)⟩, ⟨rb, true, .row ([b1].map (Pt · 0) ++ spare) 83 (0, 0)⟩], Hh, Hr] [0, 1, 2, 3] [1, 2, 0, 3] (by decide)
  simpa using p1
end Go.Proofs
