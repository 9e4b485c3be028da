/- The function that looks for a path, whole, as a plain machine. -/
import Derived.Test.YtnopecnbpflodaaGa
import Derived.Test.YtnopecnbpflodaaKa
/- getValue: ends. Printed by wip/mk_gg5.py. -/
set_option maxRecDepth 20000
namespace Go.Proofs
open Go Bw
open Gt
theorem HVX_none {Ht : SH} : HVX Ht none (.slice none 0 0) := .inl ⟨rfl, rfl⟩
theorem g76_retA {R : Ending → World → Prop} {w : World} {D : Nat → Prop} {vb pb prb qb srb cP cS : Nat} {un : Bool} {Ht : SH} {n : T0} {p : List UInt8} {ps : List (List UInt8 × List UInt8)} {sk : List Sk} {nb : Nat} {has : Bool} {prow srow : List Value} {Cs : SH} {fr : SF} {c : UInt8}
  (hn : Rd Ht Cs n nb) (hpr : prow.length = 2 * cP) (hprt : prow.take (2 * ps.length) = flatP ps) (_hsr : srow.length = 3 * cS) (_hsk : SkRow Ht Cs srow sk) (hhas : has = false → ps = []) (_hpl : p.length ≤ 100000) (_hpc : ps.length ≤ cP) (_hcP : cP ≤ 20000) (_hsc : sk.length ≤ cS) (_hcS : cS ≤ 20000) (hsub : Sub [(0, Pt nb 0), (1, S p), (2, Pt pb 0), (3, Pt qb 0), (4, .bool un), (10, Pt vb 0), (11, .int .i16 (ps.length : Int)), (12, S n.path), (13, .int .u8 (c.toNat : Int))] fr) (hw : n.wild = false) (hend : p = [47] ∨ sk = [])
  (fin : Fin76 R w D pb prb cP Ht ⟨none, ps, decide (p = [47]) && n.h.isSome, []⟩) :
  GC Try.prog ⟨76, Try.f76, R, w, D⟩ 703 K76n fr (⟨vb, true, .row [(.slice none 0 0), (pV pb has), .bool false, (S [])] 114 (0, 0)⟩ :: ⟨pb, true, .row [.slice (some ⟨prb, 0, none⟩) ps.length cP] 96 (0, 0)⟩ :: ⟨prb, true, .row prow 100 (0, 0)⟩ :: ⟨qb, true, .row [.slice (some ⟨srb, 0, none⟩) sk.length cS] 111 (0, 0)⟩ :: ⟨srb, true, .row srow 126 (0, 0)⟩ :: (Cs ++ Ht)) := by
 refine GC.weak hsub ?_
 clear hsub
 have hn0 := hn
 cases hn with
 | @mk path idx wild nt pr h full kids _ bs kv hv Hs hm hs hsm hbl hh hk =>
 simp only [n_path, n_wild, n_h] at *
 obtain ⟨ad, cap, rfl⟩ := hs.slice
 obtain ⟨ad2, l2, c2, rfl, hnn⟩ := hh.slice
 refine GC.seq ?_
 refine GC.seq ?_
 refine GC.reg ?_
 refine G.m1 ?_
 refine G.v (V.nc rfl) rfl ?_
 refine G.v (V.fa F107_2 rfl) rfl ?_
 refine G.v (V.ld (b := nb) (off := 0 + 2) (wf := true) (l := nodeR path idx wild nt pr (.slice ad kids.length cap) (.slice ad2 l2 c2) full) (T := 107) (fz := (0, 0)) (v := .bool wild) Try.isAgg4 rfl (m5 hm) rfl) rfl ?_
 refine G.v (V.not rfl) rfl ?_
 refine G.nil ?_
 refine GC.cond rfl (fun h139 => ?_) (fun h139 => absurd h139 (by rw [hw]; decide))
 refine GC.seq ?_
 refine GC.seq ?_
 refine GC.reg ?_
 refine G.m1 ?_
 refine G.v (V.neS rfl rfl) rfl ?_
 refine G.nil ?_
 refine GC.join (fun fr' H' => Sub [(0, Pt nb 0), (1, S p), (2, Pt pb 0), (3, Pt qb 0), (4, .bool un), (10, Pt vb 0), (11, .int .i16 (ps.length : Int)), (12, S path)] fr' ∧ H' = (⟨vb, true, .row [(.slice none 0 0), (pV pb has), .bool false, (S [])] 114 (0, 0)⟩ :: ⟨pb, true, .row [.slice (some ⟨prb, 0, none⟩) ps.length cP] 96 (0, 0)⟩ :: ⟨prb, true, .row prow 100 (0, 0)⟩ :: ⟨qb, true, .row [.slice (some ⟨srb, 0, none⟩) sk.length cS] 111 (0, 0)⟩ :: ⟨srb, true, .row srow 126 (0, 0)⟩ :: (Cs ++ Ht))) (fun J141 => ?_) ?_
 ·refine GC.cond rfl (fun h141 => ?_) (fun h141 => ?_)
  ·refine GC.seq ?_
   have hsk0 : sk = [] := by
    rcases hend with h | h
    ·rw [h] at h141; simp at h141
    ·exact h
   refine GC.reg ?_
   refine G.m1 ?_
   refine G.v (V.nc rfl) rfl ?_
   refine G.v (V.ld (b := qb) (off := 0) (wf := true) (l := [.slice (some ⟨srb, 0, none⟩) sk.length cS]) (T := 111) (fz := (0, 0)) (v := .slice (some ⟨srb, 0, none⟩) sk.length cS) Try.isAgg111 rfl (m3 (.head _)) rfl) rfl ?_
   refine G.v (V.lenL Try.underlying111 rfl) rfl ?_
   refine G.m2 ?_
   refine G.nil ?_
   refine GC.block ?_
   refine GC.loop ?_
   refine GC.seq ?_
   refine GC.seq ?_
   refine GC.reg ?_
   refine G.m1 ?_
   refine G.v (V.gt rfl rfl) rfl ?_
   refine G.nil ?_
   refine GC.condD rfl (fun h147 => absurd h147 (by rw [hsk0]; simp)) (fun h147 => ?_)
   refine GC.exit rfl ?_
   exact J141 _ _ ⟨.of rfl, rfl⟩
  refine GC.skip ?_
  exact J141 _ _ ⟨.of rfl, rfl⟩
 rintro fr' H' ⟨hs141, rfl⟩
 refine GC.weak hs141 ?_
 clear hs141
 refine GC.seq ?_
 refine GC.join (fun fr' H' => Sub [(0, Pt nb 0), (1, S p), (2, Pt pb 0), (3, Pt qb 0), (4, .bool un), (10, Pt vb 0), (11, .int .i16 (ps.length : Int)), (12, S path)] fr' ∧ H' = (⟨vb, true, .row [.slice none 0 0, pV pb has, .bool (decide (p = [47]) && h.isSome), S []] 114 (0, 0)⟩ :: ⟨pb, true, .row [.slice (some ⟨prb, 0, none⟩) ps.length cP] 96 (0, 0)⟩ :: ⟨prb, true, .row prow 100 (0, 0)⟩ :: ⟨qb, true, .row [.slice (some ⟨srb, 0, none⟩) sk.length cS] 111 (0, 0)⟩ :: ⟨srb, true, .row srow 126 (0, 0)⟩ :: (Cs ++ Ht))) (fun J30 => ?_) ?_
 ·refine GC.reg ?_
  refine G.m1 ?_
  refine G.v (V.eqS rfl rfl) rfl ?_
  refine G.m1 ?_
  refine G.bc 190 rfl (fun h190 => ?_) (fun h190 => ?_)
  ·refine G.m5 ?_
   refine G.vg rfl rfl (V.nc rfl) rfl ?_
   refine G.vg rfl rfl (V.fa F107_6 rfl) rfl ?_
   refine G.vg rfl rfl (V.ld (b := nb) (off := 0 + 6) (wf := true) (l := nodeR path idx wild nt pr (.slice ad kids.length cap) (.slice ad2 l2 c2) full) (T := 107) (fz := (0, 0)) (v := .slice ad2 l2 c2) Try.isAgg94 rfl (m5 hm) rfl) rfl ?_
   refine G.vg rfl rfl (V.neL Try.underlying94 rfl) rfl ?_
   refine G.m3 ?_
   refine G.v (V.fa F114_2 rfl) rfl ?_
   have e : (decide (p = [47]) && h.isSome) = (!ad2.isNone) := by rw [decide_eq_true (of_decide_eq_true h190), hnn, Bool.true_and, Option.not_isNone]
   refine G.st (b := vb) (off := 0 + 2) (l := [.slice none 0 0, pV pb has, .bool false, S []]) (T := 114) (fz := (0, 0)) (v := .bool (!ad2.isNone)) Try.sizeOf4 rfl rfl rfl .z rfl rfl ?_
   refine G.nil ?_
   refine J30 _ _ ⟨.of rfl, ?_⟩
   rw [e]
   rfl
  ·refine G.s1 ?_
   refine G.s1 ?_
   refine G.s1 ?_
   refine G.s1 ?_
   refine G.s1 ?_
   refine G.m4 ?_
   refine G.v (V.fa F114_2 rfl) rfl ?_
   have e : (decide (p = [47]) && h.isSome) = false := by rw [decide_eq_false (of_decide_eq_false h190)]; rfl
   refine G.st (b := vb) (off := 0 + 2) (l := [.slice none 0 0, pV pb has, .bool false, S []]) (T := 114) (fz := (0, 0)) (v := .bool (false)) Try.sizeOf4 rfl rfl rfl .z rfl rfl ?_
   refine G.nil ?_
   refine J30 _ _ ⟨.of rfl, ?_⟩
   rw [e]
   rfl
 rintro fr' H' ⟨hs30, rfl⟩
 refine GC.weak hs30 ?_
 clear hs30
 refine GC.seq ?_
 refine GC.reg ?_
 refine G.v (V.ldA (b := vb) (off := 0) (s := 4) (wf := true) (l := [.slice none 0 0, pV pb has, .bool (decide (p = [47]) && h.isSome), S []]) (T := 114) (fz := (0, 0)) (cs := [.slice none 0 0, pV pb has, .bool (decide (p = [47]) && h.isSome), S []]) Try.isAgg114 Try.sizeOf114 rfl (.head _) rfl rfl) rfl ?_
 refine G.stA (cs := [.slice none 0 0, pV pb has, .bool (decide (p = [47]) && h.isSome), S []]) Try.sizeOf114 rfl rfl (by intro v hv; simp only [List.mem_cons, List.not_mem_nil, or_false] at hv; rcases hv with rfl | rfl | rfl | rfl <;> first | rfl | exact pV_one _ _) .z rfl ?_
 refine G.nil ?_
 refine GC.retC (cs := [.slice none 0 0, pV pb has, .bool (decide (p = [47]) && h.isSome), S []]) rfl Try.isAgg114 Try.sizeOf114 rfl (.head _) rfl fun w' hw' => fin has prow (.slice none 0 0) w' hpr hprt hhas (HVX_none) (hw'.sub (.cons _ (.cons_cons _ (.cons_cons _ (.cons _ (.cons _ (List.sublist_append_right _ _)))))))
theorem g76_retE {R : Ending → World → Prop} {w : World} {D : Nat → Prop} {vb pb prb qb srb cP cS : Nat} {un : Bool} {Ht : SH} {n : T0} {p : List UInt8} {ps : List (List UInt8 × List UInt8)} {sk : List Sk} {nb : Nat} {has : Bool} {prow srow : List Value} {Cs : SH} {fr : SF} {_c : UInt8}
  (hn : Rd Ht Cs n nb) (hpr : prow.length = 2 * cP) (hprt : prow.take (2 * ps.length) = flatP ps) (_hsr : srow.length = 3 * cS) (_hsk : SkRow Ht Cs srow sk) (hhas : has = false → ps = []) (_hpl : p.length ≤ 100000) (_hpc : ps.length ≤ cP) (_hcP : cP ≤ 20000) (_hsc : sk.length ≤ cS) (_hcS : cS ≤ 20000) (hsub : Sub [(0, Pt nb 0), (1, S p), (2, Pt pb 0), (3, Pt qb 0), (4, .bool un), (10, Pt vb 0), (11, .int .i16 (ps.length : Int)), (12, S n.path)] fr) (hh1 : n.h.isSome = true)
  (fin : Fin76 R w D pb prb cP Ht ⟨n.h, ps, false, n.full⟩) :
  GC Try.prog ⟨76, Try.f76, R, w, D⟩ 703 K76e fr (⟨vb, true, .row [(.slice none 0 0), (pV pb has), .bool false, (S [])] 114 (0, 0)⟩ :: ⟨pb, true, .row [.slice (some ⟨prb, 0, none⟩) ps.length cP] 96 (0, 0)⟩ :: ⟨prb, true, .row prow 100 (0, 0)⟩ :: ⟨qb, true, .row [.slice (some ⟨srb, 0, none⟩) sk.length cS] 111 (0, 0)⟩ :: ⟨srb, true, .row srow 126 (0, 0)⟩ :: (Cs ++ Ht)) := by
 refine GC.weak hsub ?_
 clear hsub
 have hn0 := hn
 cases hn with
 | @mk path idx wild nt pr h full kids _ bs kv hv Hs hm hs hsm hbl hh hk =>
 simp only [n_path, n_h] at *
 obtain ⟨ad, cap, rfl⟩ := hs.slice
 obtain ⟨ad2, l2, c2, rfl, hnn⟩ := hh.slice
 obtain ⟨ad3, rfl⟩ : ∃ a, ad2 = some a := by cases ad2 with | none => rw [← Option.not_isNone, ← hnn] at hh1; cases hh1 | some a => exact ⟨a, rfl⟩
 refine GC.seq ?_
 refine GC.seq ?_
 refine GC.reg ?_
 refine G.m1 ?_
 refine G.v (V.nc rfl) rfl ?_
 refine G.v (V.fa F107_6 rfl) rfl ?_
 refine G.v (V.ld (b := nb) (off := 0 + 6) (wf := true) (l := nodeR path idx wild nt pr (.slice ad kids.length cap) (.slice (some ad3) l2 c2) full) (T := 107) (fz := (0, 0)) (v := (.slice (some ad3) l2 c2)) Try.isAgg94 rfl (m5 hm) rfl) rfl ?_
 refine G.v (V.eqL Try.underlying94 rfl) rfl ?_
 refine G.m1 ?_
 refine G.bc 467 rfl (fun h467 => ?_) (fun h467 => ?_)
 ·exact absurd h467 (by simp)
 ·refine G.s1 ?_
  refine G.s1 ?_
  refine G.m4 ?_
  refine G.nil ?_
  refine GC.condF rfl ?_
  refine GC.skip ?_
  refine GC.seq ?_
  refine GC.seq ?_
  refine GC.reg ?_
  refine G.m1 ?_
  refine G.v (V.nc rfl) rfl ?_
  refine G.v (V.fa F107_6 rfl) rfl ?_
  refine G.v (V.ld (b := nb) (off := 0 + 6) (wf := true) (l := nodeR path idx wild nt pr (.slice ad kids.length cap) (.slice (some ad3) l2 c2) full) (T := 107) (fz := (0, 0)) (v := .slice (some ad3) l2 c2) Try.isAgg94 rfl (m5 hm) rfl) rfl ?_
  refine G.v (V.fa F114_0 rfl) rfl ?_
  refine G.st (b := vb) (off := 0 + 0) (l := [.slice none 0 0, pV pb has, .bool false, S []]) (T := 114) (fz := (0, 0)) (v := .slice (some ad3) l2 c2) Try.sizeOf94 rfl rfl rfl .z rfl rfl ?_
  refine G.nil ?_
  refine GC.turn (H' := (⟨vb, true, .row [.slice (some ad3) l2 c2, pV pb has, .bool false, S []] 114 (0, 0)⟩ :: ⟨pb, true, .row [.slice (some ⟨prb, 0, none⟩) ps.length cP] 96 (0, 0)⟩ :: ⟨prb, true, .row prow 100 (0, 0)⟩ :: ⟨qb, true, .row [.slice (some ⟨srb, 0, none⟩) sk.length cS] 111 (0, 0)⟩ :: ⟨srb, true, .row srow 126 (0, 0)⟩ :: (Cs ++ Ht))) (fun w1 h1 => h1) ?_
  refine GC.seq ?_
  refine GC.reg ?_
  refine G.v (V.fa F114_0 rfl) rfl ?_
  refine G.v (V.ld (b := vb) (off := 0 + 0) (wf := true) (l := [.slice (some ad3) l2 c2, pV pb has, .bool false, S []]) (T := 114) (fz := (0, 0)) (v := .slice (some ad3) l2 c2) Try.isAgg94 rfl (.head _) rfl) rfl ?_
  refine G.v (V.neL Try.underlying94 rfl) rfl ?_
  refine G.nil ?_
  refine GC.cond rfl (fun h524 => ?_) (fun h524 => absurd h524 (by simp))
  refine GC.seq ?_
  refine GC.reg ?_
  refine G.m1 ?_
  refine G.v (V.nc rfl) rfl ?_
  refine G.v (V.fa F107_7 rfl) rfl ?_
  refine G.v (V.ld (b := nb) (off := 0 + 7) (wf := true) (l := nodeR path idx wild nt pr (.slice ad kids.length cap) (.slice (some ad3) l2 c2) full) (T := 107) (fz := (0, 0)) (v := S full) Try.isAgg9 rfl (m5 hm) rfl) rfl ?_
  refine G.v (V.fa F114_3 rfl) rfl ?_
  refine G.st (b := vb) (off := 0 + 3) (l := [.slice (some ad3) l2 c2, pV pb has, .bool false, S []]) (T := 114) (fz := (0, 0)) (v := S full) Try.sizeOf9 rfl rfl rfl .z rfl rfl ?_
  refine G.nil ?_
  refine GC.turn (H' := (⟨vb, true, .row [.slice (some ad3) l2 c2, pV pb has, .bool false, S full] 114 (0, 0)⟩ :: ⟨pb, true, .row [.slice (some ⟨prb, 0, none⟩) ps.length cP] 96 (0, 0)⟩ :: ⟨prb, true, .row prow 100 (0, 0)⟩ :: ⟨qb, true, .row [.slice (some ⟨srb, 0, none⟩) sk.length cS] 111 (0, 0)⟩ :: ⟨srb, true, .row srow 126 (0, 0)⟩ :: (Cs ++ Ht))) (fun w1 h1 => h1) ?_
  refine GC.seq ?_
  refine GC.reg ?_
  refine G.v (V.ldA (b := vb) (off := 0) (s := 4) (wf := true) (l := [.slice (some ad3) l2 c2, pV pb has, .bool false, S full]) (T := 114) (fz := (0, 0)) (cs := [.slice (some ad3) l2 c2, pV pb has, .bool false, S full]) Try.isAgg114 Try.sizeOf114 rfl (.head _) rfl rfl) rfl ?_
  refine G.stA (cs := [.slice (some ad3) l2 c2, pV pb has, .bool false, S full]) Try.sizeOf114 rfl rfl (by intro v hv; simp only [List.mem_cons, List.not_mem_nil, or_false] at hv; rcases hv with rfl | rfl | rfl | rfl <;> first | rfl | exact pV_one _ _) .z rfl ?_
  refine G.nil ?_
  refine GC.retC (cs := [.slice (some ad3) l2 c2, pV pb has, .bool false, S full]) rfl Try.isAgg114 Try.sizeOf114 rfl (.head _) rfl fun w' hw' => fin has prow (.slice (some ad3) l2 c2) w' hpr hprt hhas (hh) (hw'.sub (.cons _ (.cons_cons _ (.cons_cons _ (.cons _ (.cons _ (List.sublist_append_right _ _)))))))
/-- .. no handler is there -/
noncomputable def K76f : List Item := mid7 (mid7 K76e)
theorem g76_eqnone {R : Ending → World → Prop} {w : World} {D : Nat → Prop} {vb pb prb qb srb cP cS : Nat} {un : Bool} {Ht : SH} {n : T0} {p : List UInt8} {ps : List (List UInt8 × List UInt8)} {sk : List Sk} {nb : Nat} {has : Bool} {prow srow : List Value} {Cs : SH} {fr : SF} {_c : UInt8}
  (hn : Rd Ht Cs n nb) (_hpr : prow.length = 2 * cP) (_hprt : prow.take (2 * ps.length) = flatP ps) (_hsr : srow.length = 3 * cS) (_hsk : SkRow Ht Cs srow sk) (_hhas : has = false → ps = []) (_hpl : p.length ≤ 100000) (_hpc : ps.length ≤ cP) (_hcP : cP ≤ 20000) (_hsc : sk.length ≤ cS) (_hcS : cS ≤ 20000) (hsub : Sub [(0, Pt nb 0), (1, S p), (2, Pt pb 0), (3, Pt qb 0), (4, .bool un), (10, Pt vb 0), (11, .int .i16 (ps.length : Int)), (12, S n.path)] fr) (hh1 : n.h = none) (hend : p = [47] ∨ sk = [])
  (go : ∀ fr', Sub [(0, Pt nb 0), (1, S p), (2, Pt pb 0), (3, Pt qb 0), (4, .bool un), (10, Pt vb 0), (11, .int .i16 (ps.length : Int)), (12, S n.path)] fr' → GC Try.prog ⟨76, Try.f76, R, w, D⟩ 703 K76f fr' (⟨vb, true, .row [(.slice none 0 0), (pV pb has), .bool false, (S [])] 114 (0, 0)⟩ :: ⟨pb, true, .row [.slice (some ⟨prb, 0, none⟩) ps.length cP] 96 (0, 0)⟩ :: ⟨prb, true, .row prow 100 (0, 0)⟩ :: ⟨qb, true, .row [.slice (some ⟨srb, 0, none⟩) sk.length cS] 111 (0, 0)⟩ :: ⟨srb, true, .row srow 126 (0, 0)⟩ :: (Cs ++ Ht))) :
  GC Try.prog ⟨76, Try.f76, R, w, D⟩ 703 K76e fr (⟨vb, true, .row [(.slice none 0 0), (pV pb has), .bool false, (S [])] 114 (0, 0)⟩ :: ⟨pb, true, .row [.slice (some ⟨prb, 0, none⟩) ps.length cP] 96 (0, 0)⟩ :: ⟨prb, true, .row prow 100 (0, 0)⟩ :: ⟨qb, true, .row [.slice (some ⟨srb, 0, none⟩) sk.length cS] 111 (0, 0)⟩ :: ⟨srb, true, .row srow 126 (0, 0)⟩ :: (Cs ++ Ht)) := by
 refine GC.weak hsub ?_
 clear hsub
 have hn0 := hn
 cases hn with
 | @mk path idx wild nt pr h full kids _ bs kv hv Hs hm hs hsm hbl hh hk =>
 simp only [n_path, n_h] at *
 obtain ⟨ad, cap, rfl⟩ := hs.slice
 obtain ⟨ad2, l2, c2, rfl, hnn⟩ := hh.slice
 have hv0 : (Value.slice ad2 l2 c2) = .slice none 0 0 := by
  rcases hh with ⟨_, h2⟩ | ⟨k, hb, h2, _⟩
  ·exact h2
  ·rw [hh1] at h2; cases h2
 cases hv0
 refine GC.seq ?_
 refine GC.seq ?_
 refine GC.join (fun fr' H' => Sub [(0, Pt nb 0), (1, S p), (2, Pt pb 0), (3, Pt qb 0), (4, .bool un), (10, Pt vb 0), (11, .int .i16 (ps.length : Int)), (12, S path), (470, .bool (!decide (p = [47])))] fr' ∧ H' = (⟨vb, true, .row [(.slice none 0 0), (pV pb has), .bool false, (S [])] 114 (0, 0)⟩ :: ⟨pb, true, .row [.slice (some ⟨prb, 0, none⟩) ps.length cP] 96 (0, 0)⟩ :: ⟨prb, true, .row prow 100 (0, 0)⟩ :: ⟨qb, true, .row [.slice (some ⟨srb, 0, none⟩) sk.length cS] 111 (0, 0)⟩ :: ⟨srb, true, .row srow 126 (0, 0)⟩ :: (Cs ++ Ht))) (fun J89 => ?_) ?_
 ·refine GC.reg ?_
  refine G.m1 ?_
  refine G.v (V.nc rfl) rfl ?_
  refine G.v (V.fa F107_6 rfl) rfl ?_
  refine G.v (V.ld (b := nb) (off := 0 + 6) (wf := true) (l := nodeR path idx wild nt pr (.slice ad kids.length cap) (.slice none 0 0) full) (T := 107) (fz := (0, 0)) (v := (.slice none 0 0)) Try.isAgg94 rfl (m5 hm) rfl) rfl ?_
  refine G.v (V.eqL Try.underlying94 rfl) rfl ?_
  refine G.m1 ?_
  refine G.bc 467 rfl (fun h467 => ?_) (fun h467 => ?_)
  ·refine G.m5 ?_
   refine G.vg rfl rfl (V.neS rfl rfl) rfl ?_
   refine G.m3 ?_
   refine G.nil ?_
   exact J89 _ _ ⟨.of rfl, rfl⟩
  ·refine G.s1 ?_
   refine G.s1 ?_
   refine G.m4 ?_
   refine G.nil ?_
   exact absurd h467 (by decide)
 rintro fr' H' ⟨hs89, rfl⟩
 refine GC.weak hs89 ?_
 clear hs89
 refine GC.join (fun fr' H' => Sub [(0, Pt nb 0), (1, S p), (2, Pt pb 0), (3, Pt qb 0), (4, .bool un), (10, Pt vb 0), (11, .int .i16 (ps.length : Int)), (12, S path)] fr' ∧ H' = (⟨vb, true, .row [(.slice none 0 0), (pV pb has), .bool false, (S [])] 114 (0, 0)⟩ :: ⟨pb, true, .row [.slice (some ⟨prb, 0, none⟩) ps.length cP] 96 (0, 0)⟩ :: ⟨prb, true, .row prow 100 (0, 0)⟩ :: ⟨qb, true, .row [.slice (some ⟨srb, 0, none⟩) sk.length cS] 111 (0, 0)⟩ :: ⟨srb, true, .row srow 126 (0, 0)⟩ :: (Cs ++ Ht))) (fun J470 => ?_) ?_
 ·refine GC.cond rfl (fun h470 => ?_) (fun h470 => ?_)
  ·refine GC.seq ?_
   have hsk0 : sk = [] := by
    rcases hend with h | h
    ·rw [h] at h470; simp at h470
    ·exact h
   refine GC.reg ?_
   refine G.m1 ?_
   refine G.v (V.nc rfl) rfl ?_
   refine G.v (V.ld (b := qb) (off := 0) (wf := true) (l := [.slice (some ⟨srb, 0, none⟩) sk.length cS]) (T := 111) (fz := (0, 0)) (v := .slice (some ⟨srb, 0, none⟩) sk.length cS) Try.isAgg111 rfl (m3 (.head _)) rfl) rfl ?_
   refine G.v (V.lenL Try.underlying111 rfl) rfl ?_
   refine G.m2 ?_
   refine G.nil ?_
   refine GC.block ?_
   refine GC.loop ?_
   refine GC.seq ?_
   refine GC.seq ?_
   refine GC.reg ?_
   refine G.m1 ?_
   refine G.v (V.gt rfl rfl) rfl ?_
   refine G.nil ?_
   refine GC.condD rfl (fun h476 => absurd h476 (by rw [hsk0]; simp)) (fun h476 => ?_)
   refine GC.exit rfl ?_
   exact J470 _ _ ⟨.of rfl, rfl⟩
  refine GC.skip ?_
  exact J470 _ _ ⟨.of rfl, rfl⟩
 rintro fr' H' ⟨hs470, rfl⟩
 refine GC.weak hs470 ?_
 clear hs470
 refine GC.seq ?_
 refine GC.seq ?_
 refine GC.reg ?_
 refine G.m1 ?_
 refine G.v (V.nc rfl) rfl ?_
 refine G.v (V.fa F107_6 rfl) rfl ?_
 refine G.v (V.ld (b := nb) (off := 0 + 6) (wf := true) (l := nodeR path idx wild nt pr (.slice ad kids.length cap) (.slice none 0 0) full) (T := 107) (fz := (0, 0)) (v := .slice none 0 0) Try.isAgg94 rfl (m5 hm) rfl) rfl ?_
 refine G.v (V.fa F114_0 rfl) rfl ?_
 refine G.st (b := vb) (off := 0 + 0) (l := [.slice none 0 0, pV pb has, .bool false, S []]) (T := 114) (fz := (0, 0)) (v := .slice none 0 0) Try.sizeOf94 rfl rfl rfl .z rfl rfl ?_
 refine G.nil ?_
 refine GC.turn (H' := (⟨vb, true, .row [(.slice none 0 0), (pV pb has), .bool false, (S [])] 114 (0, 0)⟩ :: ⟨pb, true, .row [.slice (some ⟨prb, 0, none⟩) ps.length cP] 96 (0, 0)⟩ :: ⟨prb, true, .row prow 100 (0, 0)⟩ :: ⟨qb, true, .row [.slice (some ⟨srb, 0, none⟩) sk.length cS] 111 (0, 0)⟩ :: ⟨srb, true, .row srow 126 (0, 0)⟩ :: (Cs ++ Ht))) (fun w1 h1 => h1) ?_
 refine GC.seq ?_
 refine GC.reg ?_
 refine G.v (V.fa F114_0 rfl) rfl ?_
 refine G.v (V.ld (b := vb) (off := 0 + 0) (wf := true) (l := [.slice none 0 0, pV pb has, .bool false, S []]) (T := 114) (fz := (0, 0)) (v := .slice none 0 0) Try.isAgg94 rfl (.head _) rfl) rfl ?_
 refine G.v (V.neL Try.underlying94 rfl) rfl ?_
 refine G.nil ?_
 refine GC.cond rfl (fun h524 => absurd h524 (by simp)) (fun h524 => ?_)
 refine GC.skip ?_
 exact go _ (.of rfl)
theorem g76_ret105 {R : Ending → World → Prop} {w : World} {D : Nat → Prop} {vb pb prb qb srb cP cS : Nat} {un : Bool} {Ht : SH} {n : T0} {p : List UInt8} {ps : List (List UInt8 × List UInt8)} {sk : List Sk} {nb : Nat} {has : Bool} {prow srow : List Value} {Cs : SH} {fr : SF} {_c : UInt8}
  (hn : Rd Ht Cs n nb) (hpr : prow.length = 2 * cP) (hprt : prow.take (2 * ps.length) = flatP ps) (_hsr : srow.length = 3 * cS) (_hsk : SkRow Ht Cs srow sk) (hhas : has = false → ps = []) (_hpl : p.length ≤ 100000) (_hpc : ps.length ≤ cP) (_hcP : cP ≤ 20000) (_hsc : sk.length ≤ cS) (_hcS : cS ≤ 20000) (hsub : Sub [(0, Pt nb 0), (1, S p), (2, Pt pb 0), (3, Pt qb 0), (4, .bool un), (10, Pt vb 0), (11, .int .i16 (ps.length : Int)), (12, S n.path)] fr) (hcd : p = [47] ∧ n.wild = true ∧ n.nt ≠ 1)
  (fin : Fin76 R w D pb prb cP Ht ⟨none, ps, true, []⟩) :
  GC Try.prog ⟨76, Try.f76, R, w, D⟩ 703 K76f fr (⟨vb, true, .row [(.slice none 0 0), (pV pb has), .bool false, (S [])] 114 (0, 0)⟩ :: ⟨pb, true, .row [.slice (some ⟨prb, 0, none⟩) ps.length cP] 96 (0, 0)⟩ :: ⟨prb, true, .row prow 100 (0, 0)⟩ :: ⟨qb, true, .row [.slice (some ⟨srb, 0, none⟩) sk.length cS] 111 (0, 0)⟩ :: ⟨srb, true, .row srow 126 (0, 0)⟩ :: (Cs ++ Ht)) := by
 refine GC.weak hsub ?_
 clear hsub
 have hn0 := hn
 cases hn with
 | @mk path idx wild nt pr h full kids _ bs kv hv Hs hm hs hsm hbl hh hk =>
 simp only [n_path, n_wild, n_nt] at *
 obtain ⟨ad, cap, rfl⟩ := hs.slice
 obtain ⟨ad2, l2, c2, rfl, hnn⟩ := hh.slice
 refine GC.seq ?_
 refine GC.seq ?_
 refine GC.join (fun fr' H' => Sub [(0, Pt nb 0), (1, S p), (2, Pt pb 0), (3, Pt qb 0), (4, .bool un), (10, Pt vb 0), (11, .int .i16 (ps.length : Int)), (12, S path), (545, .bool true)] fr' ∧ H' = (⟨vb, true, .row [(.slice none 0 0), (pV pb has), .bool false, (S [])] 114 (0, 0)⟩ :: ⟨pb, true, .row [.slice (some ⟨prb, 0, none⟩) ps.length cP] 96 (0, 0)⟩ :: ⟨prb, true, .row prow 100 (0, 0)⟩ :: ⟨qb, true, .row [.slice (some ⟨srb, 0, none⟩) sk.length cS] 111 (0, 0)⟩ :: ⟨srb, true, .row srow 126 (0, 0)⟩ :: (Cs ++ Ht))) (fun J105 => ?_) ?_
 ·refine GC.reg ?_
  refine G.m1 ?_
  refine G.v (V.eqS rfl rfl) rfl ?_
  refine G.m1 ?_
  refine G.bc 533 rfl (fun h533 => ?_) (fun h533 => ?_)
  ·refine G.m5 ?_
   refine G.vg rfl rfl (V.nc rfl) rfl ?_
   refine G.vg rfl rfl (V.fa F107_2 rfl) rfl ?_
   refine G.vg rfl rfl (V.ld (b := nb) (off := 0 + 2) (wf := true) (l := nodeR path idx wild nt pr (.slice ad kids.length cap) (.slice ad2 l2 c2) full) (T := 107) (fz := (0, 0)) (v := .bool wild) Try.isAgg4 rfl (m5 hm) rfl) rfl ?_
   refine G.m3 ?_
   refine G.m1 ?_
   refine G.bc 539 rfl (fun h539 => ?_) (fun h539 => ?_)
   ·refine G.m5 ?_
    refine G.vg rfl rfl (V.nc rfl) rfl ?_
    refine G.vg rfl rfl (V.fa F107_3 rfl) rfl ?_
    refine G.vg rfl rfl (V.ld (b := nb) (off := 0 + 3) (wf := true) (l := nodeR path idx wild nt pr (.slice ad kids.length cap) (.slice ad2 l2 c2) full) (T := 107) (fz := (0, 0)) (v := .int .u8 (nt : Int)) Try.isAgg103 rfl (m5 hm) rfl) rfl ?_
    refine G.vg rfl rfl (V.neI rfl rfl) rfl ?_
    refine G.m3 ?_
    refine G.nil ?_
    refine J105 _ _ ⟨?_, rfl⟩
    have e : (!decide ((nt : Int) = 1)) = true := by have := hcd.2.2; simp; omega
    rw [e]
    exact .of rfl
   ·refine G.s1 ?_
    refine G.s1 ?_
    refine G.s1 ?_
    refine G.s1 ?_
    refine G.s1 ?_
    refine G.m4 ?_
    refine G.nil ?_
    exact absurd h539 (by rw [hcd.2.1]; decide)
  ·refine G.s1 ?_
   refine G.s1 ?_
   refine G.s1 ?_
   refine G.s1 ?_
   refine G.m4 ?_
   refine G.m1 ?_
   refine G.s1 ?_
   refine G.s1 ?_
   refine G.s1 ?_
   refine G.s1 ?_
   refine G.s1 ?_
   refine G.m4 ?_
   refine G.nil ?_
   exact absurd hcd.1 (of_decide_eq_false h533)
 rintro fr' H' ⟨hs105, rfl⟩
 refine GC.weak hs105 ?_
 clear hs105
 refine GC.condT rfl ?_
 refine GC.seq ?_
 refine GC.reg ?_
 refine G.v (V.fa F114_2 rfl) rfl ?_
 refine G.st (b := vb) (off := 0 + 2) (l := [.slice none 0 0, pV pb has, .bool false, S []]) (T := 114) (fz := (0, 0)) (v := .bool true) Try.sizeOf4 rfl rfl rfl .z rfl rfl ?_
 refine G.nil ?_
 refine GC.turn (H' := (⟨vb, true, .row [.slice none 0 0, pV pb has, .bool true, S []] 114 (0, 0)⟩ :: ⟨pb, true, .row [.slice (some ⟨prb, 0, none⟩) ps.length cP] 96 (0, 0)⟩ :: ⟨prb, true, .row prow 100 (0, 0)⟩ :: ⟨qb, true, .row [.slice (some ⟨srb, 0, none⟩) sk.length cS] 111 (0, 0)⟩ :: ⟨srb, true, .row srow 126 (0, 0)⟩ :: (Cs ++ Ht))) (fun w1 h1 => h1) ?_
 refine GC.seq ?_
 refine GC.reg ?_
 refine G.v (V.ldA (b := vb) (off := 0) (s := 4) (wf := true) (l := [.slice none 0 0, pV pb has, .bool true, S []]) (T := 114) (fz := (0, 0)) (cs := [.slice none 0 0, pV pb has, .bool true, S []]) Try.isAgg114 Try.sizeOf114 rfl (.head _) rfl rfl) rfl ?_
 refine G.stA (cs := [.slice none 0 0, pV pb has, .bool true, S []]) Try.sizeOf114 rfl rfl (by intro v hv; simp only [List.mem_cons, List.not_mem_nil, or_false] at hv; rcases hv with rfl | rfl | rfl | rfl <;> first | rfl | exact pV_one _ _) .z rfl ?_
 refine G.nil ?_
 refine GC.retC (cs := [.slice none 0 0, pV pb has, .bool true, S []]) rfl Try.isAgg114 Try.sizeOf114 rfl (.head _) rfl fun w' hw' => fin has prow (.slice none 0 0) w' hpr hprt hhas (HVX_none) (hw'.sub (.cons _ (.cons_cons _ (.cons_cons _ (.cons _ (.cons _ (List.sublist_append_right _ _)))))))
theorem g76_ret108 {R : Ending → World → Prop} {w : World} {D : Nat → Prop} {vb pb prb qb srb cP cS : Nat} {un : Bool} {Ht : SH} {n : T0} {p : List UInt8} {ps : List (List UInt8 × List UInt8)} {sk : List Sk} {nb : Nat} {has : Bool} {prow srow : List Value} {Cs : SH} {fr : SF} {_c : UInt8}
  (hn : Rd Ht Cs n nb) (hpr : prow.length = 2 * cP) (hprt : prow.take (2 * ps.length) = flatP ps) (_hsr : srow.length = 3 * cS) (_hsk : SkRow Ht Cs srow sk) (hhas : has = false → ps = []) (_hpl : p.length ≤ 100000) (_hpc : ps.length ≤ cP) (_hcP : cP ≤ 20000) (_hsc : sk.length ≤ cS) (_hcS : cS ≤ 20000) (hsub : Sub [(0, Pt nb 0), (1, S p), (2, Pt pb 0), (3, Pt qb 0), (4, .bool un), (10, Pt vb 0), (11, .int .i16 (ps.length : Int)), (12, S n.path)] fr) (hcd : ¬ (p = [47] ∧ n.wild = true ∧ n.nt ≠ 1)) (hce : p = [47] ∧ n.nt = 0)
  (fin : Fin76 R w D pb prb cP Ht ⟨none, ps, true, []⟩) :
  GC Try.prog ⟨76, Try.f76, R, w, D⟩ 703 K76f fr (⟨vb, true, .row [(.slice none 0 0), (pV pb has), .bool false, (S [])] 114 (0, 0)⟩ :: ⟨pb, true, .row [.slice (some ⟨prb, 0, none⟩) ps.length cP] 96 (0, 0)⟩ :: ⟨prb, true, .row prow 100 (0, 0)⟩ :: ⟨qb, true, .row [.slice (some ⟨srb, 0, none⟩) sk.length cS] 111 (0, 0)⟩ :: ⟨srb, true, .row srow 126 (0, 0)⟩ :: (Cs ++ Ht)) := by
 refine GC.weak hsub ?_
 clear hsub
 have hn0 := hn
 cases hn with
 | @mk path idx wild nt pr h full kids _ bs kv hv Hs hm hs hsm hbl hh hk =>
 simp only [n_path, n_wild, n_nt] at *
 obtain ⟨ad, cap, rfl⟩ := hs.slice
 obtain ⟨ad2, l2, c2, rfl, hnn⟩ := hh.slice
 refine GC.seq ?_
 refine GC.seq ?_
 refine GC.join (fun fr' H' => Sub [(0, Pt nb 0), (1, S p), (2, Pt pb 0), (3, Pt qb 0), (4, .bool un), (10, Pt vb 0), (11, .int .i16 (ps.length : Int)), (12, S path), (545, .bool false)] fr' ∧ H' = (⟨vb, true, .row [(.slice none 0 0), (pV pb has), .bool false, (S [])] 114 (0, 0)⟩ :: ⟨pb, true, .row [.slice (some ⟨prb, 0, none⟩) ps.length cP] 96 (0, 0)⟩ :: ⟨prb, true, .row prow 100 (0, 0)⟩ :: ⟨qb, true, .row [.slice (some ⟨srb, 0, none⟩) sk.length cS] 111 (0, 0)⟩ :: ⟨srb, true, .row srow 126 (0, 0)⟩ :: (Cs ++ Ht))) (fun J105 => ?_) ?_
 ·refine GC.reg ?_
  refine G.m1 ?_
  refine G.v (V.eqS rfl rfl) rfl ?_
  refine G.m1 ?_
  refine G.bc 533 rfl (fun h533 => ?_) (fun h533 => ?_)
  ·refine G.m5 ?_
   refine G.vg rfl rfl (V.nc rfl) rfl ?_
   refine G.vg rfl rfl (V.fa F107_2 rfl) rfl ?_
   refine G.vg rfl rfl (V.ld (b := nb) (off := 0 + 2) (wf := true) (l := nodeR path idx wild nt pr (.slice ad kids.length cap) (.slice ad2 l2 c2) full) (T := 107) (fz := (0, 0)) (v := .bool wild) Try.isAgg4 rfl (m5 hm) rfl) rfl ?_
   refine G.m3 ?_
   refine G.m1 ?_
   refine G.bc 539 rfl (fun h539 => ?_) (fun h539 => ?_)
   ·refine G.m5 ?_
    refine G.vg rfl rfl (V.nc rfl) rfl ?_
    refine G.vg rfl rfl (V.fa F107_3 rfl) rfl ?_
    refine G.vg rfl rfl (V.ld (b := nb) (off := 0 + 3) (wf := true) (l := nodeR path idx wild nt pr (.slice ad kids.length cap) (.slice ad2 l2 c2) full) (T := 107) (fz := (0, 0)) (v := .int .u8 (nt : Int)) Try.isAgg103 rfl (m5 hm) rfl) rfl ?_
    refine G.vg rfl rfl (V.neI rfl rfl) rfl ?_
    refine G.m3 ?_
    refine G.nil ?_
    refine J105 _ _ ⟨?_, rfl⟩
    have e : (!decide ((nt : Int) = 1)) = false := by
     have : nt = 1 := Classical.byContradiction fun e => hcd ⟨of_decide_eq_true h533, h539, e⟩
     subst this; rfl
    rw [e]
    exact .of rfl
   ·refine G.s1 ?_
    refine G.s1 ?_
    refine G.s1 ?_
    refine G.s1 ?_
    refine G.s1 ?_
    refine G.m4 ?_
    refine G.nil ?_
    refine J105 _ _ ⟨?_, rfl⟩
    exact .of rfl
  ·refine G.s1 ?_
   refine G.s1 ?_
   refine G.s1 ?_
   refine G.s1 ?_
   refine G.m4 ?_
   refine G.m1 ?_
   refine G.s1 ?_
   refine G.s1 ?_
   refine G.s1 ?_
   refine G.s1 ?_
   refine G.s1 ?_
   refine G.m4 ?_
   refine G.nil ?_
   refine J105 _ _ ⟨?_, rfl⟩
   exact .of rfl
 rintro fr' H' ⟨hs105, rfl⟩
 refine GC.weak hs105 ?_
 clear hs105
 refine GC.condF rfl ?_
 refine GC.skip ?_
 refine GC.seq ?_
 refine GC.seq ?_
 refine GC.join (fun fr' H' => Sub [(0, Pt nb 0), (1, S p), (2, Pt pb 0), (3, Pt qb 0), (4, .bool un), (10, Pt vb 0), (11, .int .i16 (ps.length : Int)), (12, S path), (556, .bool true)] fr' ∧ H' = (⟨vb, true, .row [(.slice none 0 0), (pV pb has), .bool false, (S [])] 114 (0, 0)⟩ :: ⟨pb, true, .row [.slice (some ⟨prb, 0, none⟩) ps.length cP] 96 (0, 0)⟩ :: ⟨prb, true, .row prow 100 (0, 0)⟩ :: ⟨qb, true, .row [.slice (some ⟨srb, 0, none⟩) sk.length cS] 111 (0, 0)⟩ :: ⟨srb, true, .row srow 126 (0, 0)⟩ :: (Cs ++ Ht))) (fun J108 => ?_) ?_
 ·refine GC.reg ?_
  refine G.m1 ?_
  refine G.v (V.eqS rfl rfl) rfl ?_
  refine G.m1 ?_
  refine G.bc 550 rfl (fun h550 => ?_) (fun h550 => ?_)
  ·refine G.m5 ?_
   refine G.vg rfl rfl (V.nc rfl) rfl ?_
   refine G.vg rfl rfl (V.fa F107_3 rfl) rfl ?_
   refine G.vg rfl rfl (V.ld (b := nb) (off := 0 + 3) (wf := true) (l := nodeR path idx wild nt pr (.slice ad kids.length cap) (.slice ad2 l2 c2) full) (T := 107) (fz := (0, 0)) (v := .int .u8 (nt : Int)) Try.isAgg103 rfl (m5 hm) rfl) rfl ?_
   refine G.vg rfl rfl (V.eqI rfl rfl) rfl ?_
   refine G.m3 ?_
   refine G.nil ?_
   refine J108 _ _ ⟨?_, rfl⟩
   have e : decide ((nt : Int) = 0) = true := by have := hce.2; simp; omega
   rw [e]
   exact .of rfl
  ·refine G.s1 ?_
   refine G.s1 ?_
   refine G.s1 ?_
   refine G.s1 ?_
   refine G.s1 ?_
   refine G.m4 ?_
   refine G.nil ?_
   exact absurd hce.1 (of_decide_eq_false h550)
 rintro fr' H' ⟨hs108, rfl⟩
 refine GC.weak hs108 ?_
 clear hs108
 refine GC.condT rfl ?_
 refine GC.seq ?_
 refine GC.reg ?_
 refine G.v (V.fa F114_2 rfl) rfl ?_
 refine G.st (b := vb) (off := 0 + 2) (l := [.slice none 0 0, pV pb has, .bool false, S []]) (T := 114) (fz := (0, 0)) (v := .bool true) Try.sizeOf4 rfl rfl rfl .z rfl rfl ?_
 refine G.nil ?_
 refine GC.turn (H' := (⟨vb, true, .row [.slice none 0 0, pV pb has, .bool true, S []] 114 (0, 0)⟩ :: ⟨pb, true, .row [.slice (some ⟨prb, 0, none⟩) ps.length cP] 96 (0, 0)⟩ :: ⟨prb, true, .row prow 100 (0, 0)⟩ :: ⟨qb, true, .row [.slice (some ⟨srb, 0, none⟩) sk.length cS] 111 (0, 0)⟩ :: ⟨srb, true, .row srow 126 (0, 0)⟩ :: (Cs ++ Ht))) (fun w1 h1 => h1) ?_
 refine GC.seq ?_
 refine GC.reg ?_
 refine G.v (V.ldA (b := vb) (off := 0) (s := 4) (wf := true) (l := [.slice none 0 0, pV pb has, .bool true, S []]) (T := 114) (fz := (0, 0)) (cs := [.slice none 0 0, pV pb has, .bool true, S []]) Try.isAgg114 Try.sizeOf114 rfl (.head _) rfl rfl) rfl ?_
 refine G.stA (cs := [.slice none 0 0, pV pb has, .bool true, S []]) Try.sizeOf114 rfl rfl (by intro v hv; simp only [List.mem_cons, List.not_mem_nil, or_false] at hv; rcases hv with rfl | rfl | rfl | rfl <;> first | rfl | exact pV_one _ _) .z rfl ?_
 refine G.nil ?_
 refine GC.retC (cs := [.slice none 0 0, pV pb has, .bool true, S []]) rfl Try.isAgg114 Try.sizeOf114 rfl (.head _) rfl fun w' hw' => fin has prow (.slice none 0 0) w' hpr hprt hhas (HVX_none) (hw'.sub (.cons _ (.cons_cons _ (.cons_cons _ (.cons _ (.cons _ (List.sublist_append_right _ _)))))))
theorem g76_ret111n {R : Ending → World → Prop} {w : World} {D : Nat → Prop} {vb pb prb qb srb cP cS : Nat} {un : Bool} {Ht : SH} {n : T0} {p : List UInt8} {ps : List (List UInt8 × List UInt8)} {sk : List Sk} {nb : Nat} {has : Bool} {prow srow : List Value} {Cs : SH} {fr : SF} {_c : UInt8}
  (hn : Rd Ht Cs n nb) (hpr : prow.length = 2 * cP) (hprt : prow.take (2 * ps.length) = flatP ps) (_hsr : srow.length = 3 * cS) (_hsk : SkRow Ht Cs srow sk) (hhas : has = false → ps = []) (_hpl : p.length ≤ 100000) (_hpc : ps.length ≤ cP) (_hcP : cP ≤ 20000) (_hsc : sk.length ≤ cS) (_hcS : cS ≤ 20000) (hsub : Sub [(0, Pt nb 0), (1, S p), (2, Pt pb 0), (3, Pt qb 0), (4, .bool un), (10, Pt vb 0), (11, .int .i16 (ps.length : Int)), (12, S n.path)] fr) (hcd : ¬ (p = [47] ∧ n.wild = true ∧ n.nt ≠ 1)) (hce : ¬ (p = [47] ∧ n.nt = 0)) (hj : idxOf 47 n.idx = none) (hil : n.idx.length ≤ 1000000)
  (fin : Fin76 R w D pb prb cP Ht ⟨none, ps, false, []⟩) :
  GC Try.prog ⟨76, Try.f76, R, w, D⟩ 703 K76f fr (⟨vb, true, .row [(.slice none 0 0), (pV pb has), .bool false, (S [])] 114 (0, 0)⟩ :: ⟨pb, true, .row [.slice (some ⟨prb, 0, none⟩) ps.length cP] 96 (0, 0)⟩ :: ⟨prb, true, .row prow 100 (0, 0)⟩ :: ⟨qb, true, .row [.slice (some ⟨srb, 0, none⟩) sk.length cS] 111 (0, 0)⟩ :: ⟨srb, true, .row srow 126 (0, 0)⟩ :: (Cs ++ Ht)) := by
 refine GC.weak hsub ?_
 clear hsub
 have hn0 := hn
 cases hn with
 | @mk path idx wild nt pr h full kids _ bs kv hv Hs hm hs hsm hbl hh hk =>
 simp only [n_path, n_idx, n_wild, n_nt] at *
 obtain ⟨ad, cap, rfl⟩ := hs.slice
 obtain ⟨ad2, l2, c2, rfl, hnn⟩ := hh.slice
 have hjn := idxOf_none hj
 refine GC.seq ?_
 refine GC.seq ?_
 refine GC.join (fun fr' H' => Sub [(0, Pt nb 0), (1, S p), (2, Pt pb 0), (3, Pt qb 0), (4, .bool un), (10, Pt vb 0), (11, .int .i16 (ps.length : Int)), (12, S path), (545, .bool false)] fr' ∧ H' = (⟨vb, true, .row [(.slice none 0 0), (pV pb has), .bool false, (S [])] 114 (0, 0)⟩ :: ⟨pb, true, .row [.slice (some ⟨prb, 0, none⟩) ps.length cP] 96 (0, 0)⟩ :: ⟨prb, true, .row prow 100 (0, 0)⟩ :: ⟨qb, true, .row [.slice (some ⟨srb, 0, none⟩) sk.length cS] 111 (0, 0)⟩ :: ⟨srb, true, .row srow 126 (0, 0)⟩ :: (Cs ++ Ht))) (fun J105 => ?_) ?_
 ·refine GC.reg ?_
  refine G.m1 ?_
  refine G.v (V.eqS rfl rfl) rfl ?_
  refine G.m1 ?_
  refine G.bc 533 rfl (fun h533 => ?_) (fun h533 => ?_)
  ·refine G.m5 ?_
   refine G.vg rfl rfl (V.nc rfl) rfl ?_
   refine G.vg rfl rfl (V.fa F107_2 rfl) rfl ?_
   refine G.vg rfl rfl (V.ld (b := nb) (off := 0 + 2) (wf := true) (l := nodeR path idx wild nt pr (.slice ad kids.length cap) (.slice ad2 l2 c2) full) (T := 107) (fz := (0, 0)) (v := .bool wild) Try.isAgg4 rfl (m5 hm) rfl) rfl ?_
   refine G.m3 ?_
   refine G.m1 ?_
   refine G.bc 539 rfl (fun h539 => ?_) (fun h539 => ?_)
   ·refine G.m5 ?_
    refine G.vg rfl rfl (V.nc rfl) rfl ?_
    refine G.vg rfl rfl (V.fa F107_3 rfl) rfl ?_
    refine G.vg rfl rfl (V.ld (b := nb) (off := 0 + 3) (wf := true) (l := nodeR path idx wild nt pr (.slice ad kids.length cap) (.slice ad2 l2 c2) full) (T := 107) (fz := (0, 0)) (v := .int .u8 (nt : Int)) Try.isAgg103 rfl (m5 hm) rfl) rfl ?_
    refine G.vg rfl rfl (V.neI rfl rfl) rfl ?_
    refine G.m3 ?_
    refine G.nil ?_
    refine J105 _ _ ⟨?_, rfl⟩
    have e : (!decide ((nt : Int) = 1)) = false := by
     have : nt = 1 := Classical.byContradiction fun e => hcd ⟨of_decide_eq_true h533, h539, e⟩
     subst this; rfl
    rw [e]
    exact .of rfl
   ·refine G.s1 ?_
    refine G.s1 ?_
    refine G.s1 ?_
    refine G.s1 ?_
    refine G.s1 ?_
    refine G.m4 ?_
    refine G.nil ?_
    refine J105 _ _ ⟨?_, rfl⟩
    exact .of rfl
  ·refine G.s1 ?_
   refine G.s1 ?_
   refine G.s1 ?_
   refine G.s1 ?_
   refine G.m4 ?_
   refine G.m1 ?_
   refine G.s1 ?_
   refine G.s1 ?_
   refine G.s1 ?_
   refine G.s1 ?_
   refine G.s1 ?_
   refine G.m4 ?_
   refine G.nil ?_
   refine J105 _ _ ⟨?_, rfl⟩
   exact .of rfl
 rintro fr' H' ⟨hs105, rfl⟩
 refine GC.weak hs105 ?_
 clear hs105
 refine GC.condF rfl ?_
 refine GC.skip ?_
 refine GC.seq ?_
 refine GC.seq ?_
 refine GC.join (fun fr' H' => Sub [(0, Pt nb 0), (1, S p), (2, Pt pb 0), (3, Pt qb 0), (4, .bool un), (10, Pt vb 0), (11, .int .i16 (ps.length : Int)), (12, S path), (556, .bool false)] fr' ∧ H' = (⟨vb, true, .row [(.slice none 0 0), (pV pb has), .bool false, (S [])] 114 (0, 0)⟩ :: ⟨pb, true, .row [.slice (some ⟨prb, 0, none⟩) ps.length cP] 96 (0, 0)⟩ :: ⟨prb, true, .row prow 100 (0, 0)⟩ :: ⟨qb, true, .row [.slice (some ⟨srb, 0, none⟩) sk.length cS] 111 (0, 0)⟩ :: ⟨srb, true, .row srow 126 (0, 0)⟩ :: (Cs ++ Ht))) (fun J108 => ?_) ?_
 ·refine GC.reg ?_
  refine G.m1 ?_
  refine G.v (V.eqS rfl rfl) rfl ?_
  refine G.m1 ?_
  refine G.bc 550 rfl (fun h550 => ?_) (fun h550 => ?_)
  ·refine G.m5 ?_
   refine G.vg rfl rfl (V.nc rfl) rfl ?_
   refine G.vg rfl rfl (V.fa F107_3 rfl) rfl ?_
   refine G.vg rfl rfl (V.ld (b := nb) (off := 0 + 3) (wf := true) (l := nodeR path idx wild nt pr (.slice ad kids.length cap) (.slice ad2 l2 c2) full) (T := 107) (fz := (0, 0)) (v := .int .u8 (nt : Int)) Try.isAgg103 rfl (m5 hm) rfl) rfl ?_
   refine G.vg rfl rfl (V.eqI rfl rfl) rfl ?_
   refine G.m3 ?_
   refine G.nil ?_
   refine J108 _ _ ⟨?_, rfl⟩
   have e : decide ((nt : Int) = 0) = false := decide_eq_false fun e => hce ⟨of_decide_eq_true h550, by omega⟩
   rw [e]
   exact .of rfl
  ·refine G.s1 ?_
   refine G.s1 ?_
   refine G.s1 ?_
   refine G.s1 ?_
   refine G.s1 ?_
   refine G.m4 ?_
   refine G.nil ?_
   refine J108 _ _ ⟨?_, rfl⟩
   exact .of rfl
 rintro fr' H' ⟨hs108, rfl⟩
 refine GC.weak hs108 ?_
 clear hs108
 refine GC.condF rfl ?_
 refine GC.skip ?_
 refine GC.seq ?_
 refine GC.seq ?_
 refine GC.reg ?_
 refine G.m1 ?_
 refine G.v (V.nc rfl) rfl ?_
 refine G.v (V.fa F107_1 rfl) rfl ?_
 refine G.v (V.ld (b := nb) (off := 0 + 1) (wf := true) (l := nodeR path idx wild nt pr (.slice ad kids.length cap) (.slice ad2 l2 c2) full) (T := 107) (fz := (0, 0)) (v := S idx) Try.isAgg9 rfl (m5 hm) rfl) rfl ?_
 refine G.cvSB Try.underlying9 Try.underlying68 Try.underlying5 rfl rfl (fun tb cpp z fz hrb hcp => ?_)
 refine G.v (V.lenL Try.underlying68 rfl) rfl ?_
 refine G.m1 ?_
 refine G.nil ?_
 refine GC.block ?_
 refine GC.loopJ (fun N fr' H' => ∃ q, q + N = idx.length ∧ Sub [(0, Pt nb 0), (1, S p), (2, Pt pb 0), (3, Pt qb 0), (4, .bool un), (10, Pt vb 0), (11, .int .i16 (ps.length : Int)), (12, S path), (563, .slice (some ⟨tb, 0, none⟩) idx.length cpp), (564, I (idx.length : Nat)), (565, I (q : Nat))] fr' ∧ H' = ⟨tb, true, .row (bC (idx ++ z)) 5 fz⟩ :: (⟨vb, true, .row [(.slice none 0 0), (pV pb has), .bool false, (S [])] 114 (0, 0)⟩ :: ⟨pb, true, .row [.slice (some ⟨prb, 0, none⟩) ps.length cP] 96 (0, 0)⟩ :: ⟨prb, true, .row prow 100 (0, 0)⟩ :: ⟨qb, true, .row [.slice (some ⟨srb, 0, none⟩) sk.length cS] 111 (0, 0)⟩ :: ⟨srb, true, .row srow 126 (0, 0)⟩ :: (Cs ++ Ht))) idx.length
  ⟨0, by omega, .of rfl, rfl⟩ ?_
 rintro N fr' H' ⟨q, hq, hs2, rfl⟩ ih
 refine GC.weak hs2 ?_
 clear hs2
 refine GC.seq ?_
 refine GC.reg ?_
 refine G.v (V.lt rfl rfl) rfl ?_
 refine G.nil ?_
 refine GC.seq ?_
 refine GC.condD rfl (fun h566 => ?_) (fun h566 => ?_)
 ·refine GC.skip ?_
  refine GC.seq ?_
  refine GC.block ?_
  refine GC.seq ?_
  have hql : q < idx.length := by omega
  obtain ⟨x, hx⟩ : ∃ x, idx[q]? = some x := ⟨_, List.getElem?_eq_getElem hql⟩
  refine GC.reg ?_
  refine G.m1 ?_
  refine G.v (V.ia (i := q) Try.underlying68 Try.sizeOf5 rfl rfl hql) rfl ?_
  refine G.v (V.ld (b := tb) (off := 0 + q * 1) (wf := true) (l := bC (idx ++ z)) (T := 5) (fz := fz) (v := .int .u8 (x.toNat : Int)) Try.isAgg5 rfl (.head _) (by rw [nth_eq, Nat.zero_add, Nat.mul_one, bC_app, List.getElem?_append_left (by rw [bC_len]; exact hql)]; simp [bC, Lib.byteCells, hx])) rfl ?_
  refine G.m2 ?_
  refine G.m2 ?_
  refine G.nil ?_
  refine GC.seq ?_
  refine GC.reg ?_
  refine G.m1 ?_
  refine G.v (V.eqI rfl rfl) rfl ?_
  refine G.nil ?_
  refine GC.condD rfl (fun h571 => absurd (by rw [hx, u47 h571]) (hjn q)) (fun h571 => ?_)
  refine GC.skip ?_
  refine GC.inBlock ?_
  refine GC.reg ?_
  refine G.v (V.addI (r := ((q + 1 : Nat) : Int)) rfl rfl rfl (by omega) (by omega)) rfl ?_
  refine G.m1 ?_
  refine G.nil ?_
  exact ih (N - 1) _ _ (by omega) ⟨q + 1, by omega, .of rfl, rfl⟩
 refine GC.exit rfl ?_
 refine GC.seq ?_
 refine GC.turn (H' := (⟨vb, true, .row [(.slice none 0 0), (pV pb has), .bool false, (S [])] 114 (0, 0)⟩ :: ⟨pb, true, .row [.slice (some ⟨prb, 0, none⟩) ps.length cP] 96 (0, 0)⟩ :: ⟨prb, true, .row prow 100 (0, 0)⟩ :: ⟨qb, true, .row [.slice (some ⟨srb, 0, none⟩) sk.length cS] 111 (0, 0)⟩ :: ⟨srb, true, .row srow 126 (0, 0)⟩ :: (Cs ++ Ht))) (fun w1 h1 => h1.sub (List.sublist_cons_self _ _)) ?_
 refine GC.reg ?_
 refine G.v (V.ldA (b := vb) (off := 0) (s := 4) (wf := true) (l := [.slice none 0 0, pV pb has, .bool false, S []]) (T := 114) (fz := (0, 0)) (cs := [.slice none 0 0, pV pb has, .bool false, S []]) Try.isAgg114 Try.sizeOf114 rfl (.head _) rfl rfl) rfl ?_
 refine G.stA (cs := [.slice none 0 0, pV pb has, .bool false, S []]) Try.sizeOf114 rfl rfl (by intro v hv; simp only [List.mem_cons, List.not_mem_nil, or_false] at hv; rcases hv with rfl | rfl | rfl | rfl <;> first | rfl | exact pV_one _ _) .z rfl ?_
 refine G.nil ?_
 refine GC.retC (cs := [.slice none 0 0, pV pb has, .bool false, S []]) rfl Try.isAgg114 Try.sizeOf114 rfl (.head _) rfl fun w' hw' => fin has prow (.slice none 0 0) w' hpr hprt hhas (HVX_none) (hw'.sub (.cons _ (.cons_cons _ (.cons_cons _ (.cons _ (.cons _ (List.sublist_append_right _ _)))))))
theorem g76_ret111 {R : Ending → World → Prop} {w : World} {D : Nat → Prop} {vb pb prb qb srb cP cS : Nat} {un : Bool} {Ht : SH} {n : T0} {p : List UInt8} {ps : List (List UInt8 × List UInt8)} {sk : List Sk} {nb : Nat} {has : Bool} {prow srow : List Value} {Cs : SH} {fr : SF} {_c : UInt8}
  (hn : Rd Ht Cs n nb) (hpr : prow.length = 2 * cP) (hprt : prow.take (2 * ps.length) = flatP ps) (_hsr : srow.length = 3 * cS) (_hsk : SkRow Ht Cs srow sk) (hhas : has = false → ps = []) (_hpl : p.length ≤ 100000) (_hpc : ps.length ≤ cP) (_hcP : cP ≤ 20000) (_hsc : sk.length ≤ cS) (_hcS : cS ≤ 20000) (hsub : Sub [(0, Pt nb 0), (1, S p), (2, Pt pb 0), (3, Pt qb 0), (4, .bool un), (10, Pt vb 0), (11, .int .i16 (ps.length : Int)), (12, S n.path)] fr) (hcd : ¬ (p = [47] ∧ n.wild = true ∧ n.nt ≠ 1)) (hce : ¬ (p = [47] ∧ n.nt = 0)) {i : Nat} {k : T0} (hj : idxOf 47 n.idx = some i) (hkid : n.kids[i]? = some k) (hk3 : ¬ (k.nt = 3 ∧ k.kids = [])) (hil : n.idx.length ≤ 1000000)
  (fin : Fin76 R w D pb prb cP Ht ⟨none, ps, (decide (k.path.length = 1) && k.h.isSome) || (decide (k.nt = 3) && ((k.kids.head?).map (·.h.isSome)).getD false), []⟩) :
  GC Try.prog ⟨76, Try.f76, R, w, D⟩ 703 K76f fr (⟨vb, true, .row [(.slice none 0 0), (pV pb has), .bool false, (S [])] 114 (0, 0)⟩ :: ⟨pb, true, .row [.slice (some ⟨prb, 0, none⟩) ps.length cP] 96 (0, 0)⟩ :: ⟨prb, true, .row prow 100 (0, 0)⟩ :: ⟨qb, true, .row [.slice (some ⟨srb, 0, none⟩) sk.length cS] 111 (0, 0)⟩ :: ⟨srb, true, .row srow 126 (0, 0)⟩ :: (Cs ++ Ht)) := by
 refine GC.weak hsub ?_
 clear hsub
 have hn0 := hn
 cases hn with
 | @mk path idx wild nt pr h full kids _ bs kv hv Hs hm hs hsm hbl hh hk =>
 simp only [n_path, n_idx, n_kids, n_wild, n_nt] at *
 obtain ⟨ad, cap, rfl⟩ := hs.slice
 obtain ⟨ad2, l2, c2, rfl, hnn⟩ := hh.slice
 obtain ⟨hjc, hjn⟩ := idxOf_some hj
 have hjl : i < idx.length := (List.getElem?_eq_some_iff.1 hjc).1
 refine GC.seq ?_
 refine GC.seq ?_
 refine GC.join (fun fr' H' => Sub [(0, Pt nb 0), (1, S p), (2, Pt pb 0), (3, Pt qb 0), (4, .bool un), (10, Pt vb 0), (11, .int .i16 (ps.length : Int)), (12, S path), (545, .bool false)] fr' ∧ H' = (⟨vb, true, .row [(.slice none 0 0), (pV pb has), .bool false, (S [])] 114 (0, 0)⟩ :: ⟨pb, true, .row [.slice (some ⟨prb, 0, none⟩) ps.length cP] 96 (0, 0)⟩ :: ⟨prb, true, .row prow 100 (0, 0)⟩ :: ⟨qb, true, .row [.slice (some ⟨srb, 0, none⟩) sk.length cS] 111 (0, 0)⟩ :: ⟨srb, true, .row srow 126 (0, 0)⟩ :: (Cs ++ Ht))) (fun J105 => ?_) ?_
 ·refine GC.reg ?_
  refine G.m1 ?_
  refine G.v (V.eqS rfl rfl) rfl ?_
  refine G.m1 ?_
  refine G.bc 533 rfl (fun h533 => ?_) (fun h533 => ?_)
  ·refine G.m5 ?_
   refine G.vg rfl rfl (V.nc rfl) rfl ?_
   refine G.vg rfl rfl (V.fa F107_2 rfl) rfl ?_
   refine G.vg rfl rfl (V.ld (b := nb) (off := 0 + 2) (wf := true) (l := nodeR path idx wild nt pr (.slice ad kids.length cap) (.slice ad2 l2 c2) full) (T := 107) (fz := (0, 0)) (v := .bool wild) Try.isAgg4 rfl (m5 hm) rfl) rfl ?_
   refine G.m3 ?_
   refine G.m1 ?_
   refine G.bc 539 rfl (fun h539 => ?_) (fun h539 => ?_)
   ·refine G.m5 ?_
    refine G.vg rfl rfl (V.nc rfl) rfl ?_
    refine G.vg rfl rfl (V.fa F107_3 rfl) rfl ?_
    refine G.vg rfl rfl (V.ld (b := nb) (off := 0 + 3) (wf := true) (l := nodeR path idx wild nt pr (.slice ad kids.length cap) (.slice ad2 l2 c2) full) (T := 107) (fz := (0, 0)) (v := .int .u8 (nt : Int)) Try.isAgg103 rfl (m5 hm) rfl) rfl ?_
    refine G.vg rfl rfl (V.neI rfl rfl) rfl ?_
    refine G.m3 ?_
    refine G.nil ?_
    refine J105 _ _ ⟨?_, rfl⟩
    have e : (!decide ((nt : Int) = 1)) = false := by
     have : nt = 1 := Classical.byContradiction fun e => hcd ⟨of_decide_eq_true h533, h539, e⟩
     subst this; rfl
    rw [e]
    exact .of rfl
   ·refine G.s1 ?_
    refine G.s1 ?_
    refine G.s1 ?_
    refine G.s1 ?_
    refine G.s1 ?_
    refine G.m4 ?_
    refine G.nil ?_
    refine J105 _ _ ⟨?_, rfl⟩
    exact .of rfl
  ·refine G.s1 ?_
   refine G.s1 ?_
   refine G.s1 ?_
   refine G.s1 ?_
   refine G.m4 ?_
   refine G.m1 ?_
   refine G.s1 ?_
   refine G.s1 ?_
   refine G.s1 ?_
   refine G.s1 ?_
   refine G.s1 ?_
   refine G.m4 ?_
   refine G.nil ?_
   refine J105 _ _ ⟨?_, rfl⟩
   exact .of rfl
 rintro fr' H' ⟨hs105, rfl⟩
 refine GC.weak hs105 ?_
 clear hs105
 refine GC.condF rfl ?_
 refine GC.skip ?_
 refine GC.seq ?_
 refine GC.seq ?_
 refine GC.join (fun fr' H' => Sub [(0, Pt nb 0), (1, S p), (2, Pt pb 0), (3, Pt qb 0), (4, .bool un), (10, Pt vb 0), (11, .int .i16 (ps.length : Int)), (12, S path), (556, .bool false)] fr' ∧ H' = (⟨vb, true, .row [(.slice none 0 0), (pV pb has), .bool false, (S [])] 114 (0, 0)⟩ :: ⟨pb, true, .row [.slice (some ⟨prb, 0, none⟩) ps.length cP] 96 (0, 0)⟩ :: ⟨prb, true, .row prow 100 (0, 0)⟩ :: ⟨qb, true, .row [.slice (some ⟨srb, 0, none⟩) sk.length cS] 111 (0, 0)⟩ :: ⟨srb, true, .row srow 126 (0, 0)⟩ :: (Cs ++ Ht))) (fun J108 => ?_) ?_
 ·refine GC.reg ?_
  refine G.m1 ?_
  refine G.v (V.eqS rfl rfl) rfl ?_
  refine G.m1 ?_
  refine G.bc 550 rfl (fun h550 => ?_) (fun h550 => ?_)
  ·refine G.m5 ?_
   refine G.vg rfl rfl (V.nc rfl) rfl ?_
   refine G.vg rfl rfl (V.fa F107_3 rfl) rfl ?_
   refine G.vg rfl rfl (V.ld (b := nb) (off := 0 + 3) (wf := true) (l := nodeR path idx wild nt pr (.slice ad kids.length cap) (.slice ad2 l2 c2) full) (T := 107) (fz := (0, 0)) (v := .int .u8 (nt : Int)) Try.isAgg103 rfl (m5 hm) rfl) rfl ?_
   refine G.vg rfl rfl (V.eqI rfl rfl) rfl ?_
   refine G.m3 ?_
   refine G.nil ?_
   refine J108 _ _ ⟨?_, rfl⟩
   have e : decide ((nt : Int) = 0) = false := decide_eq_false fun e => hce ⟨of_decide_eq_true h550, by omega⟩
   rw [e]
   exact .of rfl
  ·refine G.s1 ?_
   refine G.s1 ?_
   refine G.s1 ?_
   refine G.s1 ?_
   refine G.s1 ?_
   refine G.m4 ?_
   refine G.nil ?_
   refine J108 _ _ ⟨?_, rfl⟩
   exact .of rfl
 rintro fr' H' ⟨hs108, rfl⟩
 refine GC.weak hs108 ?_
 clear hs108
 refine GC.condF rfl ?_
 refine GC.skip ?_
 refine GC.seq ?_
 refine GC.seq ?_
 refine GC.reg ?_
 refine G.m1 ?_
 refine G.v (V.nc rfl) rfl ?_
 refine G.v (V.fa F107_1 rfl) rfl ?_
 refine G.v (V.ld (b := nb) (off := 0 + 1) (wf := true) (l := nodeR path idx wild nt pr (.slice ad kids.length cap) (.slice ad2 l2 c2) full) (T := 107) (fz := (0, 0)) (v := S idx) Try.isAgg9 rfl (m5 hm) rfl) rfl ?_
 refine G.cvSB Try.underlying9 Try.underlying68 Try.underlying5 rfl rfl (fun tb cpp z fz hrb hcp => ?_)
 refine G.v (V.lenL Try.underlying68 rfl) rfl ?_
 refine G.m1 ?_
 refine G.nil ?_
 refine GC.block ?_
 refine GC.loopJ (fun N fr' H' => ∃ q, q + N = i ∧ Sub [(0, Pt nb 0), (1, S p), (2, Pt pb 0), (3, Pt qb 0), (4, .bool un), (10, Pt vb 0), (11, .int .i16 (ps.length : Int)), (12, S path), (563, .slice (some ⟨tb, 0, none⟩) idx.length cpp), (564, I (idx.length : Nat)), (565, I (q : Nat))] fr' ∧ H' = ⟨tb, true, .row (bC (idx ++ z)) 5 fz⟩ :: (⟨vb, true, .row [(.slice none 0 0), (pV pb has), .bool false, (S [])] 114 (0, 0)⟩ :: ⟨pb, true, .row [.slice (some ⟨prb, 0, none⟩) ps.length cP] 96 (0, 0)⟩ :: ⟨prb, true, .row prow 100 (0, 0)⟩ :: ⟨qb, true, .row [.slice (some ⟨srb, 0, none⟩) sk.length cS] 111 (0, 0)⟩ :: ⟨srb, true, .row srow 126 (0, 0)⟩ :: (Cs ++ Ht))) i
  ⟨0, by omega, .of rfl, rfl⟩ ?_
 rintro N fr' H' ⟨q, hq, hs2, rfl⟩ ih
 refine GC.weak hs2 ?_
 clear hs2
 refine GC.seq ?_
 refine GC.reg ?_
 refine G.v (V.lt rfl rfl) rfl ?_
 refine G.nil ?_
 refine GC.seq ?_
 refine GC.condD rfl (fun h566 => ?_) (fun h566 => absurd (by omega) h566)
 refine GC.skip ?_
 refine GC.seq ?_
 refine GC.block ?_
 refine GC.seq ?_
 have hql : q < idx.length := by omega
 obtain ⟨x, hx⟩ : ∃ x, idx[q]? = some x := ⟨_, List.getElem?_eq_getElem hql⟩
 refine GC.reg ?_
 refine G.m1 ?_
 refine G.v (V.ia (i := q) Try.underlying68 Try.sizeOf5 rfl rfl hql) rfl ?_
 refine G.v (V.ld (b := tb) (off := 0 + q * 1) (wf := true) (l := bC (idx ++ z)) (T := 5) (fz := fz) (v := .int .u8 (x.toNat : Int)) Try.isAgg5 rfl (.head _) (by rw [nth_eq, Nat.zero_add, Nat.mul_one, bC_app, List.getElem?_append_left (by rw [bC_len]; exact hql)]; simp [bC, Lib.byteCells, hx])) rfl ?_
 refine G.m2 ?_
 refine G.m2 ?_
 refine G.nil ?_
 refine GC.seq ?_
 refine GC.reg ?_
 refine G.m1 ?_
 refine G.v (V.eqI rfl rfl) rfl ?_
 refine G.nil ?_
 refine GC.condD rfl (fun h571 => ?_) (fun h571 => ?_)
 ·refine GC.seq ?_
  have hqj : q = i := by
   have hxc := u47 h571
   rcases Nat.lt_or_ge q i with h | h
   ·exact absurd (by rw [hx, hxc]) (hjn q h)
   ·omega
  subst hqj
  have hkl := (List.getElem?_eq_some_iff.1 hkid).1
  obtain ⟨kb, hkb⟩ : ∃ kb, bs[q]? = some kb := ⟨_, List.getElem?_eq_getElem (by omega)⟩
  have hrk := hk q k kb hkid hkb
  obtain ⟨rb, cap2, spare, e1, rfl⟩ := hs.at hkl
  cases e1
  have hrbm := hsm _ (.head _)
  clear hs
  cases hrk with
  | @mk kpath kidx kwild knt kpr kh kfull kkids _ kbs kkv khv kHs km ks ksm kbl khh kk =>
  simp only [n_path, n_nt, n_kids, n_h] at *
  obtain ⟨kad, kcap, rfl⟩ := ks.slice
  obtain ⟨kad2, kl2, kc2, rfl, khnn⟩ := khh.slice
  refine GC.reg ?_
  refine G.m1 ?_
  refine G.v (V.nc rfl) rfl ?_
  refine G.v (V.fa F107_5 rfl) rfl ?_
  refine G.v (V.ld (b := nb) (off := 0 + 5) (wf := true) (l := nodeR path idx wild nt pr (.slice (some ⟨rb, 0, none⟩) kids.length cap) (.slice ad2 l2 c2) full) (T := 107) (fz := (0, 0)) (v := (.slice (some ⟨rb, 0, none⟩) kids.length cap)) Try.isAgg105 rfl (m6 hm) rfl) rfl ?_
  refine G.m1 ?_
  refine G.v (V.ia (i := q) Try.underlying105 Try.sizeOf89 rfl rfl hkl) rfl ?_
  refine G.v (V.ld (b := rb) (off := 0 + q * 1) (wf := true) (l := bs.map (Pt · 0) ++ spare) (T := 89) (fz := (0, 0)) (v := Pt kb 0) Try.isAgg89 rfl (.tail _ (.tail _ (.tail _ (.tail _ (.tail _ (.tail _ ((List.mem_append_right _ hrbm)))))))) (by rw [nth_eq, Nat.zero_add, Nat.mul_one, List.getElem?_append_left (by rw [List.length_map]; omega), List.getElem?_map, hkb]; rfl)) rfl ?_
  refine G.m2 ?_
  refine G.nil ?_
  refine GC.seq ?_
  refine GC.join (fun fr' H' => Sub [(10, Pt vb 0)] fr' ∧ H' = ⟨tb, true, .row (bC (idx ++ z)) 5 fz⟩ :: (⟨vb, true, .row [.slice none 0 0, pV pb has, .bool ((decide (kpath.length = 1) && kh.isSome) || (decide (knt = 3) && ((kkids.head?).map (fun t : T0 => t.h.isSome)).getD false)), S []] 114 (0, 0)⟩ :: ⟨pb, true, .row [.slice (some ⟨prb, 0, none⟩) ps.length cP] 96 (0, 0)⟩ :: ⟨prb, true, .row prow 100 (0, 0)⟩ :: ⟨qb, true, .row [.slice (some ⟨srb, 0, none⟩) sk.length cS] 111 (0, 0)⟩ :: ⟨srb, true, .row srow 126 (0, 0)⟩ :: (Cs ++ Ht))) (fun J116 => ?_) ?_
  ·refine GC.reg ?_
   refine G.m1 ?_
   refine G.v (V.nc rfl) rfl ?_
   refine G.v (V.fa F107_0 rfl) rfl ?_
   refine G.v (V.ld (b := kb) (off := 0 + 0) (wf := true) (l := nodeR kpath kidx kwild knt kpr (.slice kad kkids.length kcap) (.slice kad2 kl2 kc2) kfull) (T := 107) (fz := (0, 0)) (v := S kpath) Try.isAgg9 rfl (m6 km) rfl) rfl ?_
   refine G.v (V.lenS Try.underlying9 rfl) rfl ?_
   refine G.v (V.eqI rfl rfl) rfl ?_
   refine G.m1 ?_
   refine G.bc 585 rfl (fun h585 => ?_) (fun h585 => ?_)
   ·refine G.m5 ?_
    refine G.vg rfl rfl (V.nc rfl) rfl ?_
    refine G.vg rfl rfl (V.fa F107_6 rfl) rfl ?_
    refine G.vg rfl rfl (V.ld (b := kb) (off := 0 + 6) (wf := true) (l := nodeR kpath kidx kwild knt kpr (.slice kad kkids.length kcap) (.slice kad2 kl2 kc2) kfull) (T := 107) (fz := (0, 0)) (v := .slice kad2 kl2 kc2) Try.isAgg94 rfl (m6 km) rfl) rfl ?_
    refine G.vg rfl rfl (V.neL Try.underlying94 rfl) rfl ?_
    refine G.m3 ?_
    refine G.m1 ?_
    refine G.bc 592 rfl (fun h592 => ?_) (fun h592 => ?_)
    ·refine G.s1 ?_
     refine G.s1 ?_
     refine G.s1 ?_
     refine G.s1 ?_
     refine G.s1 ?_
     refine G.s1 ?_
     refine G.sgU rfl rfl rfl rfl rfl ?_
     refine G.sgU rfl rfl rfl rfl rfl ?_
     refine G.sgU rfl rfl rfl rfl rfl ?_
     refine G.sgU rfl rfl rfl rfl rfl ?_
     refine G.sgU rfl rfl rfl rfl rfl ?_
     refine G.sgU rfl rfl rfl rfl rfl ?_
     refine G.sgU rfl rfl rfl rfl rfl ?_
     refine G.sgU rfl rfl rfl rfl rfl ?_
     refine G.sgU rfl rfl rfl rfl rfl ?_
     refine G.sgU rfl rfl rfl rfl rfl ?_
     refine G.s1 ?_
     refine G.m3 ?_
     refine G.v (V.fa F114_2 rfl) rfl ?_
     have hs1 : kh.isSome = true := by rw [← Option.not_isNone, ← khnn]; exact h592
     have h5 : kpath.length = 1 := by have := of_decide_eq_true h585; omega
     have e : ((decide (kpath.length = 1) && kh.isSome) || (decide (knt = 3) && ((kkids.head?).map (fun t : T0 => t.h.isSome)).getD false)) = true := by rw [decide_eq_true h5, hs1]; rfl
     refine G.st (b := vb) (off := 0 + 2) (l := [.slice none 0 0, pV pb has, .bool false, S []]) (T := 114) (fz := (0, 0)) (v := .bool (true)) Try.sizeOf4 rfl rfl rfl (.s .z) rfl rfl ?_
     refine G.nil ?_
     refine J116 _ _ ⟨.cons rfl .nil, ?_⟩
     rw [e]
     rfl
    ·refine G.m5 ?_
     refine G.vg rfl rfl (V.nc rfl) rfl ?_
     refine G.vg rfl rfl (V.fa F107_3 rfl) rfl ?_
     refine G.vg rfl rfl (V.ld (b := kb) (off := 0 + 3) (wf := true) (l := nodeR kpath kidx kwild knt kpr (.slice kad kkids.length kcap) (.slice kad2 kl2 kc2) kfull) (T := 107) (fz := (0, 0)) (v := .int .u8 (knt : Int)) Try.isAgg103 rfl (m6 km) rfl) rfl ?_
     refine G.vg rfl rfl (V.eqI rfl rfl) rfl ?_
     refine G.m5 ?_
     refine G.bc 598 rfl (fun h598 => ?_) (fun h598 => ?_)
     ·refine G.m5 ?_
      refine G.vg rfl rfl (V.nc rfl) rfl ?_
      refine G.vg rfl rfl (V.fa F107_5 rfl) rfl ?_
      have hkn3 : knt = 3 := by have := of_decide_eq_true h598; omega
      obtain ⟨k0, kr, rfl⟩ : ∃ k0 kr, kkids = k0 :: kr := by
       cases kkids with
       | nil => exact absurd ⟨hkn3, rfl⟩ hk3
       | cons a r => exact ⟨a, r, rfl⟩
      obtain ⟨k0b, hk0b⟩ : ∃ k0b, kbs[0]? = some k0b := ⟨_, List.getElem?_eq_getElem (by rw [kbl]; simp)⟩
      have hrk0 := kk 0 k0 k0b rfl hk0b
      obtain ⟨rb2, cap3, spare2, e2, rfl⟩ := ks.at (i := 0) (by simp)
      cases e2
      have hrbm2 := ksm _ (.head _)
      cases hrk0 with
      | @mk k0path k0idx k0wild k0nt k0pr k0h k0full k0kids _ k0bs k0kv k0hv k0Hs k0m k0s k0sm k0bl k0hh k0k =>
      obtain ⟨k0ad2, k0l2, k0c2, rfl, k0hnn⟩ := k0hh.slice
      refine G.vg rfl rfl (V.ld (b := kb) (off := 0 + 5) (wf := true) (l := nodeR kpath kidx kwild knt kpr (.slice (some ⟨rb2, 0, none⟩) (Tr.node () k0path k0idx k0wild k0nt k0pr k0h k0full k0kids :: kr).length kcap) (.slice kad2 kl2 kc2) kfull) (T := 107) (fz := (0, 0)) (v := (.slice (some ⟨rb2, 0, none⟩) (Tr.node () k0path k0idx k0wild k0nt k0pr k0h k0full k0kids :: kr).length kcap)) Try.isAgg105 rfl (m6 km) rfl) rfl ?_
      refine G.vg rfl rfl (V.ia (i := 0) Try.underlying105 Try.sizeOf89 rfl rfl (by simp)) rfl ?_
      refine G.vg rfl rfl (V.ld (b := rb2) (off := 0 + 0 * 1) (wf := true) (l := kbs.map (Pt · 0) ++ spare2) (T := 89) (fz := (0, 0)) (v := Pt k0b 0) Try.isAgg89 rfl (.tail _ (.tail _ (.tail _ (.tail _ (.tail _ (.tail _ ((List.mem_append_right _ hrbm2)))))))) (by rw [nth_eq, Nat.zero_add, Nat.mul_one, List.getElem?_append_left (by rw [List.length_map, kbl]; simp), List.getElem?_map, hk0b]; rfl)) rfl ?_
      refine G.vg rfl rfl (V.nc rfl) rfl ?_
      refine G.vg rfl rfl (V.fa F107_6 rfl) rfl ?_
      refine G.vg rfl rfl (V.ld (b := k0b) (off := 0 + 6) (wf := true) (l := nodeR k0path k0idx k0wild k0nt k0pr k0kv (.slice k0ad2 k0l2 k0c2) k0full) (T := 107) (fz := (0, 0)) (v := .slice k0ad2 k0l2 k0c2) Try.isAgg94 rfl (m6 k0m) rfl) rfl ?_
      refine G.vg rfl rfl (V.neL Try.underlying94 rfl) rfl ?_
      refine G.vg rfl rfl (V.pickT rfl rfl) rfl ?_
      refine G.m4 ?_
      refine G.v (V.fa F114_2 rfl) rfl ?_
      have hs1 : kh.isSome = false := by rw [← Option.not_isNone, ← khnn]; exact h592
      have h5 : kpath.length = 1 := by have := of_decide_eq_true h585; omega
      have e : ((decide (kpath.length = 1) && kh.isSome) || (decide (knt = 3) && (((Tr.node () k0path k0idx k0wild k0nt k0pr k0h k0full k0kids :: kr).head?).map (fun t : T0 => t.h.isSome)).getD false)) = (!k0ad2.isNone) := by rw [hs1, decide_eq_true hkn3, k0hnn, Option.not_isNone, Bool.and_false, Bool.false_or, Bool.true_and]; rfl
      refine G.st (b := vb) (off := 0 + 2) (l := [.slice none 0 0, pV pb has, .bool false, S []]) (T := 114) (fz := (0, 0)) (v := .bool (!k0ad2.isNone)) Try.sizeOf4 rfl rfl rfl (.s .z) rfl rfl ?_
      refine G.nil ?_
      refine J116 _ _ ⟨.cons rfl .nil, ?_⟩
      rw [e]
      rfl
     ·refine G.s1 ?_
      refine G.s1 ?_
      refine G.s1 ?_
      refine G.s1 ?_
      refine G.s1 ?_
      refine G.s1 ?_
      refine G.s1 ?_
      refine G.s1 ?_
      refine G.s1 ?_
      refine G.s1 ?_
      refine G.vg rfl rfl (V.pickF rfl rfl) rfl ?_
      refine G.m4 ?_
      refine G.v (V.fa F114_2 rfl) rfl ?_
      have hs1 : kh.isSome = false := by rw [← Option.not_isNone, ← khnn]; exact h592
      have h5 : kpath.length = 1 := by have := of_decide_eq_true h585; omega
      have h3 : ¬ knt = 3 := by have := of_decide_eq_false h598; omega
      have e : ((decide (kpath.length = 1) && kh.isSome) || (decide (knt = 3) && ((kkids.head?).map (fun t : T0 => t.h.isSome)).getD false)) = false := by rw [hs1, decide_eq_false h3, Bool.and_false, Bool.false_or, Bool.false_and]
      refine G.st (b := vb) (off := 0 + 2) (l := [.slice none 0 0, pV pb has, .bool false, S []]) (T := 114) (fz := (0, 0)) (v := .bool (false)) Try.sizeOf4 rfl rfl rfl (.s .z) rfl rfl ?_
      refine G.nil ?_
      refine J116 _ _ ⟨.cons rfl .nil, ?_⟩
      rw [e]
      rfl
   ·refine G.s1 ?_
    refine G.s1 ?_
    refine G.s1 ?_
    refine G.s1 ?_
    refine G.s1 ?_
    refine G.m4 ?_
    refine G.m1 ?_
    refine G.m5 ?_
    refine G.vg rfl rfl (V.nc rfl) rfl ?_
    refine G.vg rfl rfl (V.fa F107_3 rfl) rfl ?_
    refine G.vg rfl rfl (V.ld (b := kb) (off := 0 + 3) (wf := true) (l := nodeR kpath kidx kwild knt kpr (.slice kad kkids.length kcap) (.slice kad2 kl2 kc2) kfull) (T := 107) (fz := (0, 0)) (v := .int .u8 (knt : Int)) Try.isAgg103 rfl (m6 km) rfl) rfl ?_
    refine G.vg rfl rfl (V.eqI rfl rfl) rfl ?_
    refine G.m5 ?_
    refine G.bc 598 rfl (fun h598 => ?_) (fun h598 => ?_)
    ·refine G.m5 ?_
     refine G.vg rfl rfl (V.nc rfl) rfl ?_
     refine G.vg rfl rfl (V.fa F107_5 rfl) rfl ?_
     have hkn3 : knt = 3 := by have := of_decide_eq_true h598; omega
     obtain ⟨k0, kr, rfl⟩ : ∃ k0 kr, kkids = k0 :: kr := by
      cases kkids with
      | nil => exact absurd ⟨hkn3, rfl⟩ hk3
      | cons a r => exact ⟨a, r, rfl⟩
     obtain ⟨k0b, hk0b⟩ : ∃ k0b, kbs[0]? = some k0b := ⟨_, List.getElem?_eq_getElem (by rw [kbl]; simp)⟩
     have hrk0 := kk 0 k0 k0b rfl hk0b
     obtain ⟨rb2, cap3, spare2, e2, rfl⟩ := ks.at (i := 0) (by simp)
     cases e2
     have hrbm2 := ksm _ (.head _)
     cases hrk0 with
     | @mk k0path k0idx k0wild k0nt k0pr k0h k0full k0kids _ k0bs k0kv k0hv k0Hs k0m k0s k0sm k0bl k0hh k0k =>
     obtain ⟨k0ad2, k0l2, k0c2, rfl, k0hnn⟩ := k0hh.slice
     refine G.vg rfl rfl (V.ld (b := kb) (off := 0 + 5) (wf := true) (l := nodeR kpath kidx kwild knt kpr (.slice (some ⟨rb2, 0, none⟩) (Tr.node () k0path k0idx k0wild k0nt k0pr k0h k0full k0kids :: kr).length kcap) (.slice kad2 kl2 kc2) kfull) (T := 107) (fz := (0, 0)) (v := (.slice (some ⟨rb2, 0, none⟩) (Tr.node () k0path k0idx k0wild k0nt k0pr k0h k0full k0kids :: kr).length kcap)) Try.isAgg105 rfl (m6 km) rfl) rfl ?_
     refine G.vg rfl rfl (V.ia (i := 0) Try.underlying105 Try.sizeOf89 rfl rfl (by simp)) rfl ?_
     refine G.vg rfl rfl (V.ld (b := rb2) (off := 0 + 0 * 1) (wf := true) (l := kbs.map (Pt · 0) ++ spare2) (T := 89) (fz := (0, 0)) (v := Pt k0b 0) Try.isAgg89 rfl (.tail _ (.tail _ (.tail _ (.tail _ (.tail _ (.tail _ ((List.mem_append_right _ hrbm2)))))))) (by rw [nth_eq, Nat.zero_add, Nat.mul_one, List.getElem?_append_left (by rw [List.length_map, kbl]; simp), List.getElem?_map, hk0b]; rfl)) rfl ?_
     refine G.vg rfl rfl (V.nc rfl) rfl ?_
     refine G.vg rfl rfl (V.fa F107_6 rfl) rfl ?_
     refine G.vg rfl rfl (V.ld (b := k0b) (off := 0 + 6) (wf := true) (l := nodeR k0path k0idx k0wild k0nt k0pr k0kv (.slice k0ad2 k0l2 k0c2) k0full) (T := 107) (fz := (0, 0)) (v := .slice k0ad2 k0l2 k0c2) Try.isAgg94 rfl (m6 k0m) rfl) rfl ?_
     refine G.vg rfl rfl (V.neL Try.underlying94 rfl) rfl ?_
     refine G.vg rfl rfl (V.pickT rfl rfl) rfl ?_
     refine G.m4 ?_
     refine G.v (V.fa F114_2 rfl) rfl ?_
     have h5 : ¬ kpath.length = 1 := by have := of_decide_eq_false h585; omega
     have e : ((decide (kpath.length = 1) && kh.isSome) || (decide (knt = 3) && (((Tr.node () k0path k0idx k0wild k0nt k0pr k0h k0full k0kids :: kr).head?).map (fun t : T0 => t.h.isSome)).getD false)) = (!k0ad2.isNone) := by rw [decide_eq_false h5, decide_eq_true hkn3, k0hnn, Option.not_isNone, Bool.false_and, Bool.false_or, Bool.true_and]; rfl
     refine G.st (b := vb) (off := 0 + 2) (l := [.slice none 0 0, pV pb has, .bool false, S []]) (T := 114) (fz := (0, 0)) (v := .bool (!k0ad2.isNone)) Try.sizeOf4 rfl rfl rfl (.s .z) rfl rfl ?_
     refine G.nil ?_
     refine J116 _ _ ⟨.cons rfl .nil, ?_⟩
     rw [e]
     rfl
    ·refine G.s1 ?_
     refine G.s1 ?_
     refine G.s1 ?_
     refine G.s1 ?_
     refine G.s1 ?_
     refine G.s1 ?_
     refine G.s1 ?_
     refine G.s1 ?_
     refine G.s1 ?_
     refine G.s1 ?_
     refine G.vg rfl rfl (V.pickF rfl rfl) rfl ?_
     refine G.m4 ?_
     refine G.v (V.fa F114_2 rfl) rfl ?_
     have h5 : ¬ kpath.length = 1 := by have := of_decide_eq_false h585; omega
     have h3 : ¬ knt = 3 := by have := of_decide_eq_false h598; omega
     have e : ((decide (kpath.length = 1) && kh.isSome) || (decide (knt = 3) && ((kkids.head?).map (fun t : T0 => t.h.isSome)).getD false)) = false := by rw [decide_eq_false h5, decide_eq_false h3, Bool.false_and, Bool.false_or, Bool.false_and]
     refine G.st (b := vb) (off := 0 + 2) (l := [.slice none 0 0, pV pb has, .bool false, S []]) (T := 114) (fz := (0, 0)) (v := .bool (false)) Try.sizeOf4 rfl rfl rfl (.s .z) rfl rfl ?_
     refine G.nil ?_
     refine J116 _ _ ⟨.cons rfl .nil, ?_⟩
     rw [e]
     rfl
  rintro fr' H' ⟨hs116, rfl⟩
  refine GC.weak hs116 ?_
  clear hs116
  refine GC.turn (H' := (⟨vb, true, .row [.slice none 0 0, pV pb has, .bool ((decide (kpath.length = 1) && kh.isSome) || (decide (knt = 3) && ((kkids.head?).map (fun t : T0 => t.h.isSome)).getD false)), S []] 114 (0, 0)⟩ :: ⟨pb, true, .row [.slice (some ⟨prb, 0, none⟩) ps.length cP] 96 (0, 0)⟩ :: ⟨prb, true, .row prow 100 (0, 0)⟩ :: ⟨qb, true, .row [.slice (some ⟨srb, 0, none⟩) sk.length cS] 111 (0, 0)⟩ :: ⟨srb, true, .row srow 126 (0, 0)⟩ :: (Cs ++ Ht))) (fun w1 h1 => h1.sub (List.sublist_cons_self _ _)) ?_
  refine GC.seq ?_
  refine GC.reg ?_
  refine G.v (V.ldA (b := vb) (off := 0) (s := 4) (wf := true) (l := [.slice none 0 0, pV pb has, .bool ((decide (kpath.length = 1) && kh.isSome) || (decide (knt = 3) && ((kkids.head?).map (fun t : T0 => t.h.isSome)).getD false)), S []]) (T := 114) (fz := (0, 0)) (cs := [.slice none 0 0, pV pb has, .bool ((decide (kpath.length = 1) && kh.isSome) || (decide (knt = 3) && ((kkids.head?).map (fun t : T0 => t.h.isSome)).getD false)), S []]) Try.isAgg114 Try.sizeOf114 rfl (.head _) rfl rfl) rfl ?_
  refine G.stA (cs := [.slice none 0 0, pV pb has, .bool ((decide (kpath.length = 1) && kh.isSome) || (decide (knt = 3) && ((kkids.head?).map (fun t : T0 => t.h.isSome)).getD false)), S []]) Try.sizeOf114 rfl rfl (by intro v hv; simp only [List.mem_cons, List.not_mem_nil, or_false] at hv; rcases hv with rfl | rfl | rfl | rfl <;> first | rfl | exact pV_one _ _) .z rfl ?_
  refine G.nil ?_
  refine GC.retC (cs := [.slice none 0 0, pV pb has, .bool ((decide (kpath.length = 1) && kh.isSome) || (decide (knt = 3) && ((kkids.head?).map (fun t : T0 => t.h.isSome)).getD false)), S []]) rfl Try.isAgg114 Try.sizeOf114 rfl (.head _) rfl fun w' hw' => fin has prow (.slice none 0 0) w' hpr hprt hhas (HVX_none) (hw'.sub (.cons _ (.cons_cons _ (.cons_cons _ (.cons _ (.cons _ (List.sublist_append_right _ _)))))))
 refine GC.skip ?_
 refine GC.inBlock ?_
 refine GC.reg ?_
 refine G.v (V.addI (r := ((q + 1 : Nat) : Int)) rfl rfl rfl (by omega) (by omega)) rfl ?_
 refine G.m1 ?_
 refine G.nil ?_
 have hxc : x ≠ 47 := fun e => h571 (by rw [e]; rfl)
 have hqj : q ≠ i := fun e => hxc (by rw [e, hjc] at hx; exact (Option.some.inj hx).symm)
 exact ih (N - 1) _ _ (by omega) ⟨q + 1, by omega, .of rfl, rfl⟩
theorem g76_retM {R : Ending → World → Prop} {w : World} {D : Nat → Prop} {vb pb prb qb srb cP cS : Nat} {un : Bool} {Ht : SH} {n : T0} {p : List UInt8} {ps : List (List UInt8 × List UInt8)} {sk : List Sk} {nb : Nat} {has : Bool} {prow srow : List Value} {Cs : SH} {fr : SF} {_c : UInt8}
  (hn : Rd Ht Cs n nb) (hpr : prow.length = 2 * cP) (hprt : prow.take (2 * ps.length) = flatP ps) (_hsr : srow.length = 3 * cS) (_hsk : SkRow Ht Cs srow sk) (hhas : has = false → ps = []) (_hpl : p.length ≤ 100000) (_hpc : ps.length ≤ cP) (_hcP : cP ≤ 20000) (_hsc : sk.length ≤ cS) (_hcS : cS ≤ 20000) (hsub : Sub [(0, Pt nb 0), (1, S p), (2, Pt pb 0), (3, Pt qb 0), (4, .bool un), (10, Pt vb 0), (11, .int .i16 (ps.length : Int)), (12, S n.path)] fr) {ts : Bool} (hend : ts = true ∨ p = [47] ∨ sk = [])
  (fin : Fin76 R w D pb prb cP Ht ⟨none, ps, ts, []⟩) :
  GC Try.prog ⟨76, Try.f76, R, w, D⟩ 703 K76x fr (⟨vb, true, .row [(.slice none 0 0), (pV pb has), .bool ts, (S [])] 114 (0, 0)⟩ :: ⟨pb, true, .row [.slice (some ⟨prb, 0, none⟩) ps.length cP] 96 (0, 0)⟩ :: ⟨prb, true, .row prow 100 (0, 0)⟩ :: ⟨qb, true, .row [.slice (some ⟨srb, 0, none⟩) sk.length cS] 111 (0, 0)⟩ :: ⟨srb, true, .row srow 126 (0, 0)⟩ :: (Cs ++ Ht)) := by
 refine GC.weak hsub ?_
 clear hsub
 have hn0 := hn
 cases hn with
 | @mk path idx wild nt pr h full kids _ bs kv hv Hs hm hs hsm hbl hh hk =>
 simp only [n_path] at *
 obtain ⟨ad, cap, rfl⟩ := hs.slice
 obtain ⟨ad2, l2, c2, rfl, hnn⟩ := hh.slice
 refine GC.seq ?_
 refine GC.seq ?_
 refine GC.join (fun fr' H' => ∃ t, (t = true → ts = false ∧ p ≠ [47]) ∧ Sub [(0, Pt nb 0), (1, S p), (2, Pt pb 0), (3, Pt qb 0), (4, .bool un), (10, Pt vb 0), (11, .int .i16 (ps.length : Int)), (12, S path), (655, .bool t)] fr' ∧ H' = (⟨vb, true, .row [(.slice none 0 0), (pV pb has), .bool ts, (S [])] 114 (0, 0)⟩ :: ⟨pb, true, .row [.slice (some ⟨prb, 0, none⟩) ps.length cP] 96 (0, 0)⟩ :: ⟨prb, true, .row prow 100 (0, 0)⟩ :: ⟨qb, true, .row [.slice (some ⟨srb, 0, none⟩) sk.length cS] 111 (0, 0)⟩ :: ⟨srb, true, .row srow 126 (0, 0)⟩ :: (Cs ++ Ht))) (fun J121 => ?_) ?_
 ·refine GC.reg ?_
  refine G.v (V.fa F114_2 rfl) rfl ?_
  refine G.v (V.ld (b := vb) (off := 0 + 2) (wf := true) (l := [.slice none 0 0, pV pb has, .bool ts, S []]) (T := 114) (fz := (0, 0)) (v := .bool ts) Try.isAgg4 rfl (.head _) rfl) rfl ?_
  refine G.v (V.not rfl) rfl ?_
  refine G.m1 ?_
  refine G.bc 652 rfl (fun h652 => ?_) (fun h652 => ?_)
  ·refine G.m5 ?_
   refine G.vg rfl rfl (V.neS rfl rfl) rfl ?_
   refine G.m3 ?_
   refine G.nil ?_
   exact J121 _ _ ⟨_, fun h => ⟨by simpa using h652, by simpa using h⟩, .of rfl, rfl⟩
  ·refine G.s1 ?_
   refine G.s1 ?_
   refine G.m4 ?_
   refine G.nil ?_
   exact J121 _ _ ⟨false, fun h => (by cases h), .of rfl, rfl⟩
 rintro fr' H' ⟨t, ht, hs121, rfl⟩
 refine GC.weak hs121 ?_
 clear hs121
 refine GC.join (fun fr' H' => Sub [(0, Pt nb 0), (1, S p), (2, Pt pb 0), (3, Pt qb 0), (4, .bool un), (10, Pt vb 0), (11, .int .i16 (ps.length : Int)), (12, S path)] fr' ∧ H' = (⟨vb, true, .row [(.slice none 0 0), (pV pb has), .bool ts, (S [])] 114 (0, 0)⟩ :: ⟨pb, true, .row [.slice (some ⟨prb, 0, none⟩) ps.length cP] 96 (0, 0)⟩ :: ⟨prb, true, .row prow 100 (0, 0)⟩ :: ⟨qb, true, .row [.slice (some ⟨srb, 0, none⟩) sk.length cS] 111 (0, 0)⟩ :: ⟨srb, true, .row srow 126 (0, 0)⟩ :: (Cs ++ Ht))) (fun J655 => ?_) ?_
 ·refine GC.cond rfl (fun h655 => ?_) (fun h655 => ?_)
  ·refine GC.seq ?_
   obtain ⟨h6a, h6b⟩ := ht h655
   have hsk0 : sk = [] := by
    rcases hend with h | h | h
    ·rw [h] at h6a; cases h6a
    ·exact absurd h h6b
    ·exact h
   refine GC.reg ?_
   refine G.m1 ?_
   refine G.v (V.nc rfl) rfl ?_
   refine G.v (V.ld (b := qb) (off := 0) (wf := true) (l := [.slice (some ⟨srb, 0, none⟩) sk.length cS]) (T := 111) (fz := (0, 0)) (v := .slice (some ⟨srb, 0, none⟩) sk.length cS) Try.isAgg111 rfl (m3 (.head _)) rfl) rfl ?_
   refine G.v (V.lenL Try.underlying111 rfl) rfl ?_
   refine G.m2 ?_
   refine G.nil ?_
   refine GC.block ?_
   refine GC.loop ?_
   refine GC.seq ?_
   refine GC.seq ?_
   refine GC.reg ?_
   refine G.m1 ?_
   refine G.v (V.gt rfl rfl) rfl ?_
   refine G.nil ?_
   refine GC.condD rfl (fun h661 => absurd h661 (by rw [hsk0]; simp)) (fun h661 => ?_)
   refine GC.exit rfl ?_
   exact J655 _ _ ⟨.of rfl, rfl⟩
  refine GC.skip ?_
  exact J655 _ _ ⟨.of rfl, rfl⟩
 rintro fr' H' ⟨hs655, rfl⟩
 refine GC.weak hs655 ?_
 clear hs655
 refine GC.seq ?_
 refine GC.reg ?_
 refine G.v (V.ldA (b := vb) (off := 0) (s := 4) (wf := true) (l := [.slice none 0 0, pV pb has, .bool ts, S []]) (T := 114) (fz := (0, 0)) (cs := [.slice none 0 0, pV pb has, .bool ts, S []]) Try.isAgg114 Try.sizeOf114 rfl (.head _) rfl rfl) rfl ?_
 refine G.stA (cs := [.slice none 0 0, pV pb has, .bool ts, S []]) Try.sizeOf114 rfl rfl (by intro v hv; simp only [List.mem_cons, List.not_mem_nil, or_false] at hv; rcases hv with rfl | rfl | rfl | rfl <;> first | rfl | exact pV_one _ _) .z rfl ?_
 refine G.nil ?_
 refine GC.retC (cs := [.slice none 0 0, pV pb has, .bool ts, S []]) rfl Try.isAgg114 Try.sizeOf114 rfl (.head _) rfl fun w' hw' => fin has prow (.slice none 0 0) w' hpr hprt hhas (HVX_none) (hw'.sub (.cons _ (.cons_cons _ (.cons_cons _ (.cons _ (.cons _ (List.sublist_append_right _ _)))))))
end Go.Proofs

/- getValue: a wildcard. Printed by wip/mk_gg6.py. -/
set_option maxRecDepth 20000
namespace Go.Proofs
open Go Bw
open Gt
def blkP : List Item → List Item
 | .code (.seq _ (.seq _ (.seq _ (.seq _ (.block id (.seq _ (.cond _ (.seq _ (.seq _ (.seq _ t))) _))))))) :: k => .code t :: .inBlock id :: k
 | k => k
/-- behind a parameter -/
noncomputable def K76p : List Item := blkP K76n
theorem wrap16 {n : Nat} (h : n ≤ 20000) : IntKind.i16.wrap ((n : Int) + 1) = ((n + 1 : Nat) : Int) := by
 unfold IntKind.wrap
 simp [IntKind.bits, IntKind.signed]
 omega
theorem eqP_pV {P : Program} {c : Cx} {n : Nat} {fr : SF} {H : SH} {t u e : TypeId} {ty : TypeId} {x : Operand} {pb : Nat} {has : Bool} (hU : P.underlying t = some (.pointer e)) (hx : ev fr x = some (pV pb has)) : Val P c n (.binOp .eql t x (.const Nil) u) ty fr H (.bool (!has)) := by
 cases has with
 | true => exact V.eqP (p := some ⟨pb, 0, none⟩) hU hx
 | false => exact V.eqP (p := none) hU hx
theorem bd_pm (a b : List UInt8) (w : World) : (Instr.build 100 #[(0, S a), (1, S b)]).run Try.prog w = .ok (.agg #[S a, S b]) w := by
 simp [Instr.build, Try.zeroValue100, Try.runUnderlying100, Try.sizeOf9, cells_agg, Instr.fill, cells_str]
theorem tw_le (p : List UInt8) : (p.takeWhile (· ≠ 47)).length ≤ p.length := (List.takeWhile_sublist _).length_le
theorem tw_get : ∀ {p : List UInt8} {i : Nat} {x : UInt8}, i ≤ (p.takeWhile (· ≠ 47)).length → p[i]? = some x → (x ≠ 47 → i + 1 ≤ (p.takeWhile (· ≠ 47)).length) ∧ (x = 47 → i = (p.takeWhile (· ≠ 47)).length)
 | [], i, x, _, h => by simp at h
 | c :: p, 0, x, _, h => by
  simp at h; subst h
  by_cases e : c = 47
  ·subst e; simp
  ·simp [e]
 | c :: p, i + 1, x, hi, h => by
  by_cases e : c = 47
  ·subst e; simp at hi
  ·have h1 : (c :: p).takeWhile (· ≠ 47) = c :: p.takeWhile (· ≠ 47) := by simp [e]
   rw [h1, List.length_cons] at hi ⊢
   have := tw_get (p := p) (i := i) (x := x) (by omega) (by simpa using h)
   exact ⟨fun hx => by have := this.1 hx; omega, fun hx => by have := this.2 hx; omega⟩
theorem tw_take (p : List UInt8) : p.take (p.takeWhile (· ≠ 47)).length = p.takeWhile (· ≠ 47) := by
 have h : p.takeWhile (· ≠ 47) <+: p := List.takeWhile_prefix _
 exact (List.prefix_iff_eq_take.1 h).symm
theorem prt_more {prow : List Value} {ps : List (List UInt8 × List UInt8)} {cP : Nat} (hl : prow.length = 2 * cP) (h : prow.take (2 * ps.length) = flatP ps) (hc : ps.length < cP) (a b : List UInt8) : (setR prow (2 * ps.length) [S a, S b]).take (2 * (ps ++ [(a, b)]).length) = flatP (ps ++ [(a, b)]) := by
 have e : 2 * (ps ++ [(a, b)]).length = 2 * ps.length + [S a, S b].length := by simp; omega
 rw [e, setR_take (by omega), h, flatP_app]; rfl
theorem unV_of {un : Bool} {v : List UInt8} {e : Ending} (h : unE v e) (hun : un = true) : (∃ x, e = .returned (.tuple #[S x, .nilIface]) ∧ unV un v = x) ∨ (∃ b, e = .returned (.tuple #[S [], .iface 136 (Pt b 0)]) ∧ unV un v = v) := by
 unfold unE at h
 subst hun
 unfold unV
 rw [if_pos rfl]
 cases hx : unesc (v.length + 1) v [] with
 | some x => rw [hx] at h; exact .inl ⟨x, h, rfl⟩
 | none => rw [hx] at h; obtain ⟨b, h⟩ := h; exact .inr ⟨b, h, rfl⟩
theorem eqIn_nn {P : Program} {t : TypeId} {w : World} {ms : _} (d : Nat) (hU : P.underlying t = some (.interface ms)) : (Op.equalIn (d + 1) t .nilIface .nilIface).run P w = .ok true w := by
 simp [Op.equalIn, underlying, hU]
theorem eqIn_in {P : Program} {t t2 : TypeId} {v : Value} {w : World} {ms : _} (d : Nat) (hU : P.underlying t = some (.interface ms)) : (Op.equalIn (d + 1) t (.iface t2 v) .nilIface).run P w = .ok false w := by
 simp [Op.equalIn, underlying, hU]
theorem eq_err {P : Program} {c : Cx} {n : Nat} {fr : SF} {H : SH} {t u : TypeId} {ty : TypeId} {ms : _} {x : Operand} {er : Value} {en : Bool} {A B : Prop} (hU : P.underlying t = some (.interface ms)) (h : (en = true ∧ er = .nilIface ∧ A) ∨ (en = false ∧ (∃ b, er = .iface 136 (Pt b 0)) ∧ B)) (hx : ev fr x = some er) : Val P c n (.binOp .eql t x (.const .nilIface) u) ty fr H (.bool en) := by
 intro a w ha hw dst pos aft g
 have h2 : a.eval (.const .nilIface) = .nilIface := rfl
 rcases h with ⟨rfl, rfl, _⟩ | ⟨rfl, ⟨b, rfl⟩, _⟩
 ·have h1 := ha.eval hx
  have h3 : (Op.equal t .nilIface .nilIface).run P w = .ok true w := eqIn_nn 9999 hU
  simp [execOp, h1, h2, eqGuard, binOp, h3]
 ·have h1 := ha.eval hx
  have h3 : (Op.equal t (.iface 136 (Pt b 0)) .nilIface).run P w = .ok false w := eqIn_in 9999 hU
  simp [execOp, h1, h2, eqGuard, binOp, h3]
theorem g76_par {R : Ending → World → Prop} {w : World} {D : Nat → Prop} {vb pb prb qb srb cP cS : Nat} {un : Bool} {Ht : SH} {n : T0} {p : List UInt8} {ps : List (List UInt8 × List UInt8)} {sk : List Sk} {nb : Nat} {has : Bool} {prow srow : List Value} {Cs : SH} {fr : SF} {c : UInt8}
  (hn : Rd Ht Cs n nb) (hpr : prow.length = 2 * cP) (hprt : prow.take (2 * ps.length) = flatP ps) (_hsr : srow.length = 3 * cS) (_hsk : SkRow Ht Cs srow sk) (hhas : has = false → ps = []) (hpl : p.length ≤ 100000) (_hpc : ps.length ≤ cP) (hcP : cP ≤ 20000) (_hsc : sk.length ≤ cS) (_hcS : cS ≤ 20000) (hsub : Sub [(0, Pt nb 0), (1, S p), (2, Pt pb 0), (3, Pt qb 0), (4, .bool un), (10, Pt vb 0), (11, .int .i16 (ps.length : Int)), (12, S n.path), (13, .int .u8 (c.toNat : Int))] fr) {k : T0} (hw : n.wild = true) (hkid : n.kids[n.kids.length - 1]? = some k) (hroomP : ps.length < cP) (hkp2 : 2 ≤ k.path.length) (hkl9 : n.kids.length ≤ 100000) (hk2 : k.nt = 2)
  (go : ∀ kb prow' np fr', Rd Ht Cs k kb → prow'.length = 2 * cP → prow'.take (2 * (ps ++ [(k.path.drop 1, unV un (p.takeWhile (· ≠ 47)))]).length) = flatP (ps ++ [(k.path.drop 1, unV un (p.takeWhile (· ≠ 47)))]) → np = (ps ++ [(k.path.drop 1, unV un (p.takeWhile (· ≠ 47)))]).length → Sub [(0, Pt kb 0), (1, S p), (2, Pt pb 0), (3, Pt qb 0), (4, .bool un), (10, Pt vb 0), (11, .int .i16 (np : Int)), (19, I ((p.takeWhile (· ≠ 47)).length : Nat))] fr' → GC Try.prog ⟨76, Try.f76, R, w, D⟩ 703 K76p fr' (⟨vb, true, .row [(.slice none 0 0), (pV pb true), .bool false, (S [])] 114 (0, 0)⟩ :: ⟨pb, true, .row [.slice (some ⟨prb, 0, none⟩) np cP] 96 (0, 0)⟩ :: ⟨prb, true, .row prow' 100 (0, 0)⟩ :: ⟨qb, true, .row [.slice (some ⟨srb, 0, none⟩) sk.length cS] 111 (0, 0)⟩ :: ⟨srb, true, .row srow 126 (0, 0)⟩ :: (Cs ++ Ht))) :
  GC Try.prog ⟨76, Try.f76, R, w, D⟩ 703 K76n fr (⟨vb, true, .row [(.slice none 0 0), (pV pb has), .bool false, (S [])] 114 (0, 0)⟩ :: ⟨pb, true, .row [.slice (some ⟨prb, 0, none⟩) ps.length cP] 96 (0, 0)⟩ :: ⟨prb, true, .row prow 100 (0, 0)⟩ :: ⟨qb, true, .row [.slice (some ⟨srb, 0, none⟩) sk.length cS] 111 (0, 0)⟩ :: ⟨srb, true, .row srow 126 (0, 0)⟩ :: (Cs ++ Ht)) := by
 refine GC.weak hsub ?_
 clear hsub
 have hn0 := hn
 cases hn with
 | @mk path idx wild nt pr h full kids _ bs kv hv Hs hm hs hsm hbl hh hk =>
 simp only [n_path, n_kids, n_wild] at *
 obtain ⟨ad, cap, rfl⟩ := hs.slice
 obtain ⟨ad2, l2, c2, rfl, hnn⟩ := hh.slice
 have htl := tw_le p
 refine GC.seq ?_
 refine GC.seq ?_
 refine GC.reg ?_
 refine G.m1 ?_
 refine G.v (V.nc rfl) rfl ?_
 refine G.v (V.fa F107_2 rfl) rfl ?_
 refine G.v (V.ld (b := nb) (off := 0 + 2) (wf := true) (l := nodeR path idx wild nt pr (.slice ad kids.length cap) (.slice ad2 l2 c2) full) (T := 107) (fz := (0, 0)) (v := .bool wild) Try.isAgg4 rfl (m5 hm) rfl) rfl ?_
 refine G.v (V.not rfl) rfl ?_
 refine G.nil ?_
 refine GC.cond rfl (fun h139 => absurd h139 (by rw [hw]; decide)) (fun h139 => ?_)
 refine GC.skip ?_
 refine GC.seq ?_
 have hkl := (List.getElem?_eq_some_iff.1 hkid).1
 obtain ⟨kb, hkb⟩ : ∃ kb, bs[kids.length - 1]? = some kb := ⟨_, List.getElem?_eq_getElem (by omega)⟩
 have hrk := hk (kids.length - 1) k kb hkid hkb
 obtain ⟨rb, cap2, spare, e1, rfl⟩ := hs.at hkl
 cases e1
 have hrbm := hsm _ (.head _)
 clear hs
 have hrk0 := hrk
 cases hrk with
 | @mk kpath kidx kwild knt kpr kh kfull kkids _ kbs kkv khv kHs km ks ksm kbl khh kk =>
 simp only [n_path, n_nt] at *
 obtain ⟨kad, kcap, rfl⟩ := ks.slice
 obtain ⟨kad2, kl2, kc2, rfl, khnn⟩ := khh.slice
 refine GC.regQ mixed (by kernel_rfl) ?_
 refine GQ.v (V.mv rfl) rfl ?_
 refine GQ.v (V.nc rfl) rfl ?_
 refine GQ.v (V.fa F107_5 rfl) rfl ?_
 refine GQ.v (V.ld (b := nb) (off := 0 + 5) (wf := true) (l := nodeR path idx wild nt pr (.slice (some ⟨rb, 0, none⟩) kids.length cap) (.slice ad2 l2 c2) full) (T := 107) (fz := (0, 0)) (v := (.slice (some ⟨rb, 0, none⟩) kids.length cap)) Try.isAgg105 rfl (m5 hm) rfl) rfl ?_
 refine GQ.v (V.mv rfl) rfl ?_
 refine GQ.v (V.nc rfl) rfl ?_
 refine GQ.v (V.fa F107_5 rfl) rfl ?_
 refine GQ.v (V.ld (b := nb) (off := 0 + 5) (wf := true) (l := nodeR path idx wild nt pr (.slice (some ⟨rb, 0, none⟩) kids.length cap) (.slice ad2 l2 c2) full) (T := 107) (fz := (0, 0)) (v := (.slice (some ⟨rb, 0, none⟩) kids.length cap)) Try.isAgg105 rfl (m5 hm) rfl) rfl ?_
 refine GQ.v (V.lenL Try.underlying105 rfl) rfl ?_
 refine GQ.v (V.subI (r := ((kids.length - 1 : Nat) : Int)) rfl rfl (by omega) (by omega) (by omega)) rfl ?_
 refine GQ.v (V.ia (i := kids.length - 1) Try.underlying105 Try.sizeOf89 rfl rfl hkl) rfl ?_
 refine GQ.v (V.ld (b := rb) (off := 0 + (kids.length - 1) * 1) (wf := true) (l := bs.map (Pt · 0) ++ spare) (T := 89) (fz := (0, 0)) (v := Pt kb 0) Try.isAgg89 rfl (.tail _ (.tail _ (.tail _ (.tail _ (.tail _ ((List.mem_append_right _ hrbm))))))) (by rw [nth_eq, Nat.zero_add, Nat.mul_one, List.getElem?_append_left (by rw [List.length_map]; omega), List.getElem?_map, hkb]; rfl)) rfl ?_
 refine GQ.v (V.asg rfl) rfl ?_
 refine GQ.nil ?_
 refine GC.seq ?_
 refine GC.reg ?_
 refine G.m1 ?_
 refine G.v (V.add (i := (ps.length : Int)) (j := 1) rfl rfl) rfl ?_
 rw [wrap16 (by omega)]
 refine G.m2 ?_
 refine G.nil ?_
 refine GC.seq ?_
 refine GC.reg ?_
 refine G.m1 ?_
 refine G.v (V.nc rfl) rfl ?_
 refine G.v (V.fa F107_3 rfl) rfl ?_
 refine G.v (V.ld (b := kb) (off := 0 + 3) (wf := true) (l := nodeR kpath kidx kwild knt kpr (.slice kad kkids.length kcap) (.slice kad2 kl2 kc2) kfull) (T := 107) (fz := (0, 0)) (v := .int .u8 (knt : Int)) Try.isAgg103 rfl (m5 km) rfl) rfl ?_
 refine G.nil ?_
 refine GC.block ?_
 refine GC.seq ?_
 refine GC.reg ?_
 refine G.v (V.eqI rfl rfl) rfl ?_
 refine G.m2 ?_
 refine G.nil ?_
 refine GC.condD rfl (fun h218 => ?_) (fun h218 => absurd (by rw [hk2]; rfl) h218)
 refine GC.seq ?_
 refine GC.reg ?_
 refine G.m2 ?_
 refine G.nil ?_
 refine GC.seq ?_
 refine GC.block ?_
 refine GC.loopJ (fun N fr' H' => ∃ e, e + N = (p.takeWhile (· ≠ 47)).length ∧ Sub [(0, Pt kb 0), (1, S p), (2, Pt pb 0), (3, Pt qb 0), (4, .bool un), (10, Pt vb 0), (11, .int .i16 ((ps.length + 1 : Nat) : Int)), (19, I (e : Nat))] fr' ∧ H' = (⟨vb, true, .row [(.slice none 0 0), (pV pb has), .bool false, (S [])] 114 (0, 0)⟩ :: ⟨pb, true, .row [.slice (some ⟨prb, 0, none⟩) ps.length cP] 96 (0, 0)⟩ :: ⟨prb, true, .row prow 100 (0, 0)⟩ :: ⟨qb, true, .row [.slice (some ⟨srb, 0, none⟩) sk.length cS] 111 (0, 0)⟩ :: ⟨srb, true, .row srow 126 (0, 0)⟩ :: (Cs ++ Ht))) (p.takeWhile (· ≠ 47)).length
  ⟨0, by omega, .of rfl, rfl⟩ ?_
 rintro N fr' H' ⟨e, he, hs2, rfl⟩ ih
 refine GC.weak hs2 ?_
 clear hs2
 refine GC.seq ?_
 refine GC.seq ?_
 refine GC.join (fun fr' H' => ∃ t : Bool, (t = true → e + 1 ≤ (p.takeWhile (· ≠ 47)).length) ∧ (t = false → e = (p.takeWhile (· ≠ 47)).length) ∧ Sub [(0, Pt kb 0), (1, S p), (2, Pt pb 0), (3, Pt qb 0), (4, .bool un), (10, Pt vb 0), (11, .int .i16 ((ps.length + 1 : Nat) : Int)), (19, I (e : Nat)), (229, .bool t)] fr' ∧ H' = (⟨vb, true, .row [(.slice none 0 0), (pV pb has), .bool false, (S [])] 114 (0, 0)⟩ :: ⟨pb, true, .row [.slice (some ⟨prb, 0, none⟩) ps.length cP] 96 (0, 0)⟩ :: ⟨prb, true, .row prow 100 (0, 0)⟩ :: ⟨qb, true, .row [.slice (some ⟨srb, 0, none⟩) sk.length cS] 111 (0, 0)⟩ :: ⟨srb, true, .row srow 126 (0, 0)⟩ :: (Cs ++ Ht))) (fun J38 => ?_) ?_
 ·refine GC.reg ?_
  refine G.m1 ?_
  refine G.m1 ?_
  refine G.v (V.lenS Try.underlying9 rfl) rfl ?_
  refine G.v (V.lt rfl rfl) rfl ?_
  refine G.m1 ?_
  refine G.bc 224 rfl (fun h224 => ?_) (fun h224 => ?_)
  ·refine G.m5 ?_
   refine G.m5 ?_
   obtain ⟨x, hx⟩ : ∃ x, p[e]? = some x := ⟨_, List.getElem?_eq_getElem (by have := of_decide_eq_true h224; omega)⟩
   have htg := tw_get (i := e) (by omega) hx
   refine G.vg rfl rfl (V.idx (i := e) (b := x) Try.underlying9 rfl rfl hx) rfl ?_
   refine G.vg rfl rfl (V.neI rfl rfl) rfl ?_
   refine G.m3 ?_
   refine G.nil ?_
   exact J38 _ _ ⟨_, fun h => htg.1 fun e2 => by rw [e2] at h; simp at h, fun h => htg.2 (u47 (by simpa using h)), .of rfl, rfl⟩
  ·refine G.s1 ?_
   refine G.s1 ?_
   refine G.s1 ?_
   refine G.s1 ?_
   refine G.m4 ?_
   refine G.nil ?_
   exact J38 _ _ ⟨false, fun h => (by cases h), fun _ => by have h1 := of_decide_eq_false h224; have h2 := tw_le p; omega, .of rfl, rfl⟩
 rintro fr' H' ⟨t, ht1, ht2, hs38, rfl⟩
 refine GC.weak hs38 ?_
 clear hs38
 refine GC.cond rfl (fun h229 => ?_) (fun h229 => ?_)
 ·refine GC.skip ?_
  refine GC.block ?_
  refine GC.reg ?_
  refine G.m1 ?_
  refine G.v (V.addI (r := ((e + 1 : Nat) : Int)) rfl rfl rfl (by omega) (by omega)) rfl ?_
  refine G.m2 ?_
  refine G.nil ?_
  refine GC.inBlock ?_
  exact ih (N - 1) _ _ (by have := ht1 h229; omega) ⟨e + 1, by have := ht1 h229; omega, .of rfl, rfl⟩
 refine GC.exit rfl ?_
 refine GC.seq ?_
 refine GC.seq ?_
 have hee : e = (p.takeWhile (· ≠ 47)).length := ht2 (by simpa using h229)
 subst hee
 generalize hv9 : p.takeWhile (· ≠ 47) = v at *
 have hvl : v.length ≤ p.length := by rw [← hv9]; exact tw_le p
 have hvt : p.take v.length = v := by rw [← hv9]; exact tw_take p
 refine GC.reg ?_
 refine G.m1 ?_
 refine G.v (V.neP (p := some ⟨pb, 0, none⟩) Try.underlying112 rfl) rfl ?_
 refine G.nil ?_
 refine GC.cond rfl (fun h233 => ?_) (fun h233 => absurd h233 (by simp))
 refine GC.seq ?_
 refine GC.seq ?_
 refine GC.reg ?_
 refine G.m1 ?_
 refine G.v (V.nc rfl) rfl ?_
 refine G.v (V.ld (b := pb) (off := 0) (wf := true) (l := [.slice (some ⟨prb, 0, none⟩) ps.length cP]) (T := 96) (fz := (0, 0)) (v := .slice (some ⟨prb, 0, none⟩) (ps.length) cP) Try.isAgg96 rfl (.tail _ (.head _)) rfl) rfl ?_
 refine G.v (V.capL Try.underlying96 rfl) rfl ?_
 refine G.m1 ?_
 refine G.v (V.cvI Try.underlying124 Try.underlying3 rfl) rfl ?_
 rw [wrap_i64 (by omega) (by omega)]
 refine G.v (V.lt rfl rfl) rfl ?_
 refine G.nil ?_
 refine GC.condD rfl (fun h240 => absurd h240 (by omega)) (fun h240 => ?_)
 refine GC.skip ?_
 refine GC.seq ?_
 refine GC.seq ?_
 refine GC.reg ?_
 refine G.v (V.fa F114_1 rfl) rfl ?_
 refine G.v (V.ld (b := vb) (off := 0 + 1) (wf := true) (l := [.slice none 0 0, pV pb has, .bool false, S []]) (T := 114) (fz := (0, 0)) (v := pV pb has) Try.isAgg112 rfl (.head _) rfl) rfl ?_
 refine G.v (eqP_pV Try.underlying112 rfl) rfl ?_
 refine G.nil ?_
 refine GC.join (fun fr' H' => Sub [(0, Pt kb 0), (1, S p), (2, Pt pb 0), (3, Pt qb 0), (4, .bool un), (10, Pt vb 0), (11, .int .i16 ((ps.length + 1 : Nat) : Int)), (19, I (v.length : Nat))] fr' ∧ H' = (⟨vb, true, .row [.slice none 0 0, Pt pb 0, .bool false, S []] 114 (0, 0)⟩ :: ⟨pb, true, .row [.slice (some ⟨prb, 0, none⟩) ps.length cP] 96 (0, 0)⟩ :: ⟨prb, true, .row prow 100 (0, 0)⟩ :: ⟨qb, true, .row [.slice (some ⟨srb, 0, none⟩) sk.length cS] 111 (0, 0)⟩ :: ⟨srb, true, .row srow 126 (0, 0)⟩ :: (Cs ++ Ht))) (fun JS257 => ?_) ?_
 ·refine GC.cond rfl (fun h257 => ?_) (fun h257 => ?_)
  ·refine GC.reg ?_
   refine G.m1 ?_
   refine G.v (V.fa F114_1 rfl) rfl ?_
   refine G.st (b := vb) (off := 0 + 1) (l := [.slice none 0 0, pV pb has, .bool false, S []]) (T := 114) (fz := (0, 0)) (v := Pt pb 0) Try.sizeOf112 rfl rfl rfl .z rfl rfl ?_
   refine G.nil ?_
   exact JS257 _ _ ⟨.of rfl, rfl⟩
  refine GC.skip ?_
  have hht : has = true := by simpa using h257
  subst hht
  exact JS257 _ _ ⟨.of rfl, rfl⟩
 rintro fr' H' ⟨hsjs, rfl⟩
 refine GC.weak hsjs ?_
 clear hsjs
 refine GC.seq ?_
 refine GC.reg ?_
 refine G.v (V.fa F114_1 rfl) rfl ?_
 refine G.v (V.ld (b := vb) (off := 0 + 1) (wf := true) (l := [.slice none 0 0, Pt pb 0, .bool false, S []]) (T := 114) (fz := (0, 0)) (v := Pt pb 0) Try.isAgg112 rfl (.head _) rfl) rfl ?_
 refine G.v (V.nc rfl) rfl ?_
 refine G.v (V.ld (b := pb) (off := 0) (wf := true) (l := [.slice (some ⟨prb, 0, none⟩) ps.length cP]) (T := 96) (fz := (0, 0)) (v := .slice (some ⟨prb, 0, none⟩) (ps.length) cP) Try.isAgg96 rfl (.tail _ (.head _)) rfl) rfl ?_
 refine G.v (V.lenL Try.underlying96 rfl) rfl ?_
 refine G.m2 ?_
 refine G.nil ?_
 refine GC.seq ?_
 refine GC.regT 10 mixed (by kernel_rfl) rfl rfl ?_
 refine GS.v (V.fa F114_1 rfl) rfl ?_
 refine GS.v (V.ld (b := vb) (off := 0 + 1) (wf := true) (l := [.slice none 0 0, Pt pb 0, .bool false, S []]) (T := 114) (fz := (0, 0)) (v := Pt pb 0) Try.isAgg112 rfl (.head _) rfl) rfl ?_
 refine GS.v (V.fa F114_1 rfl) rfl ?_
 refine GS.v (V.ld (b := vb) (off := 0 + 1) (wf := true) (l := [.slice none 0 0, Pt pb 0, .bool false, S []]) (T := 114) (fz := (0, 0)) (v := Pt pb 0) Try.isAgg112 rfl (.head _) rfl) rfl ?_
 refine GS.v (V.nc rfl) rfl ?_
 refine GS.v (V.ld (b := pb) (off := 0) (wf := true) (l := [.slice (some ⟨prb, 0, none⟩) ps.length cP]) (T := 96) (fz := (0, 0)) (v := .slice (some ⟨prb, 0, none⟩) (ps.length) cP) Try.isAgg96 rfl (.tail _ (.head _)) rfl) rfl ?_
 refine GS.v (V.mv rfl) rfl ?_
 refine GS.v (V.addI (r := ((ps.length + 1 : Nat) : Int)) rfl rfl rfl (by omega) (by omega)) rfl ?_
 refine GS.v (V.slTH (i := ps.length + 1) Try.underlying96 Try.sizeOf100 rfl rfl (by omega)) rfl ?_
 refine GS.v (V.nc rfl) rfl ?_
 refine GS.nil ?_
 refine G.st (b := pb) (off := 0) (l := [.slice (some ⟨prb, 0, none⟩) ps.length cP]) (T := 96) (fz := (0, 0)) (v := .slice (some ⟨prb, 0, none⟩) (ps.length + 1) cP) Try.sizeOf96 rfl rfl rfl (.s .z) rfl rfl ?_
 refine G.nil ?_
 refine GC.turn (H' := (⟨vb, true, .row [.slice none 0 0, Pt pb 0, .bool false, S []] 114 (0, 0)⟩ :: ⟨pb, true, .row [.slice (some ⟨prb, 0, none⟩) (ps.length + 1) cP] 96 (0, 0)⟩ :: ⟨prb, true, .row prow 100 (0, 0)⟩ :: ⟨qb, true, .row [.slice (some ⟨srb, 0, none⟩) sk.length cS] 111 (0, 0)⟩ :: ⟨srb, true, .row srow 126 (0, 0)⟩ :: (Cs ++ Ht))) (fun w1 h1 => h1) ?_
 refine GC.seq ?_
 refine GC.reg ?_
 refine G.m1 ?_
 refine G.m1 ?_
 refine G.v (V.slH (j := v.length) Try.underlying9 rfl rfl hvl) rfl ?_
 rw [hvt]
 refine G.m2 ?_
 refine G.nil ?_
 refine GC.seq ?_
 refine GC.seq ?_
 refine GC.reg ?_
 refine G.m1 ?_
 refine G.nil ?_
 refine GC.join (fun fr' H' => Sub [(0, Pt kb 0), (1, S p), (2, Pt pb 0), (3, Pt qb 0), (4, .bool un), (10, Pt vb 0), (11, .int .i16 ((ps.length + 1 : Nat) : Int)), (19, I (v.length : Nat)), (21, I (ps.length : Nat)), (22, S (unV un v))] fr' ∧ H' = (⟨vb, true, .row [.slice none 0 0, Pt pb 0, .bool false, S []] 114 (0, 0)⟩ :: ⟨pb, true, .row [.slice (some ⟨prb, 0, none⟩) (ps.length + 1) cP] 96 (0, 0)⟩ :: ⟨prb, true, .row prow 100 (0, 0)⟩ :: ⟨qb, true, .row [.slice (some ⟨srb, 0, none⟩) sk.length cS] 111 (0, 0)⟩ :: ⟨srb, true, .row srow 126 (0, 0)⟩ :: (Cs ++ Ht))) (fun JU278 => ?_) ?_
 ·refine GC.cond rfl (fun h278 => ?_) (fun h278 => ?_)
  ·refine GC.seq ?_
   refine GC.reg ?_
   refine G.m1 ?_
   refine G.callW (fun vv H2 => ((∃ x, vv = .tuple #[S x, .nilIface] ∧ unV un v = x) ∨ (∃ b, vv = .tuple #[S [], .iface 136 (Pt b 0)] ∧ unV un v = v)) ∧ (⟨vb, true, .row [.slice none 0 0, Pt pb 0, .bool false, S []] 114 (0, 0)⟩ :: ⟨pb, true, .row [.slice (some ⟨prb, 0, none⟩) (ps.length + 1) cP] 96 (0, 0)⟩ :: ⟨prb, true, .row prow 100 (0, 0)⟩ :: ⟨qb, true, .row [.slice (some ⟨srb, 0, none⟩) sk.length cS] 111 (0, 0)⟩ :: ⟨srb, true, .row srow 126 (0, 0)⟩ :: (Cs ++ Ht)) = H2) Try.call87 rfl rfl (fun w1 hw1 => (f87_any w1 v (by omega)).mono fun e w' ⟨h1, h2⟩ => ?_) ?_
   ·rcases unV_of h1 h278 with ⟨x, h3, h4⟩ | ⟨b, h3, h4⟩
    ·exact ⟨_, _, h3, hw1.after0 h2 (by simp), .inl ⟨x, rfl, h4⟩, rfl⟩
    ·exact ⟨_, _, h3, hw1.after0 h2 (by simp), .inr ⟨b, rfl, h4⟩, rfl⟩
   rintro v0 H20 ⟨hcs, rfl⟩
   obtain ⟨xs, er, rfl, hxe⟩ : ∃ xs er, v0 = .tuple #[S xs, er] ∧ ((er = .nilIface ∧ unV un v = xs) ∨ ((∃ b, er = .iface 136 (Pt b 0)) ∧ unV un v = v)) := by
    rcases hcs with ⟨x, rfl, h4⟩ | ⟨b, rfl, h4⟩
    ·exact ⟨x, _, rfl, .inl ⟨rfl, h4⟩⟩
    ·exact ⟨[], _, rfl, .inr ⟨⟨b, rfl⟩, h4⟩⟩
   refine G.m1 ?_
   refine G.v (V.ex rfl rfl) rfl ?_
   refine G.v (V.ex rfl rfl) rfl ?_
   refine G.m2 ?_
   refine G.m2 ?_
   refine G.nil ?_
   refine GC.seq ?_
   refine GC.reg ?_
   refine G.m1 ?_
   obtain ⟨en, hen1, hen2⟩ : ∃ en : Bool, (∀ (P0 : World → Prop), True) ∧ ((en = true ∧ er = .nilIface ∧ unV un v = xs) ∨ (en = false ∧ (∃ b, er = .iface 136 (Pt b 0)) ∧ unV un v = v)) := by
    rcases hxe with ⟨h3, h4⟩ | ⟨h3, h4⟩
    ·exact ⟨true, fun _ => trivial, .inl ⟨rfl, h3, h4⟩⟩
    ·exact ⟨false, fun _ => trivial, .inr ⟨rfl, h3, h4⟩⟩
   refine G.v (v := .bool en) (eq_err Try.underlying128 hen2 rfl) rfl ?_
   refine G.nil ?_
   refine GC.cond rfl (fun h285 => ?_) (fun h285 => ?_)
   ·refine GC.reg ?_
    refine G.m1 ?_
    refine G.m2 ?_
    refine G.nil ?_
    have h7 : unV un v = xs := by
     rcases hen2 with ⟨_, _, h⟩ | ⟨h, _⟩
     ·exact h
     ·rw [h285] at h; cases h
    refine JU278 _ _ ⟨?_, rfl⟩
    rw [h7]
    exact .of rfl
   refine GC.skip ?_
   have h7 : unV un v = v := by
    rcases hen2 with ⟨h, _⟩ | ⟨_, _, h⟩
    ·rw [h285] at h; cases h
    ·exact h
   refine JU278 _ _ ⟨?_, rfl⟩
   rw [h7]
   exact .of rfl
  refine GC.skip ?_
  have h7 : unV un v = v := by rw [h278]; rfl
  refine JU278 _ _ ⟨?_, rfl⟩
  rw [h7]
  exact .of rfl
 rintro fr' H' ⟨hsju, rfl⟩
 refine GC.weak hsju ?_
 clear hsju
 refine GC.regT 13 mixed (by kernel_rfl) rfl rfl ?_
 refine GS.v (V.fa F114_1 rfl) rfl ?_
 refine GS.v (V.ld (b := vb) (off := 0 + 1) (wf := true) (l := [.slice none 0 0, Pt pb 0, .bool false, S []]) (T := 114) (fz := (0, 0)) (v := Pt pb 0) Try.isAgg112 rfl (.head _) rfl) rfl ?_
 refine GS.v (V.nc rfl) rfl ?_
 refine GS.v (V.ld (b := pb) (off := 0) (wf := true) (l := [.slice (some ⟨prb, 0, none⟩) (ps.length + 1) cP]) (T := 96) (fz := (0, 0)) (v := .slice (some ⟨prb, 0, none⟩) (ps.length + 1) cP) Try.isAgg96 rfl (.tail _ (.head _)) rfl) rfl ?_
 refine GS.v (V.mv rfl) rfl ?_
 refine GS.v (V.mv rfl) rfl ?_
 refine GS.v (V.nc rfl) rfl ?_
 refine GS.v (V.fa F107_0 rfl) rfl ?_
 refine GS.v (V.ld (b := kb) (off := 0 + 0) (wf := true) (l := nodeR kpath kidx kwild knt kpr (.slice kad kkids.length kcap) (.slice kad2 kl2 kc2) kfull) (T := 107) (fz := (0, 0)) (v := S kpath) Try.isAgg9 rfl (m5 km) rfl) rfl ?_
 refine GS.v (V.slL (i := 1) Try.underlying9 rfl rfl (by omega)) rfl ?_
 refine GS.v (V.mv rfl) rfl ?_
 refine GS.v (V.bd (vs := [(0, S (kpath.drop 1)), (1, S (unV un v))]) rfl (fun w1 => bd_pm _ _ w1)) rfl ?_
 refine GS.v (V.ia (i := ps.length) Try.underlying96 Try.sizeOf100 rfl rfl (by omega)) rfl ?_
 refine GS.nil ?_
 refine G.stAt (b := prb) (off := 0 + ps.length * 2) (l := prow) (T := 100) (cs := [S (kpath.drop 1), S (unV un v)]) Try.sizeOf100 rfl rfl (by simp [Value.oneCell']) (.s (.s .z)) (by simp; omega) ?_
 have e2 : 0 + ps.length * 2 = 2 * ps.length := by omega
 rw [e2]
 refine G.nil ?_
 refine GC.turn (H' := (⟨vb, true, .row [.slice none 0 0, Pt pb 0, .bool false, S []] 114 (0, 0)⟩ :: ⟨pb, true, .row [.slice (some ⟨prb, 0, none⟩) (ps.length + 1) cP] 96 (0, 0)⟩ :: ⟨prb, true, .row (setR prow (2 * ps.length) [S (kpath.drop 1), S (unV un v)]) 100 (0, 0)⟩ :: ⟨qb, true, .row [.slice (some ⟨srb, 0, none⟩) sk.length cS] 111 (0, 0)⟩ :: ⟨srb, true, .row srow 126 (0, 0)⟩ :: (Cs ++ Ht))) (fun w1 h1 => h1) ?_
 exact go kb _ (ps.length + 1) _ hrk0 (by rw [setR_len _ _ _ (by simp; omega)]; exact hpr) (prt_more hpr hprt hroomP _ _) (by simp) (.of rfl)
theorem g76_cat {R : Ending → World → Prop} {w : World} {D : Nat → Prop} {vb pb prb qb srb cP cS : Nat} {un : Bool} {Ht : SH} {n : T0} {p : List UInt8} {ps : List (List UInt8 × List UInt8)} {sk : List Sk} {nb : Nat} {has : Bool} {prow srow : List Value} {Cs : SH} {fr : SF} {c : UInt8}
  (hn : Rd Ht Cs n nb) (hpr : prow.length = 2 * cP) (hprt : prow.take (2 * ps.length) = flatP ps) (_hsr : srow.length = 3 * cS) (_hsk : SkRow Ht Cs srow sk) (hhas : has = false → ps = []) (hpl : p.length ≤ 100000) (_hpc : ps.length ≤ cP) (hcP : cP ≤ 20000) (_hsc : sk.length ≤ cS) (_hcS : cS ≤ 20000) (hsub : Sub [(0, Pt nb 0), (1, S p), (2, Pt pb 0), (3, Pt qb 0), (4, .bool un), (10, Pt vb 0), (11, .int .i16 (ps.length : Int)), (12, S n.path), (13, .int .u8 (c.toNat : Int))] fr) {k : T0} (hw : n.wild = true) (hkid : n.kids[n.kids.length - 1]? = some k) (hroomP : ps.length < cP) (hkp2 : 2 ≤ k.path.length) (hkl9 : n.kids.length ≤ 100000) (hk2 : k.nt = 3)
  (fin : Fin76 R w D pb prb cP Ht ⟨k.h, ps ++ [(k.path.drop 2, unV un p)], false, k.full⟩) :
  GC Try.prog ⟨76, Try.f76, R, w, D⟩ 703 K76n fr (⟨vb, true, .row [(.slice none 0 0), (pV pb has), .bool false, (S [])] 114 (0, 0)⟩ :: ⟨pb, true, .row [.slice (some ⟨prb, 0, none⟩) ps.length cP] 96 (0, 0)⟩ :: ⟨prb, true, .row prow 100 (0, 0)⟩ :: ⟨qb, true, .row [.slice (some ⟨srb, 0, none⟩) sk.length cS] 111 (0, 0)⟩ :: ⟨srb, true, .row srow 126 (0, 0)⟩ :: (Cs ++ Ht)) := by
 refine GC.weak hsub ?_
 clear hsub
 have hn0 := hn
 cases hn with
 | @mk path idx wild nt pr h full kids _ bs kv hv Hs hm hs hsm hbl hh hk =>
 simp only [n_path, n_kids, n_wild] at *
 obtain ⟨ad, cap, rfl⟩ := hs.slice
 obtain ⟨ad2, l2, c2, rfl, hnn⟩ := hh.slice
 refine GC.seq ?_
 refine GC.seq ?_
 refine GC.reg ?_
 refine G.m1 ?_
 refine G.v (V.nc rfl) rfl ?_
 refine G.v (V.fa F107_2 rfl) rfl ?_
 refine G.v (V.ld (b := nb) (off := 0 + 2) (wf := true) (l := nodeR path idx wild nt pr (.slice ad kids.length cap) (.slice ad2 l2 c2) full) (T := 107) (fz := (0, 0)) (v := .bool wild) Try.isAgg4 rfl (m5 hm) rfl) rfl ?_
 refine G.v (V.not rfl) rfl ?_
 refine G.nil ?_
 refine GC.cond rfl (fun h139 => absurd h139 (by rw [hw]; decide)) (fun h139 => ?_)
 refine GC.skip ?_
 refine GC.seq ?_
 have hkl := (List.getElem?_eq_some_iff.1 hkid).1
 obtain ⟨kb, hkb⟩ : ∃ kb, bs[kids.length - 1]? = some kb := ⟨_, List.getElem?_eq_getElem (by omega)⟩
 have hrk := hk (kids.length - 1) k kb hkid hkb
 obtain ⟨rb, cap2, spare, e1, rfl⟩ := hs.at hkl
 cases e1
 have hrbm := hsm _ (.head _)
 clear hs
 have hrk0 := hrk
 cases hrk with
 | @mk kpath kidx kwild knt kpr kh kfull kkids _ kbs kkv khv kHs km ks ksm kbl khh kk =>
 simp only [n_path, n_nt, n_h] at *
 obtain ⟨kad, kcap, rfl⟩ := ks.slice
 obtain ⟨kad2, kl2, kc2, rfl, khnn⟩ := khh.slice
 refine GC.regQ mixed (by kernel_rfl) ?_
 refine GQ.v (V.mv rfl) rfl ?_
 refine GQ.v (V.nc rfl) rfl ?_
 refine GQ.v (V.fa F107_5 rfl) rfl ?_
 refine GQ.v (V.ld (b := nb) (off := 0 + 5) (wf := true) (l := nodeR path idx wild nt pr (.slice (some ⟨rb, 0, none⟩) kids.length cap) (.slice ad2 l2 c2) full) (T := 107) (fz := (0, 0)) (v := (.slice (some ⟨rb, 0, none⟩) kids.length cap)) Try.isAgg105 rfl (m5 hm) rfl) rfl ?_
 refine GQ.v (V.mv rfl) rfl ?_
 refine GQ.v (V.nc rfl) rfl ?_
 refine GQ.v (V.fa F107_5 rfl) rfl ?_
 refine GQ.v (V.ld (b := nb) (off := 0 + 5) (wf := true) (l := nodeR path idx wild nt pr (.slice (some ⟨rb, 0, none⟩) kids.length cap) (.slice ad2 l2 c2) full) (T := 107) (fz := (0, 0)) (v := (.slice (some ⟨rb, 0, none⟩) kids.length cap)) Try.isAgg105 rfl (m5 hm) rfl) rfl ?_
 refine GQ.v (V.lenL Try.underlying105 rfl) rfl ?_
 refine GQ.v (V.subI (r := ((kids.length - 1 : Nat) : Int)) rfl rfl (by omega) (by omega) (by omega)) rfl ?_
 refine GQ.v (V.ia (i := kids.length - 1) Try.underlying105 Try.sizeOf89 rfl rfl hkl) rfl ?_
 refine GQ.v (V.ld (b := rb) (off := 0 + (kids.length - 1) * 1) (wf := true) (l := bs.map (Pt · 0) ++ spare) (T := 89) (fz := (0, 0)) (v := Pt kb 0) Try.isAgg89 rfl (.tail _ (.tail _ (.tail _ (.tail _ (.tail _ ((List.mem_append_right _ hrbm))))))) (by rw [nth_eq, Nat.zero_add, Nat.mul_one, List.getElem?_append_left (by rw [List.length_map]; omega), List.getElem?_map, hkb]; rfl)) rfl ?_
 refine GQ.v (V.asg rfl) rfl ?_
 refine GQ.nil ?_
 refine GC.seq ?_
 refine GC.reg ?_
 refine G.m1 ?_
 refine G.v (V.add (i := (ps.length : Int)) (j := 1) rfl rfl) rfl ?_
 rw [wrap16 (by omega)]
 refine G.m2 ?_
 refine G.nil ?_
 refine GC.seq ?_
 refine GC.reg ?_
 refine G.m1 ?_
 refine G.v (V.nc rfl) rfl ?_
 refine G.v (V.fa F107_3 rfl) rfl ?_
 refine G.v (V.ld (b := kb) (off := 0 + 3) (wf := true) (l := nodeR kpath kidx kwild knt kpr (.slice kad kkids.length kcap) (.slice kad2 kl2 kc2) kfull) (T := 107) (fz := (0, 0)) (v := .int .u8 (knt : Int)) Try.isAgg103 rfl (m5 km) rfl) rfl ?_
 refine G.nil ?_
 refine GC.block ?_
 refine GC.seq ?_
 refine GC.reg ?_
 refine G.v (V.eqI rfl rfl) rfl ?_
 refine G.m2 ?_
 refine G.nil ?_
 refine GC.condD rfl (fun h218 => absurd h218 (by rw [hk2]; decide)) (fun h218 => ?_)
 refine GC.seq ?_
 refine GC.reg ?_
 refine G.v (V.eqI rfl rfl) rfl ?_
 refine G.m2 ?_
 refine G.nil ?_
 refine GC.condD rfl (fun h380 => ?_) (fun h380 => absurd (by rw [hk2]; rfl) h380)
 refine GC.seq ?_
 refine GC.seq ?_
 refine GC.reg ?_
 refine G.m1 ?_
 refine G.v (V.neP (p := some ⟨pb, 0, none⟩) Try.underlying112 rfl) rfl ?_
 refine G.nil ?_
 refine GC.cond rfl (fun h383 => ?_) (fun h383 => absurd h383 (by simp))
 refine GC.seq ?_
 refine GC.seq ?_
 refine GC.reg ?_
 refine G.m1 ?_
 refine G.v (V.nc rfl) rfl ?_
 refine G.v (V.ld (b := pb) (off := 0) (wf := true) (l := [.slice (some ⟨prb, 0, none⟩) ps.length cP]) (T := 96) (fz := (0, 0)) (v := .slice (some ⟨prb, 0, none⟩) (ps.length) cP) Try.isAgg96 rfl (.tail _ (.head _)) rfl) rfl ?_
 refine G.v (V.capL Try.underlying96 rfl) rfl ?_
 refine G.m1 ?_
 refine G.v (V.cvI Try.underlying124 Try.underlying3 rfl) rfl ?_
 rw [wrap_i64 (by omega) (by omega)]
 refine G.v (V.lt rfl rfl) rfl ?_
 refine G.nil ?_
 refine GC.condD rfl (fun h390 => absurd h390 (by omega)) (fun h390 => ?_)
 refine GC.skip ?_
 refine GC.seq ?_
 refine GC.seq ?_
 refine GC.reg ?_
 refine G.v (V.fa F114_1 rfl) rfl ?_
 refine G.v (V.ld (b := vb) (off := 0 + 1) (wf := true) (l := [.slice none 0 0, pV pb has, .bool false, S []]) (T := 114) (fz := (0, 0)) (v := pV pb has) Try.isAgg112 rfl (.head _) rfl) rfl ?_
 refine G.v (eqP_pV Try.underlying112 rfl) rfl ?_
 refine G.nil ?_
 refine GC.join (fun fr' H' => Sub [(0, Pt kb 0), (1, S p), (2, Pt pb 0), (3, Pt qb 0), (4, .bool un), (10, Pt vb 0), (11, .int .i16 ((ps.length + 1 : Nat) : Int))] fr' ∧ H' = (⟨vb, true, .row [.slice none 0 0, Pt pb 0, .bool false, S []] 114 (0, 0)⟩ :: ⟨pb, true, .row [.slice (some ⟨prb, 0, none⟩) ps.length cP] 96 (0, 0)⟩ :: ⟨prb, true, .row prow 100 (0, 0)⟩ :: ⟨qb, true, .row [.slice (some ⟨srb, 0, none⟩) sk.length cS] 111 (0, 0)⟩ :: ⟨srb, true, .row srow 126 (0, 0)⟩ :: (Cs ++ Ht))) (fun JS407 => ?_) ?_
 ·refine GC.cond rfl (fun h407 => ?_) (fun h407 => ?_)
  ·refine GC.reg ?_
   refine G.m1 ?_
   refine G.v (V.fa F114_1 rfl) rfl ?_
   refine G.st (b := vb) (off := 0 + 1) (l := [.slice none 0 0, pV pb has, .bool false, S []]) (T := 114) (fz := (0, 0)) (v := Pt pb 0) Try.sizeOf112 rfl rfl rfl .z rfl rfl ?_
   refine G.nil ?_
   exact JS407 _ _ ⟨.of rfl, rfl⟩
  refine GC.skip ?_
  have hht : has = true := by simpa using h407
  subst hht
  exact JS407 _ _ ⟨.of rfl, rfl⟩
 rintro fr' H' ⟨hsjs, rfl⟩
 refine GC.weak hsjs ?_
 clear hsjs
 refine GC.seq ?_
 refine GC.reg ?_
 refine G.v (V.fa F114_1 rfl) rfl ?_
 refine G.v (V.ld (b := vb) (off := 0 + 1) (wf := true) (l := [.slice none 0 0, Pt pb 0, .bool false, S []]) (T := 114) (fz := (0, 0)) (v := Pt pb 0) Try.isAgg112 rfl (.head _) rfl) rfl ?_
 refine G.v (V.nc rfl) rfl ?_
 refine G.v (V.ld (b := pb) (off := 0) (wf := true) (l := [.slice (some ⟨prb, 0, none⟩) ps.length cP]) (T := 96) (fz := (0, 0)) (v := .slice (some ⟨prb, 0, none⟩) (ps.length) cP) Try.isAgg96 rfl (.tail _ (.head _)) rfl) rfl ?_
 refine G.v (V.lenL Try.underlying96 rfl) rfl ?_
 refine G.m2 ?_
 refine G.nil ?_
 refine GC.seq ?_
 refine GC.regT 10 mixed (by kernel_rfl) rfl rfl ?_
 refine GS.v (V.fa F114_1 rfl) rfl ?_
 refine GS.v (V.ld (b := vb) (off := 0 + 1) (wf := true) (l := [.slice none 0 0, Pt pb 0, .bool false, S []]) (T := 114) (fz := (0, 0)) (v := Pt pb 0) Try.isAgg112 rfl (.head _) rfl) rfl ?_
 refine GS.v (V.fa F114_1 rfl) rfl ?_
 refine GS.v (V.ld (b := vb) (off := 0 + 1) (wf := true) (l := [.slice none 0 0, Pt pb 0, .bool false, S []]) (T := 114) (fz := (0, 0)) (v := Pt pb 0) Try.isAgg112 rfl (.head _) rfl) rfl ?_
 refine GS.v (V.nc rfl) rfl ?_
 refine GS.v (V.ld (b := pb) (off := 0) (wf := true) (l := [.slice (some ⟨prb, 0, none⟩) ps.length cP]) (T := 96) (fz := (0, 0)) (v := .slice (some ⟨prb, 0, none⟩) (ps.length) cP) Try.isAgg96 rfl (.tail _ (.head _)) rfl) rfl ?_
 refine GS.v (V.mv rfl) rfl ?_
 refine GS.v (V.addI (r := ((ps.length + 1 : Nat) : Int)) rfl rfl rfl (by omega) (by omega)) rfl ?_
 refine GS.v (V.slTH (i := ps.length + 1) Try.underlying96 Try.sizeOf100 rfl rfl (by omega)) rfl ?_
 refine GS.v (V.nc rfl) rfl ?_
 refine GS.nil ?_
 refine G.st (b := pb) (off := 0) (l := [.slice (some ⟨prb, 0, none⟩) ps.length cP]) (T := 96) (fz := (0, 0)) (v := .slice (some ⟨prb, 0, none⟩) (ps.length + 1) cP) Try.sizeOf96 rfl rfl rfl (.s .z) rfl rfl ?_
 refine G.nil ?_
 refine GC.turn (H' := (⟨vb, true, .row [.slice none 0 0, Pt pb 0, .bool false, S []] 114 (0, 0)⟩ :: ⟨pb, true, .row [.slice (some ⟨prb, 0, none⟩) (ps.length + 1) cP] 96 (0, 0)⟩ :: ⟨prb, true, .row prow 100 (0, 0)⟩ :: ⟨qb, true, .row [.slice (some ⟨srb, 0, none⟩) sk.length cS] 111 (0, 0)⟩ :: ⟨srb, true, .row srow 126 (0, 0)⟩ :: (Cs ++ Ht))) (fun w1 h1 => h1) ?_
 refine GC.seq ?_
 refine GC.reg ?_
 refine G.m1 ?_
 refine G.m2 ?_
 refine G.nil ?_
 refine GC.seq ?_
 refine GC.seq ?_
 refine GC.reg ?_
 refine G.m1 ?_
 refine G.nil ?_
 refine GC.join (fun fr' H' => Sub [(0, Pt kb 0), (1, S p), (2, Pt pb 0), (3, Pt qb 0), (4, .bool un), (10, Pt vb 0), (11, .int .i16 ((ps.length + 1 : Nat) : Int)), (26, I (ps.length : Nat)), (27, S (unV un p))] fr' ∧ H' = (⟨vb, true, .row [.slice none 0 0, Pt pb 0, .bool false, S []] 114 (0, 0)⟩ :: ⟨pb, true, .row [.slice (some ⟨prb, 0, none⟩) (ps.length + 1) cP] 96 (0, 0)⟩ :: ⟨prb, true, .row prow 100 (0, 0)⟩ :: ⟨qb, true, .row [.slice (some ⟨srb, 0, none⟩) sk.length cS] 111 (0, 0)⟩ :: ⟨srb, true, .row srow 126 (0, 0)⟩ :: (Cs ++ Ht))) (fun JU426 => ?_) ?_
 ·refine GC.cond rfl (fun h426 => ?_) (fun h426 => ?_)
  ·refine GC.seq ?_
   refine GC.reg ?_
   refine G.m1 ?_
   refine G.callW (fun vv H2 => ((∃ x, vv = .tuple #[S x, .nilIface] ∧ unV un p = x) ∨ (∃ b, vv = .tuple #[S [], .iface 136 (Pt b 0)] ∧ unV un p = p)) ∧ (⟨vb, true, .row [.slice none 0 0, Pt pb 0, .bool false, S []] 114 (0, 0)⟩ :: ⟨pb, true, .row [.slice (some ⟨prb, 0, none⟩) (ps.length + 1) cP] 96 (0, 0)⟩ :: ⟨prb, true, .row prow 100 (0, 0)⟩ :: ⟨qb, true, .row [.slice (some ⟨srb, 0, none⟩) sk.length cS] 111 (0, 0)⟩ :: ⟨srb, true, .row srow 126 (0, 0)⟩ :: (Cs ++ Ht)) = H2) Try.call87 rfl rfl (fun w1 hw1 => (f87_any w1 p (by omega)).mono fun e w' ⟨h1, h2⟩ => ?_) ?_
   ·rcases unV_of h1 h426 with ⟨x, h3, h4⟩ | ⟨b, h3, h4⟩
    ·exact ⟨_, _, h3, hw1.after0 h2 (by simp), .inl ⟨x, rfl, h4⟩, rfl⟩
    ·exact ⟨_, _, h3, hw1.after0 h2 (by simp), .inr ⟨b, rfl, h4⟩, rfl⟩
   rintro v0 H20 ⟨hcs, rfl⟩
   obtain ⟨xs, er, rfl, hxe⟩ : ∃ xs er, v0 = .tuple #[S xs, er] ∧ ((er = .nilIface ∧ unV un p = xs) ∨ ((∃ b, er = .iface 136 (Pt b 0)) ∧ unV un p = p)) := by
    rcases hcs with ⟨x, rfl, h4⟩ | ⟨b, rfl, h4⟩
    ·exact ⟨x, _, rfl, .inl ⟨rfl, h4⟩⟩
    ·exact ⟨[], _, rfl, .inr ⟨⟨b, rfl⟩, h4⟩⟩
   refine G.m1 ?_
   refine G.v (V.ex rfl rfl) rfl ?_
   refine G.v (V.ex rfl rfl) rfl ?_
   refine G.m2 ?_
   refine G.m2 ?_
   refine G.nil ?_
   refine GC.seq ?_
   refine GC.reg ?_
   refine G.m1 ?_
   obtain ⟨en, hen1, hen2⟩ : ∃ en : Bool, (∀ (P0 : World → Prop), True) ∧ ((en = true ∧ er = .nilIface ∧ unV un p = xs) ∨ (en = false ∧ (∃ b, er = .iface 136 (Pt b 0)) ∧ unV un p = p)) := by
    rcases hxe with ⟨h3, h4⟩ | ⟨h3, h4⟩
    ·exact ⟨true, fun _ => trivial, .inl ⟨rfl, h3, h4⟩⟩
    ·exact ⟨false, fun _ => trivial, .inr ⟨rfl, h3, h4⟩⟩
   refine G.v (v := .bool en) (eq_err Try.underlying128 hen2 rfl) rfl ?_
   refine G.nil ?_
   refine GC.cond rfl (fun h433 => ?_) (fun h433 => ?_)
   ·refine GC.reg ?_
    refine G.m1 ?_
    refine G.m2 ?_
    refine G.nil ?_
    have h7 : unV un p = xs := by
     rcases hen2 with ⟨_, _, h⟩ | ⟨h, _⟩
     ·exact h
     ·rw [h433] at h; cases h
    refine JU426 _ _ ⟨?_, rfl⟩
    rw [h7]
    exact .of rfl
   refine GC.skip ?_
   have h7 : unV un p = p := by
    rcases hen2 with ⟨h, _⟩ | ⟨_, _, h⟩
    ·rw [h433] at h; cases h
    ·exact h
   refine JU426 _ _ ⟨?_, rfl⟩
   rw [h7]
   exact .of rfl
  refine GC.skip ?_
  have h7 : unV un p = p := by rw [h426]; rfl
  refine JU426 _ _ ⟨?_, rfl⟩
  rw [h7]
  exact .of rfl
 rintro fr' H' ⟨hsju, rfl⟩
 refine GC.weak hsju ?_
 clear hsju
 refine GC.regT 13 mixed (by kernel_rfl) rfl rfl ?_
 refine GS.v (V.fa F114_1 rfl) rfl ?_
 refine GS.v (V.ld (b := vb) (off := 0 + 1) (wf := true) (l := [.slice none 0 0, Pt pb 0, .bool false, S []]) (T := 114) (fz := (0, 0)) (v := Pt pb 0) Try.isAgg112 rfl (.head _) rfl) rfl ?_
 refine GS.v (V.nc rfl) rfl ?_
 refine GS.v (V.ld (b := pb) (off := 0) (wf := true) (l := [.slice (some ⟨prb, 0, none⟩) (ps.length + 1) cP]) (T := 96) (fz := (0, 0)) (v := .slice (some ⟨prb, 0, none⟩) (ps.length + 1) cP) Try.isAgg96 rfl (.tail _ (.head _)) rfl) rfl ?_
 refine GS.v (V.mv rfl) rfl ?_
 refine GS.v (V.mv rfl) rfl ?_
 refine GS.v (V.nc rfl) rfl ?_
 refine GS.v (V.fa F107_0 rfl) rfl ?_
 refine GS.v (V.ld (b := kb) (off := 0 + 0) (wf := true) (l := nodeR kpath kidx kwild knt kpr (.slice kad kkids.length kcap) (.slice kad2 kl2 kc2) kfull) (T := 107) (fz := (0, 0)) (v := S kpath) Try.isAgg9 rfl (m5 km) rfl) rfl ?_
 refine GS.v (V.slL (i := 2) Try.underlying9 rfl rfl (by omega)) rfl ?_
 refine GS.v (V.mv rfl) rfl ?_
 refine GS.v (V.bd (vs := [(0, S (kpath.drop 2)), (1, S (unV un p))]) rfl (fun w1 => bd_pm _ _ w1)) rfl ?_
 refine GS.v (V.ia (i := ps.length) Try.underlying96 Try.sizeOf100 rfl rfl (by omega)) rfl ?_
 refine GS.nil ?_
 refine G.stAt (b := prb) (off := 0 + ps.length * 2) (l := prow) (T := 100) (cs := [S (kpath.drop 2), S (unV un p)]) Try.sizeOf100 rfl rfl (by simp [Value.oneCell']) (.s (.s .z)) (by simp; omega) ?_
 have e2 : 0 + ps.length * 2 = 2 * ps.length := by omega
 rw [e2]
 refine G.nil ?_
 refine GC.turn (H' := (⟨vb, true, .row [.slice none 0 0, Pt pb 0, .bool false, S []] 114 (0, 0)⟩ :: ⟨pb, true, .row [.slice (some ⟨prb, 0, none⟩) (ps.length + 1) cP] 96 (0, 0)⟩ :: ⟨prb, true, .row (setR prow (2 * ps.length) [S (kpath.drop 2), S (unV un p)]) 100 (0, 0)⟩ :: ⟨qb, true, .row [.slice (some ⟨srb, 0, none⟩) sk.length cS] 111 (0, 0)⟩ :: ⟨srb, true, .row srow 126 (0, 0)⟩ :: (Cs ++ Ht))) (fun w1 h1 => h1) ?_
 refine GC.seq ?_
 refine GC.reg ?_
 refine G.m1 ?_
 refine G.v (V.nc rfl) rfl ?_
 refine G.v (V.fa F107_6 rfl) rfl ?_
 refine G.v (V.ld (b := kb) (off := 0 + 6) (wf := true) (l := nodeR kpath kidx kwild knt kpr (.slice kad kkids.length kcap) (.slice kad2 kl2 kc2) kfull) (T := 107) (fz := (0, 0)) (v := .slice kad2 kl2 kc2) Try.isAgg94 rfl (m5 km) rfl) rfl ?_
 refine G.v (V.fa F114_0 rfl) rfl ?_
 refine G.st (b := vb) (off := 0 + 0) (l := [.slice none 0 0, Pt pb 0, .bool false, S []]) (T := 114) (fz := (0, 0)) (v := .slice kad2 kl2 kc2) Try.sizeOf94 rfl rfl rfl .z rfl rfl ?_
 refine G.nil ?_
 refine GC.turn (H' := (⟨vb, true, .row [.slice kad2 kl2 kc2, Pt pb 0, .bool false, S []] 114 (0, 0)⟩ :: ⟨pb, true, .row [.slice (some ⟨prb, 0, none⟩) (ps.length + 1) cP] 96 (0, 0)⟩ :: ⟨prb, true, .row (setR prow (2 * ps.length) [S (kpath.drop 2), S (unV un p)]) 100 (0, 0)⟩ :: ⟨qb, true, .row [.slice (some ⟨srb, 0, none⟩) sk.length cS] 111 (0, 0)⟩ :: ⟨srb, true, .row srow 126 (0, 0)⟩ :: (Cs ++ Ht))) (fun w1 h1 => h1) ?_
 refine GC.seq ?_
 refine GC.reg ?_
 refine G.m1 ?_
 refine G.v (V.nc rfl) rfl ?_
 refine G.v (V.fa F107_7 rfl) rfl ?_
 refine G.v (V.ld (b := kb) (off := 0 + 7) (wf := true) (l := nodeR kpath kidx kwild knt kpr (.slice kad kkids.length kcap) (.slice kad2 kl2 kc2) kfull) (T := 107) (fz := (0, 0)) (v := S kfull) Try.isAgg9 rfl (m5 km) rfl) rfl ?_
 refine G.v (V.fa F114_3 rfl) rfl ?_
 refine G.st (b := vb) (off := 0 + 3) (l := [.slice kad2 kl2 kc2, Pt pb 0, .bool false, S []]) (T := 114) (fz := (0, 0)) (v := S kfull) Try.sizeOf9 rfl rfl rfl .z rfl rfl ?_
 refine G.nil ?_
 refine GC.turn (H' := (⟨vb, true, .row [.slice kad2 kl2 kc2, Pt pb 0, .bool false, S kfull] 114 (0, 0)⟩ :: ⟨pb, true, .row [.slice (some ⟨prb, 0, none⟩) (ps.length + 1) cP] 96 (0, 0)⟩ :: ⟨prb, true, .row (setR prow (2 * ps.length) [S (kpath.drop 2), S (unV un p)]) 100 (0, 0)⟩ :: ⟨qb, true, .row [.slice (some ⟨srb, 0, none⟩) sk.length cS] 111 (0, 0)⟩ :: ⟨srb, true, .row srow 126 (0, 0)⟩ :: (Cs ++ Ht))) (fun w1 h1 => h1) ?_
 refine GC.seq ?_
 refine GC.reg ?_
 refine G.v (V.ldA (b := vb) (off := 0) (s := 4) (wf := true) (l := [.slice kad2 kl2 kc2, Pt pb 0, .bool false, S kfull]) (T := 114) (fz := (0, 0)) (cs := [.slice kad2 kl2 kc2, Pt pb 0, .bool false, S kfull]) Try.isAgg114 Try.sizeOf114 rfl (.head _) rfl rfl) rfl ?_
 refine G.stA (cs := [.slice kad2 kl2 kc2, Pt pb 0, .bool false, S kfull]) Try.sizeOf114 rfl rfl (by intro v hv; simp only [List.mem_cons, List.not_mem_nil, or_false] at hv; rcases hv with rfl | rfl | rfl | rfl <;> first | rfl | exact pV_one pb true) .z rfl ?_
 refine G.nil ?_
 have hlen9 : (ps ++ [(kpath.drop 2, unV un p)]).length = ps.length + 1 := by simp
 refine GC.retC (cs := [.slice kad2 kl2 kc2, Pt pb 0, .bool false, S kfull]) rfl Try.isAgg114 Try.sizeOf114 rfl (.head _) rfl fun w' hw' => fin true _ (.slice kad2 kl2 kc2) w' (by rw [setR_len _ _ _ (by simp; omega)]; exact hpr) (prt_more hpr hprt hroomP _ _) (fun h => (by cases h)) khh ?_
 have h2 := hw'.sub (.cons _ (.cons_cons _ (.cons_cons _ (.cons _ (.cons _ (List.sublist_append_right _ _))))))
 dsimp only
 rw [hlen9]
 exact h2
theorem g76_deep {R : Ending → World → Prop} {w : World} {D : Nat → Prop} {vb pb prb qb srb cP cS : Nat} {un : Bool} {Ht : SH} {n : T0} {p : List UInt8} {ps : List (List UInt8 × List UInt8)} {sk : List Sk} {nb : Nat} {has : Bool} {prow srow : List Value} {Cs : SH} {fr : SF} {_c : UInt8}
  (hn : Rd Ht Cs n nb) (hpr : prow.length = 2 * cP) (hprt : prow.take (2 * ps.length) = flatP ps) (hsr : srow.length = 3 * cS) (hsk : SkRow Ht Cs srow sk) (hhas : has = false → ps = []) (_hpl : p.length ≤ 100000) (_hpc : ps.length ≤ cP) (_hcP : cP ≤ 20000) (_hsc : sk.length ≤ cS) (_hcS : cS ≤ 20000) (hsub : Sub [(0, Pt nb 0), (1, S p), (2, Pt pb 0), (3, Pt qb 0), (4, .bool un), (10, Pt vb 0), (11, .int .i16 (ps.length : Int)), (19, I ((p.takeWhile (· ≠ 47)).length : Nat))] fr) {c0 : T0} {cr : List T0} (hlt : (p.takeWhile (· ≠ 47)).length < p.length) (hks : n.kids = c0 :: cr)
  (go : Lp R w D vb pb prb qb srb cP cS un Ht c0 (p.drop (p.takeWhile (· ≠ 47)).length) ps sk) :
  GC Try.prog ⟨76, Try.f76, R, w, D⟩ 703 K76p fr (⟨vb, true, .row [(.slice none 0 0), (pV pb has), .bool false, (S [])] 114 (0, 0)⟩ :: ⟨pb, true, .row [.slice (some ⟨prb, 0, none⟩) ps.length cP] 96 (0, 0)⟩ :: ⟨prb, true, .row prow 100 (0, 0)⟩ :: ⟨qb, true, .row [.slice (some ⟨srb, 0, none⟩) sk.length cS] 111 (0, 0)⟩ :: ⟨srb, true, .row srow 126 (0, 0)⟩ :: (Cs ++ Ht)) := by
 refine GC.weak hsub ?_
 clear hsub
 have hn0 := hn
 cases hn with
 | @mk path idx wild nt pr h full kids _ bs kv hv Hs hm hs hsm hbl hh hk =>
 simp only [n_kids] at *
 obtain ⟨ad, cap, rfl⟩ := hs.slice
 obtain ⟨ad2, l2, c2, rfl, hnn⟩ := hh.slice
 have htl := tw_le p
 subst hks
 obtain ⟨kb, hkb⟩ : ∃ kb, bs[0]? = some kb := ⟨_, List.getElem?_eq_getElem (by rw [hbl]; simp)⟩
 have hrk := hk 0 _ kb rfl hkb
 obtain ⟨rb, cap2, spare, e1, rfl⟩ := hs.at (i := 0) (by simp)
 cases e1
 have hrbm := hsm _ (.head _)
 clear hs
 refine GC.seq ?_
 refine GC.seq ?_
 refine GC.reg ?_
 refine G.m1 ?_
 refine G.m1 ?_
 refine G.v (V.lenS Try.underlying9 rfl) rfl ?_
 refine G.v (V.lt rfl rfl) rfl ?_
 refine G.nil ?_
 refine GC.condD rfl (fun h303 => ?_) (fun h303 => absurd (by omega) h303)
 refine GC.seq ?_
 refine GC.seq ?_
 refine GC.reg ?_
 refine G.m1 ?_
 refine G.v (V.nc rfl) rfl ?_
 refine G.v (V.fa F107_5 rfl) rfl ?_
 refine G.v (V.ld (b := nb) (off := 0 + 5) (wf := true) (l := nodeR path idx wild nt pr (.slice (some ⟨rb, 0, none⟩) (c0 :: cr).length cap) (.slice ad2 l2 c2) full) (T := 107) (fz := (0, 0)) (v := (.slice (some ⟨rb, 0, none⟩) (c0 :: cr).length cap)) Try.isAgg105 rfl (m5 hm) rfl) rfl ?_
 refine G.v (V.lenL Try.underlying105 rfl) rfl ?_
 refine G.v (V.gt rfl rfl) rfl ?_
 refine G.nil ?_
 refine GC.condD rfl (fun h309 => ?_) (fun h309 => absurd (by rw [List.length_cons]; omega) h309)
 refine GC.seq ?_
 refine GC.reg ?_
 refine G.m1 ?_
 refine G.m1 ?_
 refine G.v (V.slL (i := (p.takeWhile (· ≠ 47)).length) Try.underlying9 rfl rfl (by omega)) rfl ?_
 refine G.m2 ?_
 refine G.nil ?_
 refine GC.seq ?_
 refine GC.reg ?_
 refine G.m1 ?_
 refine G.v (V.nc rfl) rfl ?_
 refine G.v (V.fa F107_5 rfl) rfl ?_
 refine G.v (V.ld (b := nb) (off := 0 + 5) (wf := true) (l := nodeR path idx wild nt pr (.slice (some ⟨rb, 0, none⟩) (c0 :: cr).length cap) (.slice ad2 l2 c2) full) (T := 107) (fz := (0, 0)) (v := (.slice (some ⟨rb, 0, none⟩) (c0 :: cr).length cap)) Try.isAgg105 rfl (m5 hm) rfl) rfl ?_
 refine G.v (V.ia (i := 0) Try.underlying105 Try.sizeOf89 rfl rfl (by simp)) rfl ?_
 refine G.v (V.ld (b := rb) (off := 0 + 0 * 1) (wf := true) (l := bs.map (Pt · 0) ++ spare) (T := 89) (fz := (0, 0)) (v := Pt kb 0) Try.isAgg89 rfl (.tail _ (.tail _ (.tail _ (.tail _ (.tail _ ((List.mem_append_right _ hrbm))))))) (by rw [nth_eq, Nat.zero_add, Nat.mul_one, List.getElem?_append_left (by rw [List.length_map, hbl]; simp), List.getElem?_map, hkb]; rfl)) rfl ?_
 refine G.m2 ?_
 refine G.nil ?_
 refine GC.exit rfl ?_
 refine GC.inLoop ?_
 exact go kb has prow srow Cs _ hrk hpr hprt hsr hsk hhas (.of rfl)
theorem g76_dead {R : Ending → World → Prop} {w : World} {D : Nat → Prop} {vb pb prb qb srb cP cS : Nat} {un : Bool} {Ht : SH} {n : T0} {p : List UInt8} {ps : List (List UInt8 × List UInt8)} {sk : List Sk} {nb : Nat} {has : Bool} {prow srow : List Value} {Cs : SH} {fr : SF} {_c : UInt8}
  (hn : Rd Ht Cs n nb) (hpr : prow.length = 2 * cP) (hprt : prow.take (2 * ps.length) = flatP ps) (_hsr : srow.length = 3 * cS) (_hsk : SkRow Ht Cs srow sk) (hhas : has = false → ps = []) (hpl : p.length ≤ 100000) (_hpc : ps.length ≤ cP) (_hcP : cP ≤ 20000) (_hsc : sk.length ≤ cS) (_hcS : cS ≤ 20000) (hsub : Sub [(0, Pt nb 0), (1, S p), (2, Pt pb 0), (3, Pt qb 0), (4, .bool un), (10, Pt vb 0), (11, .int .i16 (ps.length : Int)), (19, I ((p.takeWhile (· ≠ 47)).length : Nat))] fr) (hlt : (p.takeWhile (· ≠ 47)).length < p.length) (hks : n.kids = [])
  (fin : Fin76 R w D pb prb cP Ht ⟨none, ps, decide (p.length = (p.takeWhile (· ≠ 47)).length + 1), []⟩) :
  GC Try.prog ⟨76, Try.f76, R, w, D⟩ 703 K76p fr (⟨vb, true, .row [(.slice none 0 0), (pV pb has), .bool false, (S [])] 114 (0, 0)⟩ :: ⟨pb, true, .row [.slice (some ⟨prb, 0, none⟩) ps.length cP] 96 (0, 0)⟩ :: ⟨prb, true, .row prow 100 (0, 0)⟩ :: ⟨qb, true, .row [.slice (some ⟨srb, 0, none⟩) sk.length cS] 111 (0, 0)⟩ :: ⟨srb, true, .row srow 126 (0, 0)⟩ :: (Cs ++ Ht)) := by
 refine GC.weak hsub ?_
 clear hsub
 have hn0 := hn
 cases hn with
 | @mk path idx wild nt pr h full kids _ bs kv hv Hs hm hs hsm hbl hh hk =>
 simp only [n_kids] at *
 obtain ⟨ad, cap, rfl⟩ := hs.slice
 obtain ⟨ad2, l2, c2, rfl, hnn⟩ := hh.slice
 have htl := tw_le p
 subst hks
 refine GC.seq ?_
 refine GC.seq ?_
 refine GC.reg ?_
 refine G.m1 ?_
 refine G.m1 ?_
 refine G.v (V.lenS Try.underlying9 rfl) rfl ?_
 refine G.v (V.lt rfl rfl) rfl ?_
 refine G.nil ?_
 refine GC.condD rfl (fun h303 => ?_) (fun h303 => absurd (by omega) h303)
 refine GC.seq ?_
 refine GC.seq ?_
 refine GC.reg ?_
 refine G.m1 ?_
 refine G.v (V.nc rfl) rfl ?_
 refine G.v (V.fa F107_5 rfl) rfl ?_
 refine G.v (V.ld (b := nb) (off := 0 + 5) (wf := true) (l := nodeR path idx wild nt pr (.slice ad ([] : List T0).length cap) (.slice ad2 l2 c2) full) (T := 107) (fz := (0, 0)) (v := (.slice ad ([] : List T0).length cap)) Try.isAgg105 rfl (m5 hm) rfl) rfl ?_
 refine G.v (V.lenL Try.underlying105 rfl) rfl ?_
 refine G.v (V.gt rfl rfl) rfl ?_
 refine G.nil ?_
 refine GC.condD rfl (fun h309 => absurd h309 (by simp)) (fun h309 => ?_)
 refine GC.skip ?_
 refine GC.seq ?_
 refine GC.reg ?_
 refine G.m1 ?_
 refine G.v (V.lenS Try.underlying9 rfl) rfl ?_
 refine G.m1 ?_
 refine G.v (V.addI (r := (((p.takeWhile (· ≠ 47)).length + 1 : Nat) : Int)) rfl rfl (by omega) (by omega) (by omega)) rfl ?_
 refine G.v (V.eqI rfl rfl) rfl ?_
 have e5 : decide (((p.length : Nat) : Int) = (((p.takeWhile (· ≠ 47)).length + 1 : Nat) : Int)) = decide (p.length = (p.takeWhile (· ≠ 47)).length + 1) := decide_eq_decide.2 (by omega)
 rw [e5]
 refine G.v (V.fa F114_2 rfl) rfl ?_
 refine G.st (b := vb) (off := 0 + 2) (l := [.slice none 0 0, pV pb has, .bool false, S []]) (T := 114) (fz := (0, 0)) (v := .bool (decide (p.length = (p.takeWhile (· ≠ 47)).length + 1))) Try.sizeOf4 rfl rfl rfl .z rfl rfl ?_
 refine G.nil ?_
 refine GC.turn (H' := (⟨vb, true, .row [.slice none 0 0, pV pb has, .bool (decide (p.length = (p.takeWhile (· ≠ 47)).length + 1)), S []] 114 (0, 0)⟩ :: ⟨pb, true, .row [.slice (some ⟨prb, 0, none⟩) ps.length cP] 96 (0, 0)⟩ :: ⟨prb, true, .row prow 100 (0, 0)⟩ :: ⟨qb, true, .row [.slice (some ⟨srb, 0, none⟩) sk.length cS] 111 (0, 0)⟩ :: ⟨srb, true, .row srow 126 (0, 0)⟩ :: (Cs ++ Ht))) (fun w1 h1 => h1) ?_
 refine GC.seq ?_
 refine GC.reg ?_
 refine G.v (V.ldA (b := vb) (off := 0) (s := 4) (wf := true) (l := [.slice none 0 0, pV pb has, .bool (decide (p.length = (p.takeWhile (· ≠ 47)).length + 1)), S []]) (T := 114) (fz := (0, 0)) (cs := [.slice none 0 0, pV pb has, .bool (decide (p.length = (p.takeWhile (· ≠ 47)).length + 1)), S []]) Try.isAgg114 Try.sizeOf114 rfl (.head _) rfl rfl) rfl ?_
 refine G.stA (cs := [.slice none 0 0, pV pb has, .bool (decide (p.length = (p.takeWhile (· ≠ 47)).length + 1)), S []]) Try.sizeOf114 rfl rfl (by intro v hv; simp only [List.mem_cons, List.not_mem_nil, or_false] at hv; rcases hv with rfl | rfl | rfl | rfl <;> first | rfl | exact pV_one _ _) .z rfl ?_
 refine G.nil ?_
 refine GC.retC (cs := [.slice none 0 0, pV pb has, .bool (decide (p.length = (p.takeWhile (· ≠ 47)).length + 1)), S []]) rfl Try.isAgg114 Try.sizeOf114 rfl (.head _) rfl fun w' hw' => fin has prow (.slice none 0 0) w' hpr hprt hhas (HVX_none) (hw'.sub (.cons _ (.cons_cons _ (.cons_cons _ (.cons _ (.cons _ (List.sublist_append_right _ _)))))))
theorem g76_leaf {R : Ending → World → Prop} {w : World} {D : Nat → Prop} {vb pb prb qb srb cP cS : Nat} {un : Bool} {Ht : SH} {n : T0} {p : List UInt8} {ps : List (List UInt8 × List UInt8)} {sk : List Sk} {nb : Nat} {has : Bool} {prow srow : List Value} {Cs : SH} {fr : SF} {_c : UInt8}
  (hn : Rd Ht Cs n nb) (hpr : prow.length = 2 * cP) (hprt : prow.take (2 * ps.length) = flatP ps) (_hsr : srow.length = 3 * cS) (_hsk : SkRow Ht Cs srow sk) (hhas : has = false → ps = []) (_hpl : p.length ≤ 100000) (_hpc : ps.length ≤ cP) (_hcP : cP ≤ 20000) (_hsc : sk.length ≤ cS) (_hcS : cS ≤ 20000) (hsub : Sub [(0, Pt nb 0), (1, S p), (2, Pt pb 0), (3, Pt qb 0), (4, .bool un), (10, Pt vb 0), (11, .int .i16 (ps.length : Int)), (19, I ((p.takeWhile (· ≠ 47)).length : Nat))] fr) (hlt : ¬ (p.takeWhile (· ≠ 47)).length < p.length) (hh1 : n.h.isSome = true)
  (fin : Fin76 R w D pb prb cP Ht ⟨n.h, ps, false, n.full⟩) :
  GC Try.prog ⟨76, Try.f76, R, w, D⟩ 703 K76p fr (⟨vb, true, .row [(.slice none 0 0), (pV pb has), .bool false, (S [])] 114 (0, 0)⟩ :: ⟨pb, true, .row [.slice (some ⟨prb, 0, none⟩) ps.length cP] 96 (0, 0)⟩ :: ⟨prb, true, .row prow 100 (0, 0)⟩ :: ⟨qb, true, .row [.slice (some ⟨srb, 0, none⟩) sk.length cS] 111 (0, 0)⟩ :: ⟨srb, true, .row srow 126 (0, 0)⟩ :: (Cs ++ Ht)) := by
 refine GC.weak hsub ?_
 clear hsub
 have hn0 := hn
 cases hn with
 | @mk path idx wild nt pr h full kids _ bs kv hv Hs hm hs hsm hbl hh hk =>
 simp only [n_h, n_full] at *
 obtain ⟨ad, cap, rfl⟩ := hs.slice
 obtain ⟨ad2, l2, c2, rfl, hnn⟩ := hh.slice
 have htl := tw_le p
 obtain ⟨ad3, rfl⟩ : ∃ a, ad2 = some a := by cases ad2 with | none => rw [← Option.not_isNone, ← hnn] at hh1; cases hh1 | some a => exact ⟨a, rfl⟩
 refine GC.seq ?_
 refine GC.seq ?_
 refine GC.reg ?_
 refine G.m1 ?_
 refine G.m1 ?_
 refine G.v (V.lenS Try.underlying9 rfl) rfl ?_
 refine G.v (V.lt rfl rfl) rfl ?_
 refine G.nil ?_
 refine GC.condD rfl (fun h303 => absurd (by omega) hlt) (fun h303 => ?_)
 refine GC.skip ?_
 refine GC.seq ?_
 refine GC.seq ?_
 refine GC.reg ?_
 refine G.m1 ?_
 refine G.v (V.nc rfl) rfl ?_
 refine G.v (V.fa F107_6 rfl) rfl ?_
 refine G.v (V.ld (b := nb) (off := 0 + 6) (wf := true) (l := nodeR path idx wild nt pr (.slice ad kids.length cap) (.slice (some ad3) l2 c2) full) (T := 107) (fz := (0, 0)) (v := .slice (some ad3) l2 c2) Try.isAgg94 rfl (m5 hm) rfl) rfl ?_
 refine G.v (V.fa F114_0 rfl) rfl ?_
 refine G.st (b := vb) (off := 0 + 0) (l := [.slice none 0 0, pV pb has, .bool false, S []]) (T := 114) (fz := (0, 0)) (v := .slice (some ad3) l2 c2) Try.sizeOf94 rfl rfl rfl .z rfl rfl ?_
 refine G.nil ?_
 refine GC.turn (H' := (⟨vb, true, .row [.slice (some ad3) l2 c2, pV pb has, .bool false, S []] 114 (0, 0)⟩ :: ⟨pb, true, .row [.slice (some ⟨prb, 0, none⟩) ps.length cP] 96 (0, 0)⟩ :: ⟨prb, true, .row prow 100 (0, 0)⟩ :: ⟨qb, true, .row [.slice (some ⟨srb, 0, none⟩) sk.length cS] 111 (0, 0)⟩ :: ⟨srb, true, .row srow 126 (0, 0)⟩ :: (Cs ++ Ht))) (fun w1 h1 => h1) ?_
 refine GC.seq ?_
 refine GC.reg ?_
 refine G.v (V.fa F114_0 rfl) rfl ?_
 refine G.v (V.ld (b := vb) (off := 0 + 0) (wf := true) (l := [.slice (some ad3) l2 c2, pV pb has, .bool false, S []]) (T := 114) (fz := (0, 0)) (v := .slice (some ad3) l2 c2) Try.isAgg94 rfl (.head _) rfl) rfl ?_
 refine G.v (V.neL Try.underlying94 rfl) rfl ?_
 refine G.nil ?_
 refine GC.cond rfl (fun h333 => ?_) (fun h333 => absurd h333 (by simp))
 refine GC.seq ?_
 refine GC.reg ?_
 refine G.m1 ?_
 refine G.v (V.nc rfl) rfl ?_
 refine G.v (V.fa F107_7 rfl) rfl ?_
 refine G.v (V.ld (b := nb) (off := 0 + 7) (wf := true) (l := nodeR path idx wild nt pr (.slice ad kids.length cap) (.slice (some ad3) l2 c2) full) (T := 107) (fz := (0, 0)) (v := S full) Try.isAgg9 rfl (m5 hm) rfl) rfl ?_
 refine G.v (V.fa F114_3 rfl) rfl ?_
 refine G.st (b := vb) (off := 0 + 3) (l := [.slice (some ad3) l2 c2, pV pb has, .bool false, S []]) (T := 114) (fz := (0, 0)) (v := S full) Try.sizeOf9 rfl rfl rfl .z rfl rfl ?_
 refine G.nil ?_
 refine GC.turn (H' := (⟨vb, true, .row [.slice (some ad3) l2 c2, pV pb has, .bool false, S full] 114 (0, 0)⟩ :: ⟨pb, true, .row [.slice (some ⟨prb, 0, none⟩) ps.length cP] 96 (0, 0)⟩ :: ⟨prb, true, .row prow 100 (0, 0)⟩ :: ⟨qb, true, .row [.slice (some ⟨srb, 0, none⟩) sk.length cS] 111 (0, 0)⟩ :: ⟨srb, true, .row srow 126 (0, 0)⟩ :: (Cs ++ Ht))) (fun w1 h1 => h1) ?_
 refine GC.seq ?_
 refine GC.reg ?_
 refine G.v (V.ldA (b := vb) (off := 0) (s := 4) (wf := true) (l := [.slice (some ad3) l2 c2, pV pb has, .bool false, S full]) (T := 114) (fz := (0, 0)) (cs := [.slice (some ad3) l2 c2, pV pb has, .bool false, S full]) Try.isAgg114 Try.sizeOf114 rfl (.head _) rfl rfl) rfl ?_
 refine G.stA (cs := [.slice (some ad3) l2 c2, pV pb has, .bool false, S full]) Try.sizeOf114 rfl rfl (by intro v hv; simp only [List.mem_cons, List.not_mem_nil, or_false] at hv; rcases hv with rfl | rfl | rfl | rfl <;> first | rfl | exact pV_one _ _) .z rfl ?_
 refine G.nil ?_
 refine GC.retC (cs := [.slice (some ad3) l2 c2, pV pb has, .bool false, S full]) rfl Try.isAgg114 Try.sizeOf114 rfl (.head _) rfl fun w' hw' => fin has prow (.slice (some ad3) l2 c2) w' hpr hprt hhas (hh) (hw'.sub (.cons _ (.cons_cons _ (.cons_cons _ (.cons _ (.cons _ (List.sublist_append_right _ _)))))))
theorem g76_leafn {R : Ending → World → Prop} {w : World} {D : Nat → Prop} {vb pb prb qb srb cP cS : Nat} {un : Bool} {Ht : SH} {n : T0} {p : List UInt8} {ps : List (List UInt8 × List UInt8)} {sk : List Sk} {nb : Nat} {has : Bool} {prow srow : List Value} {Cs : SH} {fr : SF} {_c : UInt8}
  (hn : Rd Ht Cs n nb) (hpr : prow.length = 2 * cP) (hprt : prow.take (2 * ps.length) = flatP ps) (_hsr : srow.length = 3 * cS) (_hsk : SkRow Ht Cs srow sk) (hhas : has = false → ps = []) (_hpl : p.length ≤ 100000) (_hpc : ps.length ≤ cP) (_hcP : cP ≤ 20000) (_hsc : sk.length ≤ cS) (_hcS : cS ≤ 20000) (hsub : Sub [(0, Pt nb 0), (1, S p), (2, Pt pb 0), (3, Pt qb 0), (4, .bool un), (10, Pt vb 0), (11, .int .i16 (ps.length : Int)), (19, I ((p.takeWhile (· ≠ 47)).length : Nat))] fr) (hlt : ¬ (p.takeWhile (· ≠ 47)).length < p.length) (hh1 : n.h = none) (hks : n.kids.length ≠ 1)
  (fin : Fin76 R w D pb prb cP Ht ⟨none, ps, false, []⟩) :
  GC Try.prog ⟨76, Try.f76, R, w, D⟩ 703 K76p fr (⟨vb, true, .row [(.slice none 0 0), (pV pb has), .bool false, (S [])] 114 (0, 0)⟩ :: ⟨pb, true, .row [.slice (some ⟨prb, 0, none⟩) ps.length cP] 96 (0, 0)⟩ :: ⟨prb, true, .row prow 100 (0, 0)⟩ :: ⟨qb, true, .row [.slice (some ⟨srb, 0, none⟩) sk.length cS] 111 (0, 0)⟩ :: ⟨srb, true, .row srow 126 (0, 0)⟩ :: (Cs ++ Ht)) := by
 refine GC.weak hsub ?_
 clear hsub
 have hn0 := hn
 cases hn with
 | @mk path idx wild nt pr h full kids _ bs kv hv Hs hm hs hsm hbl hh hk =>
 simp only [n_kids, n_h] at *
 obtain ⟨ad, cap, rfl⟩ := hs.slice
 obtain ⟨ad2, l2, c2, rfl, hnn⟩ := hh.slice
 have htl := tw_le p
 have hv0 : (Value.slice ad2 l2 c2) = .slice none 0 0 := by
  rcases hh with ⟨_, h2⟩ | ⟨k, hb, h2, _⟩
  ·exact h2
  ·rw [hh1] at h2; cases h2
 cases hv0
 refine GC.seq ?_
 refine GC.seq ?_
 refine GC.reg ?_
 refine G.m1 ?_
 refine G.m1 ?_
 refine G.v (V.lenS Try.underlying9 rfl) rfl ?_
 refine G.v (V.lt rfl rfl) rfl ?_
 refine G.nil ?_
 refine GC.condD rfl (fun h303 => absurd (by omega) hlt) (fun h303 => ?_)
 refine GC.skip ?_
 refine GC.seq ?_
 refine GC.seq ?_
 refine GC.reg ?_
 refine G.m1 ?_
 refine G.v (V.nc rfl) rfl ?_
 refine G.v (V.fa F107_6 rfl) rfl ?_
 refine G.v (V.ld (b := nb) (off := 0 + 6) (wf := true) (l := nodeR path idx wild nt pr (.slice ad kids.length cap) (.slice none 0 0) full) (T := 107) (fz := (0, 0)) (v := .slice none 0 0) Try.isAgg94 rfl (m5 hm) rfl) rfl ?_
 refine G.v (V.fa F114_0 rfl) rfl ?_
 refine G.st (b := vb) (off := 0 + 0) (l := [.slice none 0 0, pV pb has, .bool false, S []]) (T := 114) (fz := (0, 0)) (v := .slice none 0 0) Try.sizeOf94 rfl rfl rfl .z rfl rfl ?_
 refine G.nil ?_
 refine GC.turn (H' := (⟨vb, true, .row [.slice none 0 0, pV pb has, .bool false, S []] 114 (0, 0)⟩ :: ⟨pb, true, .row [.slice (some ⟨prb, 0, none⟩) ps.length cP] 96 (0, 0)⟩ :: ⟨prb, true, .row prow 100 (0, 0)⟩ :: ⟨qb, true, .row [.slice (some ⟨srb, 0, none⟩) sk.length cS] 111 (0, 0)⟩ :: ⟨srb, true, .row srow 126 (0, 0)⟩ :: (Cs ++ Ht))) (fun w1 h1 => h1) ?_
 refine GC.seq ?_
 refine GC.reg ?_
 refine G.v (V.fa F114_0 rfl) rfl ?_
 refine G.v (V.ld (b := vb) (off := 0 + 0) (wf := true) (l := [.slice none 0 0, pV pb has, .bool false, S []]) (T := 114) (fz := (0, 0)) (v := .slice none 0 0) Try.isAgg94 rfl (.head _) rfl) rfl ?_
 refine G.v (V.neL Try.underlying94 rfl) rfl ?_
 refine G.nil ?_
 refine GC.cond rfl (fun h333 => absurd h333 (by simp)) (fun h333 => ?_)
 refine GC.skip ?_
 refine GC.seq ?_
 refine GC.seq ?_
 refine GC.reg ?_
 refine G.m1 ?_
 refine G.v (V.nc rfl) rfl ?_
 refine G.v (V.fa F107_5 rfl) rfl ?_
 refine G.v (V.ld (b := nb) (off := 0 + 5) (wf := true) (l := nodeR path idx wild nt pr (.slice ad kids.length cap) (.slice none 0 0) full) (T := 107) (fz := (0, 0)) (v := (.slice ad kids.length cap)) Try.isAgg105 rfl (m5 hm) rfl) rfl ?_
 refine G.v (V.lenL Try.underlying105 rfl) rfl ?_
 refine G.v (V.eqI rfl rfl) rfl ?_
 refine G.nil ?_
 refine GC.condD rfl (fun h345 => absurd (by omega) hks) (fun h345 => ?_)
 refine GC.skip ?_
 refine GC.seq ?_
 refine GC.reg ?_
 refine G.v (V.ldA (b := vb) (off := 0) (s := 4) (wf := true) (l := [.slice none 0 0, pV pb has, .bool false, S []]) (T := 114) (fz := (0, 0)) (cs := [.slice none 0 0, pV pb has, .bool false, S []]) Try.isAgg114 Try.sizeOf114 rfl (.head _) rfl rfl) rfl ?_
 refine G.stA (cs := [.slice none 0 0, pV pb has, .bool false, S []]) Try.sizeOf114 rfl rfl (by intro v hv; simp only [List.mem_cons, List.not_mem_nil, or_false] at hv; rcases hv with rfl | rfl | rfl | rfl <;> first | rfl | exact pV_one _ _) .z rfl ?_
 refine G.nil ?_
 refine GC.retC (cs := [.slice none 0 0, pV pb has, .bool false, S []]) rfl Try.isAgg114 Try.sizeOf114 rfl (.head _) rfl fun w' hw' => fin has prow (.slice none 0 0) w' hpr hprt hhas (HVX_none) (hw'.sub (.cons _ (.cons_cons _ (.cons_cons _ (.cons _ (.cons _ (List.sublist_append_right _ _)))))))
theorem g76_leaf1 {R : Ending → World → Prop} {w : World} {D : Nat → Prop} {vb pb prb qb srb cP cS : Nat} {un : Bool} {Ht : SH} {n : T0} {p : List UInt8} {ps : List (List UInt8 × List UInt8)} {sk : List Sk} {nb : Nat} {has : Bool} {prow srow : List Value} {Cs : SH} {fr : SF} {_c : UInt8}
  (hn : Rd Ht Cs n nb) (hpr : prow.length = 2 * cP) (hprt : prow.take (2 * ps.length) = flatP ps) (_hsr : srow.length = 3 * cS) (_hsk : SkRow Ht Cs srow sk) (hhas : has = false → ps = []) (_hpl : p.length ≤ 100000) (_hpc : ps.length ≤ cP) (_hcP : cP ≤ 20000) (_hsc : sk.length ≤ cS) (_hcS : cS ≤ 20000) (hsub : Sub [(0, Pt nb 0), (1, S p), (2, Pt pb 0), (3, Pt qb 0), (4, .bool un), (10, Pt vb 0), (11, .int .i16 (ps.length : Int)), (19, I ((p.takeWhile (· ≠ 47)).length : Nat))] fr) {c0 : T0} (hlt : ¬ (p.takeWhile (· ≠ 47)).length < p.length) (hh1 : n.h = none) (hks : n.kids = [c0])
  (fin : Fin76 R w D pb prb cP Ht ⟨none, ps, (decide (c0.path = [47]) && c0.h.isSome) || (decide (c0.path = []) && decide (c0.idx = [47])), []⟩) :
  GC Try.prog ⟨76, Try.f76, R, w, D⟩ 703 K76p fr (⟨vb, true, .row [(.slice none 0 0), (pV pb has), .bool false, (S [])] 114 (0, 0)⟩ :: ⟨pb, true, .row [.slice (some ⟨prb, 0, none⟩) ps.length cP] 96 (0, 0)⟩ :: ⟨prb, true, .row prow 100 (0, 0)⟩ :: ⟨qb, true, .row [.slice (some ⟨srb, 0, none⟩) sk.length cS] 111 (0, 0)⟩ :: ⟨srb, true, .row srow 126 (0, 0)⟩ :: (Cs ++ Ht)) := by
 refine GC.weak hsub ?_
 clear hsub
 have hn0 := hn
 cases hn with
 | @mk path idx wild nt pr h full kids _ bs kv hv Hs hm hs hsm hbl hh hk =>
 simp only [n_kids, n_h] at *
 obtain ⟨ad, cap, rfl⟩ := hs.slice
 obtain ⟨ad2, l2, c2, rfl, hnn⟩ := hh.slice
 have htl := tw_le p
 have hv0 : (Value.slice ad2 l2 c2) = .slice none 0 0 := by
  rcases hh with ⟨_, h2⟩ | ⟨k, hb, h2, _⟩
  ·exact h2
  ·rw [hh1] at h2; cases h2
 cases hv0
 subst hks
 obtain ⟨kb, hkb⟩ : ∃ kb, bs[0]? = some kb := ⟨_, List.getElem?_eq_getElem (by rw [hbl]; simp)⟩
 have hrk := hk 0 _ kb rfl hkb
 obtain ⟨rb, cap2, spare, e1, rfl⟩ := hs.at (i := 0) (by simp)
 cases e1
 have hrbm := hsm _ (.head _)
 clear hs
 cases hrk with
 | @mk kpath kidx kwild knt kpr kh kfull kkids _ kbs kkv khv kHs km ks ksm kbl khh kk =>
 simp only [n_path, n_h, n_idx] at *
 obtain ⟨kad2, kl2, kc2, rfl, khnn⟩ := khh.slice
 refine GC.seq ?_
 refine GC.seq ?_
 refine GC.reg ?_
 refine G.m1 ?_
 refine G.m1 ?_
 refine G.v (V.lenS Try.underlying9 rfl) rfl ?_
 refine G.v (V.lt rfl rfl) rfl ?_
 refine G.nil ?_
 refine GC.condD rfl (fun h303 => absurd (by omega) hlt) (fun h303 => ?_)
 refine GC.skip ?_
 refine GC.seq ?_
 refine GC.seq ?_
 refine GC.reg ?_
 refine G.m1 ?_
 refine G.v (V.nc rfl) rfl ?_
 refine G.v (V.fa F107_6 rfl) rfl ?_
 refine G.v (V.ld (b := nb) (off := 0 + 6) (wf := true) (l := nodeR path idx wild nt pr (.slice (some ⟨rb, 0, none⟩) ([Tr.node () kpath kidx kwild knt kpr kh kfull kkids]).length cap) (.slice none 0 0) full) (T := 107) (fz := (0, 0)) (v := .slice none 0 0) Try.isAgg94 rfl (m5 hm) rfl) rfl ?_
 refine G.v (V.fa F114_0 rfl) rfl ?_
 refine G.st (b := vb) (off := 0 + 0) (l := [.slice none 0 0, pV pb has, .bool false, S []]) (T := 114) (fz := (0, 0)) (v := .slice none 0 0) Try.sizeOf94 rfl rfl rfl .z rfl rfl ?_
 refine G.nil ?_
 refine GC.turn (H' := (⟨vb, true, .row [.slice none 0 0, pV pb has, .bool false, S []] 114 (0, 0)⟩ :: ⟨pb, true, .row [.slice (some ⟨prb, 0, none⟩) ps.length cP] 96 (0, 0)⟩ :: ⟨prb, true, .row prow 100 (0, 0)⟩ :: ⟨qb, true, .row [.slice (some ⟨srb, 0, none⟩) sk.length cS] 111 (0, 0)⟩ :: ⟨srb, true, .row srow 126 (0, 0)⟩ :: (Cs ++ Ht))) (fun w1 h1 => h1) ?_
 refine GC.seq ?_
 refine GC.reg ?_
 refine G.v (V.fa F114_0 rfl) rfl ?_
 refine G.v (V.ld (b := vb) (off := 0 + 0) (wf := true) (l := [.slice none 0 0, pV pb has, .bool false, S []]) (T := 114) (fz := (0, 0)) (v := .slice none 0 0) Try.isAgg94 rfl (.head _) rfl) rfl ?_
 refine G.v (V.neL Try.underlying94 rfl) rfl ?_
 refine G.nil ?_
 refine GC.cond rfl (fun h333 => absurd h333 (by simp)) (fun h333 => ?_)
 refine GC.skip ?_
 refine GC.seq ?_
 refine GC.seq ?_
 refine GC.reg ?_
 refine G.m1 ?_
 refine G.v (V.nc rfl) rfl ?_
 refine G.v (V.fa F107_5 rfl) rfl ?_
 refine G.v (V.ld (b := nb) (off := 0 + 5) (wf := true) (l := nodeR path idx wild nt pr (.slice (some ⟨rb, 0, none⟩) ([Tr.node () kpath kidx kwild knt kpr kh kfull kkids]).length cap) (.slice none 0 0) full) (T := 107) (fz := (0, 0)) (v := (.slice (some ⟨rb, 0, none⟩) ([Tr.node () kpath kidx kwild knt kpr kh kfull kkids]).length cap)) Try.isAgg105 rfl (m5 hm) rfl) rfl ?_
 refine G.v (V.lenL Try.underlying105 rfl) rfl ?_
 refine G.v (V.eqI rfl rfl) rfl ?_
 refine G.nil ?_
 refine GC.condD rfl (fun h345 => ?_) (fun h345 => absurd (by simp) h345)
 refine GC.seq ?_
 refine GC.reg ?_
 refine G.m1 ?_
 refine G.v (V.nc rfl) rfl ?_
 refine G.v (V.fa F107_5 rfl) rfl ?_
 refine G.v (V.ld (b := nb) (off := 0 + 5) (wf := true) (l := nodeR path idx wild nt pr (.slice (some ⟨rb, 0, none⟩) ([Tr.node () kpath kidx kwild knt kpr kh kfull kkids]).length cap) (.slice none 0 0) full) (T := 107) (fz := (0, 0)) (v := (.slice (some ⟨rb, 0, none⟩) ([Tr.node () kpath kidx kwild knt kpr kh kfull kkids]).length cap)) Try.isAgg105 rfl (m5 hm) rfl) rfl ?_
 refine G.v (V.ia (i := 0) Try.underlying105 Try.sizeOf89 rfl rfl (by simp)) rfl ?_
 refine G.v (V.ld (b := rb) (off := 0 + 0 * 1) (wf := true) (l := bs.map (Pt · 0) ++ spare) (T := 89) (fz := (0, 0)) (v := Pt kb 0) Try.isAgg89 rfl (.tail _ (.tail _ (.tail _ (.tail _ (.tail _ ((List.mem_append_right _ hrbm))))))) (by rw [nth_eq, Nat.zero_add, Nat.mul_one, List.getElem?_append_left (by rw [List.length_map, hbl]; simp), List.getElem?_map, hkb]; rfl)) rfl ?_
 refine G.m2 ?_
 refine G.nil ?_
 refine GC.join (fun fr' H' => Sub [(10, Pt vb 0)] fr' ∧ H' = (⟨vb, true, .row [.slice none 0 0, pV pb has, .bool ((decide (kpath = [47]) && kh.isSome) || (decide (kpath = []) && decide (kidx = [47]))), S []] 114 (0, 0)⟩ :: ⟨pb, true, .row [.slice (some ⟨prb, 0, none⟩) ps.length cP] 96 (0, 0)⟩ :: ⟨prb, true, .row prow 100 (0, 0)⟩ :: ⟨qb, true, .row [.slice (some ⟨srb, 0, none⟩) sk.length cS] 111 (0, 0)⟩ :: ⟨srb, true, .row srow 126 (0, 0)⟩ :: (Cs ++ Ht))) (fun J67 => ?_) ?_
 ·refine GC.reg ?_
  refine G.m1 ?_
  refine G.v (V.nc rfl) rfl ?_
  refine G.v (V.fa F107_0 rfl) rfl ?_
  refine G.v (V.ld (b := kb) (off := 0 + 0) (wf := true) (l := nodeR kpath kidx kwild knt kpr kkv (.slice kad2 kl2 kc2) kfull) (T := 107) (fz := (0, 0)) (v := S kpath) Try.isAgg9 rfl (m5 km) rfl) rfl ?_
  refine G.v (V.eqS rfl rfl) rfl ?_
  refine G.m1 ?_
  refine G.bc 357 rfl (fun h357 => ?_) (fun h357 => ?_)
  ·refine G.m5 ?_
   refine G.vg rfl rfl (V.nc rfl) rfl ?_
   refine G.vg rfl rfl (V.fa F107_6 rfl) rfl ?_
   refine G.vg rfl rfl (V.ld (b := kb) (off := 0 + 6) (wf := true) (l := nodeR kpath kidx kwild knt kpr kkv (.slice kad2 kl2 kc2) kfull) (T := 107) (fz := (0, 0)) (v := .slice kad2 kl2 kc2) Try.isAgg94 rfl (m5 km) rfl) rfl ?_
   refine G.vg rfl rfl (V.neL Try.underlying94 rfl) rfl ?_
   refine G.m3 ?_
   refine G.m1 ?_
   refine G.bc 364 rfl (fun h364 => ?_) (fun h364 => ?_)
   ·refine G.s1 ?_
    refine G.s1 ?_
    refine G.s1 ?_
    refine G.s1 ?_
    refine G.s1 ?_
    refine G.s1 ?_
    refine G.sgU rfl rfl rfl rfl rfl ?_
    refine G.sgU rfl rfl rfl rfl rfl ?_
    refine G.sgU rfl rfl rfl rfl rfl ?_
    refine G.sgU rfl rfl rfl rfl rfl ?_
    refine G.sgU rfl rfl rfl rfl rfl ?_
    refine G.s1 ?_
    refine G.m3 ?_
    refine G.v (V.fa F114_2 rfl) rfl ?_
    have hs1 : kh.isSome = true := by rw [← Option.not_isNone, ← khnn]; exact h364
    have hp1 := decide_eq_true (of_decide_eq_true h357)
    have e : ((decide (kpath = [47]) && kh.isSome) || (decide (kpath = []) && decide (kidx = [47]))) = true := by rw [hp1, hs1]; rfl
    refine G.st (b := vb) (off := 0 + 2) (l := [.slice none 0 0, pV pb has, .bool false, S []]) (T := 114) (fz := (0, 0)) (v := .bool (true)) Try.sizeOf4 rfl rfl rfl .z rfl rfl ?_
    refine G.nil ?_
    refine J67 _ _ ⟨.cons rfl .nil, ?_⟩
    rw [e]
    rfl
   ·refine G.m5 ?_
    refine G.vg rfl rfl (V.nc rfl) rfl ?_
    refine G.vg rfl rfl (V.fa F107_0 rfl) rfl ?_
    refine G.vg rfl rfl (V.ld (b := kb) (off := 0 + 0) (wf := true) (l := nodeR kpath kidx kwild knt kpr kkv (.slice kad2 kl2 kc2) kfull) (T := 107) (fz := (0, 0)) (v := S kpath) Try.isAgg9 rfl (m5 km) rfl) rfl ?_
    refine G.vg rfl rfl (V.eqS rfl rfl) rfl ?_
    refine G.m5 ?_
    refine G.bc 370 rfl (fun h370 => ?_) (fun h370 => ?_)
    ·refine G.m5 ?_
     refine G.vg rfl rfl (V.nc rfl) rfl ?_
     refine G.vg rfl rfl (V.fa F107_1 rfl) rfl ?_
     refine G.vg rfl rfl (V.ld (b := kb) (off := 0 + 1) (wf := true) (l := nodeR kpath kidx kwild knt kpr kkv (.slice kad2 kl2 kc2) kfull) (T := 107) (fz := (0, 0)) (v := S kidx) Try.isAgg9 rfl (m5 km) rfl) rfl ?_
     refine G.vg rfl rfl (V.eqS rfl rfl) rfl ?_
     refine G.vg rfl rfl (V.pickT rfl rfl) rfl ?_
     refine G.m4 ?_
     refine G.v (V.fa F114_2 rfl) rfl ?_
     have hs1 : kh.isSome = false := by rw [← Option.not_isNone, ← khnn]; exact h364
     have hp1 := decide_eq_true (of_decide_eq_true h357)
     have hn1 := decide_eq_true (of_decide_eq_true h370)
     have e : ((decide (kpath = [47]) && kh.isSome) || (decide (kpath = []) && decide (kidx = [47]))) = decide (kidx = [47]) := by rw [hs1, hn1, Bool.and_false, Bool.false_or, Bool.true_and]
     refine G.st (b := vb) (off := 0 + 2) (l := [.slice none 0 0, pV pb has, .bool false, S []]) (T := 114) (fz := (0, 0)) (v := .bool (decide (kidx = [47]))) Try.sizeOf4 rfl rfl rfl .z rfl rfl ?_
     refine G.nil ?_
     refine J67 _ _ ⟨.cons rfl .nil, ?_⟩
     rw [e]
     rfl
    ·refine G.s1 ?_
     refine G.s1 ?_
     refine G.s1 ?_
     refine G.s1 ?_
     refine G.s1 ?_
     refine G.vg rfl rfl (V.pickF rfl rfl) rfl ?_
     refine G.m4 ?_
     refine G.v (V.fa F114_2 rfl) rfl ?_
     have hs1 : kh.isSome = false := by rw [← Option.not_isNone, ← khnn]; exact h364
     have hp1 := decide_eq_true (of_decide_eq_true h357)
     have hn0 := decide_eq_false (of_decide_eq_false h370)
     have e : ((decide (kpath = [47]) && kh.isSome) || (decide (kpath = []) && decide (kidx = [47]))) = false := by rw [hs1, hn0, Bool.and_false, Bool.false_or, Bool.false_and]
     refine G.st (b := vb) (off := 0 + 2) (l := [.slice none 0 0, pV pb has, .bool false, S []]) (T := 114) (fz := (0, 0)) (v := .bool (false)) Try.sizeOf4 rfl rfl rfl .z rfl rfl ?_
     refine G.nil ?_
     refine J67 _ _ ⟨.cons rfl .nil, ?_⟩
     rw [e]
     rfl
  ·refine G.s1 ?_
   refine G.s1 ?_
   refine G.s1 ?_
   refine G.s1 ?_
   refine G.s1 ?_
   refine G.m4 ?_
   refine G.m1 ?_
   refine G.m5 ?_
   refine G.vg rfl rfl (V.nc rfl) rfl ?_
   refine G.vg rfl rfl (V.fa F107_0 rfl) rfl ?_
   refine G.vg rfl rfl (V.ld (b := kb) (off := 0 + 0) (wf := true) (l := nodeR kpath kidx kwild knt kpr kkv (.slice kad2 kl2 kc2) kfull) (T := 107) (fz := (0, 0)) (v := S kpath) Try.isAgg9 rfl (m5 km) rfl) rfl ?_
   refine G.vg rfl rfl (V.eqS rfl rfl) rfl ?_
   refine G.m5 ?_
   refine G.bc 370 rfl (fun h370 => ?_) (fun h370 => ?_)
   ·refine G.m5 ?_
    refine G.vg rfl rfl (V.nc rfl) rfl ?_
    refine G.vg rfl rfl (V.fa F107_1 rfl) rfl ?_
    refine G.vg rfl rfl (V.ld (b := kb) (off := 0 + 1) (wf := true) (l := nodeR kpath kidx kwild knt kpr kkv (.slice kad2 kl2 kc2) kfull) (T := 107) (fz := (0, 0)) (v := S kidx) Try.isAgg9 rfl (m5 km) rfl) rfl ?_
    refine G.vg rfl rfl (V.eqS rfl rfl) rfl ?_
    refine G.vg rfl rfl (V.pickT rfl rfl) rfl ?_
    refine G.m4 ?_
    refine G.v (V.fa F114_2 rfl) rfl ?_
    have hp0 := decide_eq_false (of_decide_eq_false h357)
    have hn1 := decide_eq_true (of_decide_eq_true h370)
    have e : ((decide (kpath = [47]) && kh.isSome) || (decide (kpath = []) && decide (kidx = [47]))) = decide (kidx = [47]) := by rw [hp0, hn1, Bool.false_and, Bool.false_or, Bool.true_and]
    refine G.st (b := vb) (off := 0 + 2) (l := [.slice none 0 0, pV pb has, .bool false, S []]) (T := 114) (fz := (0, 0)) (v := .bool (decide (kidx = [47]))) Try.sizeOf4 rfl rfl rfl .z rfl rfl ?_
    refine G.nil ?_
    refine J67 _ _ ⟨.cons rfl .nil, ?_⟩
    rw [e]
    rfl
   ·refine G.s1 ?_
    refine G.s1 ?_
    refine G.s1 ?_
    refine G.s1 ?_
    refine G.s1 ?_
    refine G.vg rfl rfl (V.pickF rfl rfl) rfl ?_
    refine G.m4 ?_
    refine G.v (V.fa F114_2 rfl) rfl ?_
    have hp0 := decide_eq_false (of_decide_eq_false h357)
    have hn0 := decide_eq_false (of_decide_eq_false h370)
    have e : ((decide (kpath = [47]) && kh.isSome) || (decide (kpath = []) && decide (kidx = [47]))) = false := by rw [hp0, hn0, Bool.false_and, Bool.false_or, Bool.false_and]
    refine G.st (b := vb) (off := 0 + 2) (l := [.slice none 0 0, pV pb has, .bool false, S []]) (T := 114) (fz := (0, 0)) (v := .bool (false)) Try.sizeOf4 rfl rfl rfl .z rfl rfl ?_
    refine G.nil ?_
    refine J67 _ _ ⟨.cons rfl .nil, ?_⟩
    rw [e]
    rfl
 rintro fr' H' ⟨hs67, rfl⟩
 refine GC.weak hs67 ?_
 clear hs67
 refine GC.seq ?_
 refine GC.reg ?_
 refine G.v (V.ldA (b := vb) (off := 0) (s := 4) (wf := true) (l := [.slice none 0 0, pV pb has, .bool ((decide (kpath = [47]) && kh.isSome) || (decide (kpath = []) && decide (kidx = [47]))), S []]) (T := 114) (fz := (0, 0)) (cs := [.slice none 0 0, pV pb has, .bool ((decide (kpath = [47]) && kh.isSome) || (decide (kpath = []) && decide (kidx = [47]))), S []]) Try.isAgg114 Try.sizeOf114 rfl (.head _) rfl rfl) rfl ?_
 refine G.stA (cs := [.slice none 0 0, pV pb has, .bool ((decide (kpath = [47]) && kh.isSome) || (decide (kpath = []) && decide (kidx = [47]))), S []]) Try.sizeOf114 rfl rfl (by intro v hv; simp only [List.mem_cons, List.not_mem_nil, or_false] at hv; rcases hv with rfl | rfl | rfl | rfl <;> first | rfl | exact pV_one _ _) .z rfl ?_
 refine G.nil ?_
 refine GC.retC (cs := [.slice none 0 0, pV pb has, .bool ((decide (kpath = [47]) && kh.isSome) || (decide (kpath = []) && decide (kidx = [47]))), S []]) rfl Try.isAgg114 Try.sizeOf114 rfl (.head _) rfl fun w' hw' => fin has prow (.slice none 0 0) w' hpr hprt hhas (HVX_none) (hw'.sub (.cons _ (.cons_cons _ (.cons_cons _ (.cons _ (.cons _ (List.sublist_append_right _ _)))))))
end Go.Proofs

/- getValue does what getC says. Printed by wip/mk_gg7.py. -/
set_option maxRecDepth 20000
namespace Go.Proofs
open Go Bw
open Gt
/-- what a node's lists are no longer than -/
def Lk (n : T0) : Prop := n.idx.length ≤ 100000 ∧ n.kids.length ≤ 100000 ∧ ∀ k ∈ n.kids, Ln k
theorem Ln.lk {n : T0} (h : Ln n) : Lk n := by
 cases h with
 | mk hp hi hf hn hk => exact ⟨hi, hn, hk⟩
theorem Lk.noIdx {n : T0} (h : Lk n) : Lk (Gt.noIdx n) := by
 cases n with
 | node a p i w n q h2 f k => exact ⟨by simp [Gt.noIdx, Tr.idx], h.2.1, h.2.2⟩
theorem headD_of {l : List UInt8} {c : UInt8} (h : l[0]? = some c) : l.headD 0 = c := by
 cases l with
 | nil => simp at h
 | cons a l => simp at h; simpa using h
theorem app_of {p q : List UInt8} (h : p.take q.length = q) : q ++ p.drop q.length = p := by conv => rhs; rw [← List.take_append_drop q.length p, h]
theorem g76_loop {R : Ending → World → Prop} {w : World} {D : Nat → Prop} {vb pb prb qb srb cP cS : Nat} {un : Bool} {Ht : SH} (hcP : cP ≤ 20000) (hcS : cS ≤ 20000) : ∀ (g : Nat) (n : T0) (p : List UInt8) (ps : List (List UInt8 × List UInt8)) (sk : List Sk) (r : Res), getC (unV un) cP cS g n p ps sk = some r → Lk n → p.length ≤ 100000 → (∀ s ∈ sk, Lk s.node ∧ s.path.length ≤ 100000) → ps.length ≤ cP → sk.length ≤ cS →
  Fin76 R w D pb prb cP Ht r → Lp R w D vb pb prb qb srb cP cS un Ht n p ps sk
 | 0, _, _, _, _, _, h, _, _, _, _, _, _ => by cases h
 | g + 1, n, p, ps, sk, r, h, hln, hpl, hskl, hpc, hsc, fin => by
  intro nb has prow srow Cs fr hn hpr hprt hsr hsk hhas hsub
  have hdl : (p.drop n.path.length).length ≤ 100000 := by rw [List.length_drop]; omega
  have popL : ∀ {q : List UInt8} {s : Sk} {sk2 : List Sk}, popC q ps.length sk = some (some (s, sk2)) → sk = s :: sk2 ∧ q <:+ s.path ∧ s.cnt ≤ ps.length := fun {q s sk2} hp => by
   cases sk with
   | nil => cases hp
   | cons a l =>
    simp only [popC] at hp
    split at hp
    ·rename_i hc; cases hp; exact ⟨rfl, hc.1, hc.2⟩
    ·cases hp
  have popN : ∀ {q : List UInt8}, popC q ps.length sk = some none → sk = [] := fun {q} hp => by
   cases sk with
   | nil => rfl
   | cons a l =>
    simp only [popC] at hp
    split at hp <;> cases hp
  have goPop : ∀ {q : List UInt8} {s : Sk} {sk2 : List Sk}, popC q ps.length sk = some (some (s, sk2)) → getC (unV un) cP cS g s.node s.path (ps.take s.cnt) sk2 = some r → Lp R w D vb pb prb qb srb cP cS un Ht s.node s.path (ps.take s.cnt) sk2 := fun {q s sk2} hp hg => by
   obtain ⟨e, _, hc⟩ := popL hp
   subst e
   have hs := hskl s (.head _)
   exact g76_loop hcP hcS g _ _ _ _ r hg hs.1 hs.2 (fun x hx => hskl x (.tail _ hx)) (by simp; omega) (by simp at hsc; omega) fin
  unfold getC at h
  refine g76_head hn hpr hprt hsr hsk hhas hpl hpc hcP hsc hcS hsub (fun hlt htk c fr1 hc hsub1 => ?_) (fun hpe fr1 hsub1 => ?_) (fun hnot hpe fr1 hsub1 => ?_)
  ·rw [if_pos ⟨hlt, htk⟩, headD_of hc] at h
   have happ := app_of htk
   cases hj : idxOf c n.idx with
   | some i =>
    simp only [hj] at h
    cases hkid : n.kids[i]? with
    | none => simp only [hkid] at h; cases h
    | some k =>
     simp only [hkid] at h
     have hlk := (hln.2.2 k (List.mem_of_getElem? hkid)).lk
     split at h
     ·rename_i hw
      split at h
      ·rename_i hroom
       refine g76_push hn hpr hprt hsr hsk hhas hdl hpc hcP hsc hcS hsub1 (by have := hln.1; omega) hj hkid hw hroom (by rw [happ]; exact hpl) ?_
       rw [happ]
       exact g76_loop hcP hcS g _ _ _ _ r h hlk hdl (fun s hs => by
        rcases List.mem_cons.1 hs with rfl | hs
        ·exact ⟨hln.noIdx, hpl⟩
        ·exact hskl s hs) hpc (by simp; omega) fin
      ·cases h
     ·rename_i hw
      refine g76_idx hn hpr hprt hsr hsk hhas hdl hpc hcP hsc hcS hsub1 (by have := hln.1; omega) hj hkid (by simpa using hw) ?_
      exact g76_loop hcP hcS g _ _ _ _ r h hlk hdl hskl hpc hsc fin
   | none =>
    simp only [hj] at h
    refine g76_none hn hpr hprt hsr hsk hhas hdl hpc hcP hsc hcS hsub1 (by have := hln.1; omega) hj fun fr2 hsub2 => ?_
    by_cases hw : n.wild = false
    ·rw [if_pos hw] at h
     by_cases h47 : p.drop n.path.length ≠ [47]
     ·rw [if_pos h47] at h
      cases hpo : popC (p.drop n.path.length) ps.length sk with
      | none => simp only [hpo] at h; cases h
      | some o =>
       cases o with
       | none =>
        simp only [hpo] at h
        cases h
        exact g76_retA hn hpr hprt hsr hsk hhas hdl hpc hcP hsc hcS hsub2 hw (.inr (popN hpo)) fin
       | some x =>
        obtain ⟨s, sk2⟩ := x
        simp only [hpo] at h
        obtain ⟨e, hsf, hcn⟩ := popL hpo
        have hs := hskl s (by rw [e]; exact .head _)
        exact g76_popA hn hpr hprt hsr hsk hhas hdl hpc hcP hsc hcS hsub2 e hsf hcn hs.2 hw h47 (goPop hpo h)
     ·rw [if_neg h47] at h
      simp only at h
      cases h
      exact g76_retA hn hpr hprt hsr hsk hhas hdl hpc hcP hsc hcS hsub2 hw (.inl (Decidable.byContradiction h47)) fin
    ·rw [if_neg hw] at h
     have hw1 : n.wild = true := by simpa using hw
     cases hkid : n.kids[n.kids.length - 1]? with
     | none => simp only [hkid] at h; cases h
     | some k =>
      simp only [hkid] at h
      have hlk := (hln.2.2 k (List.mem_of_getElem? hkid)).lk
      split at h
      ·cases h
      ·rename_i hroom
       have hroomP : ps.length < cP := Decidable.byContradiction fun e => hroom (.inl e)
       have hkp2 : 2 ≤ k.path.length := by
        rcases Nat.lt_or_ge k.path.length 2 with e | e
        ·exact absurd (.inr e) hroom
        ·exact e
       by_cases hk2 : k.nt = 2
       ·rw [if_pos hk2] at h
        refine g76_par hn hpr hprt hsr hsk hhas hdl hpc hcP hsc hcS hsub2 hw1 hkid hroomP hkp2 hln.2.1 hk2 fun kb prow' np fr3 hk hpr' hprt' hnp hsub3 => ?_
        subst hnp
        have hpc' : (ps ++ [(k.path.drop 1, unV un ((p.drop n.path.length).takeWhile (· ≠ 47)))]).length ≤ cP := by simp; omega
        have hhas' : true = false → (ps ++ [(k.path.drop 1, unV un ((p.drop n.path.length).takeWhile (· ≠ 47)))]) = [] := fun e => by cases e
        by_cases hlt2 : ((p.drop n.path.length).takeWhile (· ≠ 47)).length < (p.drop n.path.length).length
        ·rw [if_pos hlt2] at h
         cases hks : k.kids with
         | nil =>
          simp only [hks] at h
          cases h
          exact g76_dead (_c := c) hk hpr' hprt' hsr hsk hhas' hdl hpc' hcP hsc hcS hsub3 hlt2 hks fin
         | cons c0 cr =>
          simp only [hks] at h
          refine g76_deep (_c := c) hk hpr' hprt' hsr hsk hhas' hdl hpc' hcP hsc hcS hsub3 hlt2 hks ?_
          exact g76_loop hcP hcS g _ _ _ _ r h (hlk.2.2 c0 (by rw [hks]; exact .head _)).lk (by rw [List.length_drop]; omega) hskl hpc' hsc fin
        ·rw [if_neg hlt2] at h
         cases hh : k.h with
         | some num =>
          rw [hh] at h
          simp only [Option.isSome_some, if_true] at h
          cases h
          exact g76_leaf (_c := c) hk hpr' hprt' hsr hsk hhas' hdl hpc' hcP hsc hcS hsub3 hlt2 (by rw [hh]; rfl) (by rw [hh]; exact fin)
         | none =>
          rw [hh] at h
          simp only [Option.isSome_none, Bool.false_eq_true, if_false] at h
          match hks : k.kids, h with
          | [c0], h =>
           cases h
           exact g76_leaf1 (_c := c) hk hpr' hprt' hsr hsk hhas' hdl hpc' hcP hsc hcS hsub3 hlt2 hh hks fin
          | [], h =>
           cases h
           exact g76_leafn (_c := c) hk hpr' hprt' hsr hsk hhas' hdl hpc' hcP hsc hcS hsub3 hlt2 hh (by rw [hks]; simp) fin
          | a :: b :: l, h =>
           cases h
           exact g76_leafn (_c := c) hk hpr' hprt' hsr hsk hhas' hdl hpc' hcP hsc hcS hsub3 hlt2 hh (by rw [hks]; simp) fin
       ·rw [if_neg hk2] at h
        by_cases hk3 : k.nt = 3
        ·rw [if_pos hk3] at h
         cases h
         exact g76_cat hn hpr hprt hsr hsk hhas hdl hpc hcP hsc hcS hsub2 hw1 hkid hroomP hkp2 hln.2.1 hk3 fin
        ·rw [if_neg hk3] at h; cases h
  ·subst hpe
   rw [if_neg (by simp), if_pos rfl] at h
   cases hh : n.h with
   | some num =>
    rw [hh] at h
    simp only [Option.isNone_some, Bool.false_eq_true, false_and, if_false, Option.isSome_some, if_true] at h
    cases h
    exact g76_retE (_c := 0) hn hpr hprt hsr hsk hhas hpl hpc hcP hsc hcS hsub1 (by rw [hh]; rfl) (by rw [hh]; exact fin)
   | none =>
    rw [hh] at h
    simp only [Option.isNone_none, true_and, Option.isSome_none, Bool.false_eq_true, if_false] at h
    have rest : (n.path = [47] ∨ sk = []) → (if n.path = [47] ∧ n.wild = true ∧ n.nt ≠ 1 then some (⟨none, ps, true, []⟩ : Res)
      else if n.path = [47] ∧ n.nt = 0 then some ⟨none, ps, true, []⟩
      else match idxOf 47 n.idx with
      | some i =>
       match n.kids[i]? with
       | some k => (if k.nt = 3 ∧ k.kids = [] then none else some ⟨none, ps, (decide (k.path.length = 1) && k.h.isSome) || (decide (k.nt = 3) && ((k.kids.head?).map (·.h.isSome)).getD false), []⟩)
       | none => none
      | none => some ⟨none, ps, false, []⟩) = some r → GC Try.prog ⟨76, Try.f76, R, w, D⟩ 703 K76e fr1 (⟨vb, true, .row [(.slice none 0 0), (pV pb has), .bool false, (S [])] 114 (0, 0)⟩ :: ⟨pb, true, .row [.slice (some ⟨prb, 0, none⟩) ps.length cP] 96 (0, 0)⟩ :: ⟨prb, true, .row prow 100 (0, 0)⟩ :: ⟨qb, true, .row [.slice (some ⟨srb, 0, none⟩) sk.length cS] 111 (0, 0)⟩ :: ⟨srb, true, .row srow 126 (0, 0)⟩ :: (Cs ++ Ht)) := fun hend h => by
     refine g76_eqnone (_c := 0) hn hpr hprt hsr hsk hhas hpl hpc hcP hsc hcS hsub1 hh hend fun fr2 hsub2 => ?_
     split at h
     ·rename_i hcd
      cases h
      exact g76_ret105 (_c := 0) hn hpr hprt hsr hsk hhas hpl hpc hcP hsc hcS hsub2 hcd fin
     ·rename_i hcd
      split at h
      ·rename_i hce
       cases h
       exact g76_ret108 (_c := 0) hn hpr hprt hsr hsk hhas hpl hpc hcP hsc hcS hsub2 hcd hce fin
      ·rename_i hce
       cases hj : idxOf 47 n.idx with
       | none =>
        simp only [hj] at h
        cases h
        exact g76_ret111n (_c := 0) hn hpr hprt hsr hsk hhas hpl hpc hcP hsc hcS hsub2 hcd hce hj (by have := hln.1; omega) fin
       | some i =>
        simp only [hj] at h
        cases hkid : n.kids[i]? with
        | none => simp only [hkid] at h; cases h
        | some k =>
         simp only [hkid] at h
         split at h
         ·cases h
         ·rename_i hk3
          cases h
          exact g76_ret111 (_c := 0) hn hpr hprt hsr hsk hhas hpl hpc hcP hsc hcS hsub2 hcd hce hj hkid hk3 (by have := hln.1; omega) fin
    by_cases h47 : n.path ≠ [47]
    ·rw [if_pos h47] at h
     cases hpo : popC n.path ps.length sk with
     | none => simp only [hpo] at h; cases h
     | some o =>
      cases o with
      | none =>
       simp only [hpo] at h
       exact rest (.inr (popN hpo)) h
      | some x =>
       obtain ⟨s, sk2⟩ := x
       simp only [hpo] at h
       obtain ⟨e, hsf, hcn⟩ := popL hpo
       have hs := hskl s (by rw [e]; exact .head _)
       exact g76_popE (_c := 0) hn hpr hprt hsr hsk hhas hpl hpc hcP hsc hcS hsub1 e hsf hcn hs.2 hh h47 (goPop hpo h)
    ·rw [if_neg h47] at h
     simp only at h
     exact rest (.inl (Decidable.byContradiction h47)) h
  ·rw [if_neg hnot, if_neg hpe] at h
   refine g76_mis (_c := 0) hn hpr hprt hsr hsk hhas hpl hpc hcP hsc hcS hsub1 fun fr2 hsub2 => ?_
   by_cases hts : (decide (p = [47]) || (decide (n.path = p ++ [47]) && n.h.isSome)) = false
   ·rw [if_pos hts] at h
    have h47 : p ≠ [47] := fun e => by rw [decide_eq_true e, Bool.true_or] at hts; cases hts
    rw [hts] at h ⊢
    cases hpo : popC p ps.length sk with
    | none => simp only [hpo] at h; cases h
    | some o =>
     cases o with
     | none =>
      simp only [hpo] at h
      cases h
      exact g76_retM (_c := 0) hn hpr hprt hsr hsk hhas hpl hpc hcP hsc hcS hsub2 (.inr (.inr (popN hpo))) fin
     | some x =>
      obtain ⟨s, sk2⟩ := x
      simp only [hpo] at h
      obtain ⟨e, hsf, hcn⟩ := popL hpo
      have hs := hskl s (by rw [e]; exact .head _)
      exact g76_popM (_c := 0) hn hpr hprt hsr hsk hhas hpl hpc hcP hsc hcS hsub2 e hsf hcn hs.2 h47 (goPop hpo h)
   ·rw [if_neg hts] at h
    simp only at h
    cases h
    exact g76_retM (_c := 0) hn hpr hprt hsr hsk hhas hpl hpc hcP hsc hcS hsub2 (.inl (by
     cases hb : (decide (p = [47]) || (decide (n.path = p ++ [47]) && n.h.isSome)) with
     | true => rfl
     | false => exact absurd hb hts)) fin
/-- getValue -/
theorem f76_any (w : World) (D : Nat → Prop) {pb prb qb srb cP cS nb : Nat} {un : Bool} {Ht : SH} {t : T0} {p : List UInt8} {prow srow : List Value} {g : Nat} {r : Res} (ht : HT t nb Ht) (hl : Ln t) (hpl : p.length ≤ 100000) (hcP : cP ≤ 20000) (hcS : cS ≤ 20000) (hpr : prow.length = 2 * cP) (hsr : srow.length = 3 * cS)
  (hres : getC (unV un) cP cS g t p [] [] = some r) (hH : HF w D (⟨pb, true, .row [.slice (some ⟨prb, 0, none⟩) 0 cP] 96 (0, 0)⟩ :: ⟨prb, true, .row prow 100 (0, 0)⟩ :: ⟨qb, true, .row [.slice (some ⟨srb, 0, none⟩) 0 cS] 111 (0, 0)⟩ :: ⟨srb, true, .row srow 126 (0, 0)⟩ :: Ht) w) :
  Calls Try.prog 76 #[Pt nb 0, S p, Pt pb 0, Pt qb 0, .bool un] w fun e w' => ∃ has prow' hv, e = .returned (.agg #[hv, pV pb has, .bool r.tsr, S r.full]) ∧ prow'.length = 2 * cP ∧ prow'.take (2 * r.ps.length) = flatP r.ps ∧ (has = false → r.ps = []) ∧ HVX Ht r.h hv ∧
   HF w D (⟨pb, true, .row [.slice (some ⟨prb, 0, none⟩) r.ps.length cP] 96 (0, 0)⟩ :: ⟨prb, true, .row prow' 100 (0, 0)⟩ :: Ht) w' := by
 refine enter D (⟨pb, true, .row [.slice (some ⟨prb, 0, none⟩) 0 cP] 96 (0, 0)⟩ :: ⟨prb, true, .row prow 100 (0, 0)⟩ :: ⟨qb, true, .row [.slice (some ⟨srb, 0, none⟩) 0 cS] 111 (0, 0)⟩ :: ⟨srb, true, .row srow 126 (0, 0)⟩ :: Ht) Try.func76 rfl Try.ntmps76 rfl rfl hH fun c hc => ?_
 subst hc
 refine GC.seq ?_
 refine GC.reg ?_
 refine G.al Try.zeroValue114 rfl rfl (fun vb hvb => ?_)
 refine G.nil ?_
 refine GC.scope ?_
 refine GC.seq ?_
 refine GC.reg ?_
 refine G.m2 ?_
 refine G.nil ?_
 refine GC.seq ?_
 refine GC.label ?_
 refine GC.block ?_
 refine GC.loop ?_
 exact g76_loop hcP hcS g t p [] [] r hres hl.lk hpl (by simp) (by simp) (by simp) (fun has prow' hv w' h1 h2 h3 h4 h5 => ⟨has, prow', hv, rfl, h1, h2, h3, h4, h5⟩) nb false prow srow [] _ (ht.rd [] fun e he => he) hpr rfl hsr (fun i s hi => by simp at hi) (fun _ => rfl) (.of rfl)
end Go.Proofs
