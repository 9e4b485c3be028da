/- Lemmas of the walk and plain facts (HuC6 .. HuC8). -/
import Derived.Test.YtdjnbehdiohggaaDoorP17
import Derived.Test.YtdjnbehdiohggaaDoorP01
/- findCaseInsensitivePathRec: the kids by index, beside a wildcard. Printed by wip/mk_hv6.py. -/
set_option maxRecDepth 20000
namespace Go.Proofs
open Go Bw
open Gt
theorem g59_wd {R : Ending → World → Prop} {w : World} {D : Nat → Prop} {qb bb cp : Nat} {Ht : SH} {c0 : List UInt8} {n : T0} {p cu bl : List UInt8} {rb : UInt8} {nb : Nat} {fr : SF}
  (hn : Rd Ht n nb) (_hbl : bl.length = cp) (_hbt : bl.take cu.length = cu) (hpa : ∀ x ∈ p, x.toNat < 128) (hpl : p.length ≤ 100000) (hLp : n.path.length ≤ p.length) (hnL : Lk n) (_hc0 : c0 <+: cu) (_hHw : ∀ e ∈ Ht, e.w = true) (hsub : Sub [(0, Pt nb 0), (1, S (p.drop n.path.length)), (2, .slice (some ⟨bb, 0, none⟩) cu.length cp), (4, .bool false), (8, Pt qb 0), (11, I (n.path.length : Nat)), (12, S p)] fr) (hw : n.wild = true) (hq0 : (p.drop n.path.length) ≠ [])
  (gi : n.idx = [] → ∀ fr', Sub [(0, Pt nb 0), (1, S (p.drop n.path.length)), (2, .slice (some ⟨bb, 0, none⟩) cu.length cp), (4, .bool false), (8, Pt qb 0), (11, I (n.path.length : Nat)), (12, S p)] fr' → GC Tryd.prog ⟨59, Tryd.f59, R, w, D⟩ 606 K59v fr' (⟨qb, true, .row (rbR rb) 98 (0, 0)⟩ :: ⟨bb, true, .row (bC bl) 5 (0, 0)⟩ :: Ht))
  (gk : n.idx ≠ [] → rbK n.path rb ≠ 0 → ∀ fr', Sub [(0, Pt nb 0), (1, S (p.drop n.path.length)), (2, .slice (some ⟨bb, 0, none⟩) cu.length cp), (4, .bool false), (8, Pt qb 0), (11, I (n.path.length : Nat)), (12, S p)] fr' → GC Tryd.prog ⟨59, Tryd.f59, R, w, D⟩ 606 K59l fr' (⟨qb, true, .row (rbR (rbK n.path rb)) 98 (0, 0)⟩ :: ⟨bb, true, .row (bC bl) 5 (0, 0)⟩ :: Ht))
  (gr : n.idx ≠ [] → rbK n.path rb = 0 → ∀ fr', Sub [(0, Pt nb 0), (1, S (p.drop n.path.length)), (2, .slice (some ⟨bb, 0, none⟩) cu.length cp), (4, .bool false), (8, Pt qb 0), (11, I (n.path.length : Nat)), (12, S p), (35, .int .i32 ((runeK n.path (p.drop n.path.length)).toNat : Int)), (36, I (0 : Nat)), (39, .int .i32 ((lo (runeK n.path (p.drop n.path.length))).toNat : Int)), (40, .int .u8 ((lo (runeK n.path (p.drop n.path.length))).toNat : Int))] fr' → GC Tryd.prog ⟨59, Tryd.f59, R, w, D⟩ 606 K59e fr' (⟨qb, true, .row (rbR (lo (runeK n.path (p.drop n.path.length)))) 98 (0, 0)⟩ :: ⟨bb, true, .row (bC bl) 5 (0, 0)⟩ :: Ht)) :
  GC Tryd.prog ⟨59, Tryd.f59, R, w, D⟩ 606 K59b fr (⟨qb, true, .row (rbR rb) 98 (0, 0)⟩ :: ⟨bb, true, .row (bC bl) 5 (0, 0)⟩ :: Ht) := by
 refine GC.weak hsub ?_
 clear hsub
 have hn0 := hn
 cases hn with
 | @mk path idx wild nt pr h full kids _ bs kv hv Hs hm hs hsm hbl2 hh hk =>
 try simp only [n_path] at *
 try simp only [n_idx] at *
 try simp only [n_kids] at *
 try simp only [n_wild] at *
 try simp only [n_h] at *
 have hil : idx.length ≤ 100000 := hnL.1
 have hkil : kids.length ≤ 100000 := hnL.2.1
 obtain ⟨ad, cap, rfl⟩ := hs.slice
 obtain ⟨ad2, l2, c2, rfl, hnn⟩ := hh.slice
 refine GC.seq ?_
 refine GC.seq ?_
 refine GC.reg ?_
 refine G.m1 ?_
 refine G.v (V.nc rfl) rfl ?_
 refine G.v (V.fa F94_2 rfl) rfl ?_
 refine G.v (V.ld (b := nb) (off := 0 + 2) (wf := true) (l := nodeR path idx wild nt pr (.slice ad kids.length cap) (.slice ad2 l2 c2) full) (T := 94) (fz := (0, 0)) (v := .bool wild) Tryd.isAgg4 rfl (m2 hm) rfl) rfl ?_
 refine G.v (V.not rfl) rfl ?_
 refine G.nil ?_
 refine GC.cond rfl (fun h154 => absurd hw (by simpa using h154)) (fun h154 => ?_)
 refine GC.skip ?_
 refine GC.seq ?_
 refine GC.seq ?_
 refine GC.reg ?_
 refine G.m1 ?_
 refine G.v (V.nc rfl) rfl ?_
 refine G.v (V.fa F94_1 rfl) rfl ?_
 refine G.v (V.ld (b := nb) (off := 0 + 1) (wf := true) (l := nodeR path idx wild nt pr (.slice ad kids.length cap) (.slice ad2 l2 c2) full) (T := 94) (fz := (0, 0)) (v := S idx) Tryd.isAgg9 rfl (m2 hm) rfl) rfl ?_
 refine G.v (V.lenS Tryd.underlying9 rfl) rfl ?_
 refine G.v (V.gt rfl rfl) rfl ?_
 refine G.nil ?_
 refine GC.condD rfl (fun h309 => ?_) (fun h309 => ?_)
 ·refine GC.seq ?_
  have hix : idx ≠ [] := fun e => by rw [e] at h309; exact absurd h309 (by decide)
  refine GC.reg ?_
  refine G.v (V.ldA (b := qb) (off := 0) (s := 4) (wf := true) (l := rbR rb) (T := 98) (fz := (0, 0)) (cs := rbR rb) Tryd.isAgg98 Tryd.sizeOf98 rfl (.head _) rfl rfl) rfl ?_
  refine G.m1 ?_
  refine G.callP (v := .agg (rbR (rbK path rb)).toArray) Tryd.call71 rfl rfl (fun w1 _ => c71_any w1 rb path.length) ?_
  refine G.stA (cs := rbR (rbK path rb)) Tryd.sizeOf98 rfl rfl (rbR_one _) .z rfl ?_
  refine G.nil ?_
  refine GC.turn (H' := (⟨qb, true, .row (rbR (rbK path rb)) 98 (0, 0)⟩ :: ⟨bb, true, .row (bC bl) 5 (0, 0)⟩ :: Ht)) (fun w1 h1 => h1) ?_
  refine GC.seq ?_
  refine GC.reg ?_
  refine G.v (V.iaA (i := 0) Tryd.underlying98 Tryd.sizeOf5 rfl rfl (by decide)) rfl ?_
  refine G.v (V.ld (b := qb) (off := 0 + 0 * 1) (wf := true) (l := rbR (rbK path rb)) (T := 98) (fz := (0, 0)) (v := .int .u8 ((rbK path rb).toNat : Int)) Tryd.isAgg5 rfl (.head _) rfl) rfl ?_
  refine G.v (V.neI rfl rfl) rfl ?_
  refine G.nil ?_
  refine GC.cond rfl (fun h315 => ?_) (fun h315 => ?_)
  ·exact gk hix (fun e => by rw [e] at h315; exact absurd h315 (by decide)) _ (.of rfl)
  refine GC.seq ?_
  have hrk0 : (rbK path rb) = 0 := UInt8.toNat_inj.1 (by have h := h315; simp at h; have e : (0 : UInt8).toNat = 0 := rfl; omega)
  refine GC.reg ?_
  refine G.m2 ?_
  refine G.nil ?_
  refine GC.seq ?_
  refine GC.reg ?_
  refine G.m2 ?_
  refine G.nil ?_
  refine GC.seq ?_
  refine GC.seq ?_
  refine GC.reg ?_
  refine G.m1 ?_
  refine G.v (V.minI (j := 3) rfl rfl) rfl ?_
  refine G.m2 ?_
  refine G.nil ?_
  refine GC.join (fun fr' H' => Sub [(0, Pt nb 0), (1, S (p.drop path.length)), (2, .slice (some ⟨bb, 0, none⟩) cu.length cp), (4, .bool false), (8, Pt qb 0), (11, I (path.length : Nat)), (12, S p), (35, .int .i32 ((runeK path (p.drop path.length)).toNat : Int)), (36, I (0 : Nat))] fr' ∧ H' = (⟨qb, true, .row (rbR (rbK path rb)) 98 (0, 0)⟩ :: ⟨bb, true, .row (bC bl) 5 (0, 0)⟩ :: Ht)) (fun JB => ?_) ?_
  ·refine GC.block ?_
   refine GC.loop ?_
   refine GC.seq ?_
   refine GC.seq ?_
   refine GC.reg ?_
   refine G.m1 ?_
   refine G.m1 ?_
   refine G.v (V.lt rfl rfl) rfl ?_
   refine G.nil ?_
   refine GC.condD rfl (fun h352 => ?_) (fun h352 => ?_)
   ·refine GC.skip ?_
    refine GC.seq ?_
    refine GC.block ?_
    refine GC.seq ?_
    have hL0 : path.length ≠ 0 := by omega
    obtain ⟨d, q1, hdq⟩ := List.exists_cons_of_ne_nil hq0
    have hd : p[path.length]? = some d := by have := congrArg (·[0]?) hdq; simpa [List.getElem?_drop] using this
    have hdl : d.toNat < 128 := hpa d (List.mem_of_getElem? hd)
    refine GC.reg ?_
    refine G.m1 ?_
    refine G.m1 ?_
    refine G.v (V.subI (r := ((path.length : Nat) : Int)) rfl rfl (by omega) (by omega) (by omega)) rfl ?_
    refine G.m2 ?_
    refine G.nil ?_
    refine GC.seq ?_
    refine GC.reg ?_
    refine G.m1 ?_
    refine G.m1 ?_
    refine G.v (V.idx (i := path.length) (b := d) Tryd.underlying9 rfl rfl hd) rfl ?_
    refine G.callP (v := .bool true) Tryd.call72 rfl rfl (fun w1 _ => f72_low w1 d hdl) ?_
    refine G.nil ?_
    refine GC.condT rfl ?_
    refine GC.seq ?_
    refine GC.reg ?_
    refine G.m1 ?_
    refine G.m1 ?_
    refine G.v (V.slL (i := path.length) Tryd.underlying9 rfl rfl hLp) rfl ?_
    refine G.callP (v := .tuple #[.int .i32 (d.toNat : Int), I 1]) Tryd.call73 rfl rfl (fun w1 _ => f73_low w1 _ d (by rw [hdq]; rfl) hdl) ?_
    refine G.m1 ?_
    refine G.v (V.ex rfl rfl) rfl ?_
    refine G.v (V.ex rfl rfl) rfl ?_
    refine G.m2 ?_
    refine G.nil ?_
    refine GC.exit rfl ?_
    have hru : d = (runeK path (p.drop path.length)) := by
     unfold runeK
     rw [if_neg hL0, hdq]; rfl
    exact JB _ _ ⟨by rw [← hru]; exact .of rfl, rfl⟩
   refine GC.exit rfl ?_
   have hru : (runeK path (p.drop path.length)) = 0 := if_pos (by omega)
   exact JB _ _ ⟨by rw [hru]; exact .of rfl, rfl⟩
  rintro fr' H' ⟨hsb, rfl⟩
  refine GC.weak hsb ?_
  clear hsb
  have hrl : (runeK path (p.drop path.length)).toNat < 128 := runeK_low fun x hx => hpa x (List.mem_of_mem_drop hx)
  refine GC.seq ?_
  refine GC.reg ?_
  refine G.m1 ?_
  refine G.callP (v := .int .i32 ((lo (runeK path (p.drop path.length))).toNat : Int)) Tryd.call74 rfl rfl (fun w1 _ => f74_low w1 _ hrl) ?_
  refine G.m2 ?_
  refine G.nil ?_
  refine GC.seq ?_
  refine GC.reg ?_
  refine G.v (V.slAr Tryd.underlying98 Tryd.sizeOf5 rfl) rfl ?_
  refine G.m1 ?_
  refine G.callL (H1 := [⟨qb, true, .row (rbR (rbK path rb)) 98 (0, 0)⟩]) (Hk := ⟨bb, true, .row (bC bl) 5 (0, 0)⟩ :: Ht) (fun v H1' => v = I 1 ∧ H1' = [⟨qb, true, .row (rbR (lo (runeK path (p.drop path.length)))) 98 (0, 0)⟩]) (.of_eq rfl) (fun e0 he0 => by rw [List.mem_singleton.1 he0]) Tryd.call75 rfl rfl (fun w1 hw1 _ => ?_) ?_
  ·exact (c75_any w1 _ (lo_low hrl) hw1).mono fun e w' ⟨h1, h2⟩ => ⟨_, _, h1, fun e0 he0 => by rw [List.mem_singleton.1 he0], h2, rfl, rfl⟩
  rintro v H1' ⟨rfl, rfl⟩
  refine G.nil ?_
  refine GC.turn (H' := (⟨qb, true, .row (rbR (lo (runeK path (p.drop path.length)))) 98 (0, 0)⟩ :: ⟨bb, true, .row (bC bl) 5 (0, 0)⟩ :: Ht)) (fun w1 h1 => h1) ?_
  refine GC.seq ?_
  refine GC.reg ?_
  refine G.v (V.ldA (b := qb) (off := 0) (s := 4) (wf := true) (l := rbR (lo (runeK path (p.drop path.length)))) (T := 98) (fz := (0, 0)) (cs := rbR (lo (runeK path (p.drop path.length)))) Tryd.isAgg98 Tryd.sizeOf98 rfl (.head _) rfl rfl) rfl ?_
  refine G.m1 ?_
  refine G.callP (v := .agg (rbR (lo (runeK path (p.drop path.length)))).toArray) Tryd.call71 rfl rfl (fun w1 _ => c71_any w1 (lo (runeK path (p.drop path.length))) 0) ?_
  refine G.stA (cs := rbR (lo (runeK path (p.drop path.length)))) Tryd.sizeOf98 rfl rfl (rbR_one _) .z rfl ?_
  refine G.nil ?_
  refine GC.turn (H' := (⟨qb, true, .row (rbR (lo (runeK path (p.drop path.length)))) 98 (0, 0)⟩ :: ⟨bb, true, .row (bC bl) 5 (0, 0)⟩ :: Ht)) (fun w1 h1 => h1) ?_
  refine GC.seq ?_
  refine GC.reg ?_
  refine G.v (V.iaA (i := 0) Tryd.underlying98 Tryd.sizeOf5 rfl rfl (by decide)) rfl ?_
  refine G.v (V.ld (b := qb) (off := 0 + 0 * 1) (wf := true) (l := rbR (lo (runeK path (p.drop path.length)))) (T := 98) (fz := (0, 0)) (v := .int .u8 ((lo (runeK path (p.drop path.length))).toNat : Int)) Tryd.isAgg5 rfl (.head _) rfl) rfl ?_
  refine G.m2 ?_
  refine G.nil ?_
  exact gr hix hrk0 _ (.of rfl)
 refine GC.skip ?_
 exact gi (List.length_eq_zero_iff.1 (by omega)) _ (.of rfl)
theorem g59_keepWY {R : Ending → World → Prop} {w : World} {D : Nat → Prop} {qb bb cp : Nat} {Ht : SH} {c0 : List UInt8} {n : T0} {p cu bl : List UInt8} {rb : UInt8} {nb : Nat} {fr : SF}
  (hn : Rd Ht n nb) (hbl : bl.length = cp) (hbt : bl.take cu.length = cu) (_hpa : ∀ x ∈ p, x.toNat < 128) (_hpl : p.length ≤ 100000) (hLp : n.path.length ≤ p.length) (hnL : Lk n) (_hc0 : c0 <+: cu) (hHw : ∀ e ∈ Ht, e.w = true) (hsub : Sub [(0, Pt nb 0), (1, S (p.drop n.path.length)), (2, .slice (some ⟨bb, 0, none⟩) cu.length cp), (4, .bool false), (8, Pt qb 0), (11, I (n.path.length : Nat)), (12, S p)] fr) {i : Nat} {k : T0} (hj : idxOf (rbK n.path rb) n.idx = some i) (hkid : n.kids[i]? = some k) {res : Option (List UInt8)} (hrec : Rec59 bb cp Ht k (p.drop n.path.length) (rbK n.path rb) cu res)
  (gs : ∀ o, res = some o → Fin59 R w D bb cp Ht c0 (some o)) (gn : res = none → ∀ bl' fr', bl'.length = cp → bl'.take cu.length = cu → Sub [(0, Pt nb 0), (1, S (p.drop n.path.length)), (2, .slice (some ⟨bb, 0, none⟩) cu.length cp), (4, .bool false), (8, Pt qb 0), (11, I (n.path.length : Nat)), (12, S p)] fr' → GC Tryd.prog ⟨59, Tryd.f59, R, w, D⟩ 606 K59v fr' (⟨qb, true, .row (rbR (rbK n.path rb)) 98 (0, 0)⟩ :: ⟨bb, true, .row (bC bl') 5 (0, 0)⟩ :: Ht)) :
  GC Tryd.prog ⟨59, Tryd.f59, R, w, D⟩ 606 K59l fr (⟨qb, true, .row (rbR (rbK n.path rb)) 98 (0, 0)⟩ :: ⟨bb, true, .row (bC bl) 5 (0, 0)⟩ :: Ht) := by
 refine GC.weak hsub ?_
 clear hsub
 have hn0 := hn
 cases hn with
 | @mk path idx wild nt pr h full kids _ bs kv hv Hs hm hs hsm hbl2 hh hk =>
 try simp only [n_path] at *
 try simp only [n_idx] at *
 try simp only [n_kids] at *
 try simp only [n_wild] at *
 try simp only [n_h] at *
 have hil : idx.length ≤ 100000 := hnL.1
 have hkil : kids.length ≤ 100000 := hnL.2.1
 obtain ⟨ad, cap, rfl⟩ := hs.slice
 obtain ⟨ad2, l2, c2, rfl, hnn⟩ := hh.slice
 obtain ⟨hjc, hjn⟩ := idxOf_some hj
 have hjl : i < idx.length := (List.getElem?_eq_some_iff.1 hjc).1
 refine GC.seq ?_
 refine GC.reg ?_
 refine G.v (V.iaA (i := 0) Tryd.underlying98 Tryd.sizeOf5 rfl rfl (by decide)) rfl ?_
 refine G.v (V.ld (b := qb) (off := 0 + 0 * 1) (wf := true) (l := rbR (rbK path rb)) (T := 98) (fz := (0, 0)) (v := .int .u8 ((rbK path rb).toNat : Int)) Tryd.isAgg5 rfl (.head _) rfl) rfl ?_
 refine G.m2 ?_
 refine G.nil ?_
 refine GC.seq ?_
 refine GC.reg ?_
 refine G.m1 ?_
 refine G.v (V.nc rfl) rfl ?_
 refine G.v (V.fa F94_1 rfl) rfl ?_
 refine G.v (V.ld (b := nb) (off := 0 + 1) (wf := true) (l := nodeR path idx wild nt pr (.slice ad kids.length cap) (.slice ad2 l2 c2) full) (T := 94) (fz := (0, 0)) (v := S idx) Tryd.isAgg9 rfl (m2 hm) rfl) rfl ?_
 refine G.cvSB Tryd.underlying9 Tryd.underlying44 Tryd.underlying5 rfl rfl (fun tb cpp z fz hrb hcp => ?_)
 refine G.v (V.lenL Tryd.underlying44 rfl) rfl ?_
 refine G.m1 ?_
 refine G.nil ?_
 refine GC.block ?_
 refine GC.loopJ (fun N fr' H' => ∃ j, j + N = i ∧ Sub [(0, Pt nb 0), (1, S (p.drop path.length)), (2, .slice (some ⟨bb, 0, none⟩) cu.length cp), (4, .bool false), (8, Pt qb 0), (11, I (path.length : Nat)), (12, S p), (31, .int .u8 ((rbK path rb).toNat : Int)), (322, .slice (some ⟨tb, 0, none⟩) idx.length cpp), (323, I (idx.length : Nat)), (324, I (j : Nat))] fr' ∧ H' = ⟨tb, true, .row (bC (idx ++ z)) 5 fz⟩ :: (⟨qb, true, .row (rbR (rbK path rb)) 98 (0, 0)⟩ :: ⟨bb, true, .row (bC bl) 5 (0, 0)⟩ :: Ht)) i
  ⟨0, by omega, .of rfl, rfl⟩ ?_
 rintro N fr' H' ⟨j, hj0, hs2, rfl⟩ ih
 refine GC.weak hs2 ?_
 clear hs2
 refine GC.seq ?_
 refine GC.reg ?_
 refine G.v (V.lt rfl rfl) rfl ?_
 refine G.nil ?_
 refine GC.seq ?_
 refine GC.condD rfl (fun h325 => ?_) (fun h325 => absurd (by omega) h325)
 refine GC.skip ?_
 refine GC.seq ?_
 refine GC.block ?_
 refine GC.seq ?_
 have hql : j < idx.length := by omega
 obtain ⟨y, hy⟩ : ∃ y, idx[j]? = some y := ⟨_, List.getElem?_eq_getElem hql⟩
 refine GC.reg ?_
 refine G.m1 ?_
 refine G.v (V.ia (i := j) Tryd.underlying44 Tryd.sizeOf5 rfl rfl hql) rfl ?_
 refine G.v (V.ld (b := tb) (off := 0 + j * 1) (wf := true) (l := bC (idx ++ z)) (T := 5) (fz := fz) (v := .int .u8 (y.toNat : Int)) Tryd.isAgg5 rfl (.head _) (by rw [nth_eq, Nat.zero_add, Nat.mul_one, bC_app, List.getElem?_append_left (by rw [bC_len]; exact hql)]; simp [bC, Lib.byteCells, hy])) rfl ?_
 refine G.m2 ?_
 refine G.m2 ?_
 refine G.nil ?_
 refine GC.seq ?_
 refine GC.reg ?_
 refine G.m1 ?_
 refine G.m1 ?_
 refine G.v (V.eqI rfl rfl) rfl ?_
 refine G.nil ?_
 refine GC.condD rfl (fun h331 => ?_) (fun h331 => ?_)
 ·refine GC.seq ?_
  refine GC.seq ?_
  have hjj : j = i := by
   have hyx := UInt8.toNat_inj.1 (by have := h331; omega : y.toNat = ((rbK path rb)).toNat)
   rcases Nat.lt_or_ge j i with h | h
   ·exact absurd (by rw [hy, hyx]) (hjn j h)
   ·omega
  subst hjj
  have hkl := (List.getElem?_eq_some_iff.1 hkid).1
  obtain ⟨kb, hkb⟩ : ∃ kb, bs[j]? = some kb := ⟨_, List.getElem?_eq_getElem (by omega)⟩
  have hrk := hk j k kb hkid hkb
  obtain ⟨rw0, cap2, spare, e1, rfl⟩ := hs.at hkl
  cases e1
  have hrbm := hsm _ (.head _)
  refine GC.regT 11 mixed (by kernel_rfl) rfl rfl ?_
  refine GS.v (V.mv rfl) rfl ?_
  refine GS.v (V.nc rfl) rfl ?_
  refine GS.v (V.fa F94_5 rfl) rfl ?_
  refine GS.v (V.ld (b := nb) (off := 0 + 5) (wf := true) (l := nodeR path idx wild nt pr (.slice (some ⟨rw0, 0, none⟩) kids.length cap) (.slice ad2 l2 c2) full) (T := 94) (fz := (0, 0)) (v := (.slice (some ⟨rw0, 0, none⟩) kids.length cap)) Tryd.isAgg90 rfl (m3 hm) rfl) rfl ?_
  refine GS.v (V.mv rfl) rfl ?_
  refine GS.v (V.ia (i := j) Tryd.underlying90 Tryd.sizeOf83 rfl rfl hkl) rfl ?_
  refine GS.v (V.ld (b := rw0) (off := 0 + j * 1) (wf := true) (l := bs.map (Pt · 0) ++ spare) (T := 83) (fz := (0, 0)) (v := Pt kb 0) Tryd.isAgg83 rfl (m3 hrbm) (by rw [nth_eq, Nat.zero_add, Nat.mul_one, List.getElem?_append_left (by rw [List.length_map]; omega), List.getElem?_map, hkb]; rfl)) rfl ?_
  refine GS.v (V.mv rfl) rfl ?_
  refine GS.v (V.mv rfl) rfl ?_
  refine GS.v (V.ldA (b := qb) (off := 0) (s := 4) (wf := true) (l := rbR (rbK path rb)) (T := 98) (fz := (0, 0)) (cs := rbR (rbK path rb)) Tryd.isAgg98 Tryd.sizeOf98 rfl (.tail _ (.head _)) rfl rfl) rfl ?_
  refine GS.v (V.mv rfl) rfl ?_
  refine GS.nil ?_
  refine G.callL (H1 := ⟨bb, true, .row (bC bl) 5 (0, 0)⟩ :: Ht) (Hk := [⟨tb, true, .row (bC (idx ++ z)) 5 fz⟩, ⟨qb, true, .row (rbR (rbK path rb)) 98 (0, 0)⟩]) (fun v H1' => ∃ bl', v = outV bb cp res ∧ bl'.length = cp ∧ tkO cu res bl' ∧ H1' = ⟨bb, true, .row (bC bl') 5 (0, 0)⟩ :: Ht) ?_ (fun e0 he0 => ?_) Tryd.call59 rfl rfl (fun w1 hw1 _ => ?_) ?_
  ·have p1 := perm_idx [[⟨tb, true, .row (bC (idx ++ z)) 5 fz⟩], [⟨qb, true, .row (rbR (rbK path rb)) 98 (0, 0)⟩], [⟨bb, true, .row (bC bl) 5 (0, 0)⟩], Ht] [0, 1, 2, 3] [2, 3, 0, 1] (by decide)
   simpa using p1
  ·rcases List.mem_cons.1 he0 with rfl | he0
   ·rfl
   ·exact hHw e0 he0
  ·refine (hrec w1 _ kb bl hrk hbl hbt hw1).mono fun e w' ⟨bl', h1, h2, h3, h4⟩ => ⟨_, _, h1, fun e0 he0 => ?_, h4, bl', rfl, h2, h3, rfl⟩
   rcases List.mem_cons.1 he0 with rfl | he0
   ·rfl
   ·exact hHw e0 he0
  rintro v H1' ⟨bl', rfl, hbl', htk', rfl⟩
  refine G.m2 ?_
  refine G.nil ?_
  refine GC.turn (H' := (⟨qb, true, .row (rbR (rbK path rb)) 98 (0, 0)⟩ :: ⟨bb, true, .row (bC bl') 5 (0, 0)⟩ :: Ht)) (fun w1 h1 => ?_) ?_
  ·have h2 : HF w D (⟨bb, true, .row (bC bl') 5 (0, 0)⟩ :: (Ht ++ [⟨tb, true, .row (bC (idx ++ z)) 5 fz⟩, ⟨qb, true, .row (rbR (rbK path rb)) 98 (0, 0)⟩])) w1 := h1
   have p1 := perm_idx [[⟨bb, true, .row (bC bl') 5 (0, 0)⟩], Ht, [⟨tb, true, .row (bC (idx ++ z)) 5 fz⟩], [⟨qb, true, .row (rbR (rbK path rb)) 98 (0, 0)⟩]] [0, 1, 2, 3] [2, 3, 0, 1] (by decide)
   have h3 := h2.perm (H' := ⟨tb, true, .row (bC (idx ++ z)) 5 fz⟩ :: (⟨qb, true, .row (rbR (rbK path rb)) 98 (0, 0)⟩ :: ⟨bb, true, .row (bC bl') 5 (0, 0)⟩ :: Ht)) (by simpa using p1)
   exact h3.sub (List.sublist_cons_self _ _)
  refine GC.seq ?_
  refine GC.reg ?_
  refine G.m1 ?_
  refine G.v (v := .bool res.isSome) (neL_out Tryd.underlying44 rfl) rfl ?_
  refine G.nil ?_
  refine GC.cond rfl (fun h345 => ?_) (fun h345 => ?_)
  ·refine GC.seq ?_
   refine GC.reg ?_
   refine G.m1 ?_
   refine G.m2 ?_
   refine G.nil ?_
   cases res with
   | none => exact absurd h345 (by decide)
   | some o => exact GC.ret1 rfl rfl fun w' hw' => gs o rfl bl' w' hbl' htk' (hw'.sub (List.sublist_cons_self _ _))
  refine GC.skip ?_
  refine GC.exit rfl ?_
  have hrn : res = none := by cases res with
   | none => rfl
   | some o => exact absurd h345 (by simp)
  subst hrn
  exact gn rfl _ _ hbl' htk' (.of rfl)
 refine GC.skip ?_
 refine GC.inBlock ?_
 refine GC.reg ?_
 refine G.v (V.addI (r := ((j + 1 : Nat) : Int)) rfl rfl rfl (by omega) (by omega)) rfl ?_
 refine G.m1 ?_
 refine G.nil ?_
 have hyx : y ≠ (rbK path rb) := fun e => h331 (by rw [e])
 have hjj : j ≠ i := fun e => hyx (by rw [e, hjc] at hy; exact (Option.some.inj hy).symm)
 exact ih (N - 1) _ _ (by omega) ⟨j + 1, by omega, .of rfl, rfl⟩
theorem g59_keepWN {R : Ending → World → Prop} {w : World} {D : Nat → Prop} {qb bb cp : Nat} {Ht : SH} {c0 : List UInt8} {n : T0} {p cu bl : List UInt8} {rb : UInt8} {nb : Nat} {fr : SF}
  (hn : Rd Ht n nb) (hbl : bl.length = cp) (hbt : bl.take cu.length = cu) (_hpa : ∀ x ∈ p, x.toNat < 128) (_hpl : p.length ≤ 100000) (hLp : n.path.length ≤ p.length) (hnL : Lk n) (_hc0 : c0 <+: cu) (_hHw : ∀ e ∈ Ht, e.w = true) (hsub : Sub [(0, Pt nb 0), (1, S (p.drop n.path.length)), (2, .slice (some ⟨bb, 0, none⟩) cu.length cp), (4, .bool false), (8, Pt qb 0), (11, I (n.path.length : Nat)), (12, S p)] fr) (hj : idxOf (rbK n.path rb) n.idx = none)
  (gn : ∀ bl' fr', bl'.length = cp → bl'.take cu.length = cu → Sub [(0, Pt nb 0), (1, S (p.drop n.path.length)), (2, .slice (some ⟨bb, 0, none⟩) cu.length cp), (4, .bool false), (8, Pt qb 0), (11, I (n.path.length : Nat)), (12, S p)] fr' → GC Tryd.prog ⟨59, Tryd.f59, R, w, D⟩ 606 K59v fr' (⟨qb, true, .row (rbR (rbK n.path rb)) 98 (0, 0)⟩ :: ⟨bb, true, .row (bC bl') 5 (0, 0)⟩ :: Ht)) :
  GC Tryd.prog ⟨59, Tryd.f59, R, w, D⟩ 606 K59l fr (⟨qb, true, .row (rbR (rbK n.path rb)) 98 (0, 0)⟩ :: ⟨bb, true, .row (bC bl) 5 (0, 0)⟩ :: Ht) := by
 refine GC.weak hsub ?_
 clear hsub
 have hn0 := hn
 cases hn with
 | @mk path idx wild nt pr h full kids _ bs kv hv Hs hm hs hsm hbl2 hh hk =>
 try simp only [n_path] at *
 try simp only [n_idx] at *
 try simp only [n_kids] at *
 try simp only [n_wild] at *
 try simp only [n_h] at *
 have hil : idx.length ≤ 100000 := hnL.1
 have hkil : kids.length ≤ 100000 := hnL.2.1
 obtain ⟨ad, cap, rfl⟩ := hs.slice
 obtain ⟨ad2, l2, c2, rfl, hnn⟩ := hh.slice
 have hjn := idxOf_none hj
 refine GC.seq ?_
 refine GC.reg ?_
 refine G.v (V.iaA (i := 0) Tryd.underlying98 Tryd.sizeOf5 rfl rfl (by decide)) rfl ?_
 refine G.v (V.ld (b := qb) (off := 0 + 0 * 1) (wf := true) (l := rbR (rbK path rb)) (T := 98) (fz := (0, 0)) (v := .int .u8 ((rbK path rb).toNat : Int)) Tryd.isAgg5 rfl (.head _) rfl) rfl ?_
 refine G.m2 ?_
 refine G.nil ?_
 refine GC.seq ?_
 refine GC.reg ?_
 refine G.m1 ?_
 refine G.v (V.nc rfl) rfl ?_
 refine G.v (V.fa F94_1 rfl) rfl ?_
 refine G.v (V.ld (b := nb) (off := 0 + 1) (wf := true) (l := nodeR path idx wild nt pr (.slice ad kids.length cap) (.slice ad2 l2 c2) full) (T := 94) (fz := (0, 0)) (v := S idx) Tryd.isAgg9 rfl (m2 hm) rfl) rfl ?_
 refine G.cvSB Tryd.underlying9 Tryd.underlying44 Tryd.underlying5 rfl rfl (fun tb cpp z fz hrb hcp => ?_)
 refine G.v (V.lenL Tryd.underlying44 rfl) rfl ?_
 refine G.m1 ?_
 refine G.nil ?_
 refine GC.block ?_
 refine GC.loopJ (fun N fr' H' => ∃ j, j + N = idx.length ∧ Sub [(0, Pt nb 0), (1, S (p.drop path.length)), (2, .slice (some ⟨bb, 0, none⟩) cu.length cp), (4, .bool false), (8, Pt qb 0), (11, I (path.length : Nat)), (12, S p), (31, .int .u8 ((rbK path rb).toNat : Int)), (322, .slice (some ⟨tb, 0, none⟩) idx.length cpp), (323, I (idx.length : Nat)), (324, I (j : Nat))] fr' ∧ H' = ⟨tb, true, .row (bC (idx ++ z)) 5 fz⟩ :: (⟨qb, true, .row (rbR (rbK path rb)) 98 (0, 0)⟩ :: ⟨bb, true, .row (bC bl) 5 (0, 0)⟩ :: Ht)) idx.length
  ⟨0, by omega, .of rfl, rfl⟩ ?_
 rintro N fr' H' ⟨j, hj0, hs2, rfl⟩ ih
 refine GC.weak hs2 ?_
 clear hs2
 refine GC.seq ?_
 refine GC.reg ?_
 refine G.v (V.lt rfl rfl) rfl ?_
 refine G.nil ?_
 refine GC.seq ?_
 refine GC.condD rfl (fun h325 => ?_) (fun h325 => ?_)
 ·refine GC.skip ?_
  refine GC.seq ?_
  refine GC.block ?_
  refine GC.seq ?_
  have hql : j < idx.length := by omega
  obtain ⟨y, hy⟩ : ∃ y, idx[j]? = some y := ⟨_, List.getElem?_eq_getElem hql⟩
  refine GC.reg ?_
  refine G.m1 ?_
  refine G.v (V.ia (i := j) Tryd.underlying44 Tryd.sizeOf5 rfl rfl hql) rfl ?_
  refine G.v (V.ld (b := tb) (off := 0 + j * 1) (wf := true) (l := bC (idx ++ z)) (T := 5) (fz := fz) (v := .int .u8 (y.toNat : Int)) Tryd.isAgg5 rfl (.head _) (by rw [nth_eq, Nat.zero_add, Nat.mul_one, bC_app, List.getElem?_append_left (by rw [bC_len]; exact hql)]; simp [bC, Lib.byteCells, hy])) rfl ?_
  refine G.m2 ?_
  refine G.m2 ?_
  refine G.nil ?_
  refine GC.seq ?_
  refine GC.reg ?_
  refine G.m1 ?_
  refine G.m1 ?_
  refine G.v (V.eqI rfl rfl) rfl ?_
  refine G.nil ?_
  refine GC.condD rfl (fun h331 => absurd (by rw [hy, UInt8.toNat_inj.1 (by have := h331; omega : y.toNat = ((rbK path rb)).toNat)]) (hjn j)) (fun h331 => ?_)
  refine GC.skip ?_
  refine GC.inBlock ?_
  refine GC.reg ?_
  refine G.v (V.addI (r := ((j + 1 : Nat) : Int)) rfl rfl rfl (by omega) (by omega)) rfl ?_
  refine G.m1 ?_
  refine G.nil ?_
  exact ih (N - 1) _ _ (by omega) ⟨j + 1, by omega, .of rfl, rfl⟩
 refine GC.exit rfl ?_
 refine GC.turn (H' := (⟨qb, true, .row (rbR (rbK path rb)) 98 (0, 0)⟩ :: ⟨bb, true, .row (bC bl) 5 (0, 0)⟩ :: Ht)) (fun w1 h1 => h1.sub (List.sublist_cons_self _ _)) ?_
 exact gn _ _ hbl hbt (.of rfl)
theorem g59_loWY {R : Ending → World → Prop} {w : World} {D : Nat → Prop} {qb bb cp : Nat} {Ht : SH} {c0 : List UInt8} {n : T0} {p cu bl : List UInt8} {nb : Nat} {fr : SF}
  (hn : Rd Ht n nb) (hbl : bl.length = cp) (hbt : bl.take cu.length = cu) (_hpa : ∀ x ∈ p, x.toNat < 128) (_hpl : p.length ≤ 100000) (hLp : n.path.length ≤ p.length) (hnL : Lk n) (_hc0 : c0 <+: cu) (hHw : ∀ e ∈ Ht, e.w = true) (hsub : Sub [(0, Pt nb 0), (1, S (p.drop n.path.length)), (2, .slice (some ⟨bb, 0, none⟩) cu.length cp), (4, .bool false), (8, Pt qb 0), (11, I (n.path.length : Nat)), (12, S p), (35, .int .i32 ((runeK n.path (p.drop n.path.length)).toNat : Int)), (36, I (0 : Nat)), (39, .int .i32 ((lo (runeK n.path (p.drop n.path.length))).toNat : Int)), (40, .int .u8 ((lo (runeK n.path (p.drop n.path.length))).toNat : Int))] fr) {i : Nat} {k : T0} (hj : idxOf (lo (runeK n.path (p.drop n.path.length))) n.idx = some i) (hkid : n.kids[i]? = some k) {res : Option (List UInt8)} (hrec : Rec59 bb cp Ht k (p.drop n.path.length) (lo (runeK n.path (p.drop n.path.length))) cu res)
  (gs : ∀ o, res = some o → Fin59 R w D bb cp Ht c0 (some o)) (gn : res = none → ∀ bl' fr', bl'.length = cp → bl'.take cu.length = cu → Sub [(0, Pt nb 0), (1, S (p.drop n.path.length)), (2, .slice (some ⟨bb, 0, none⟩) cu.length cp), (4, .bool false), (8, Pt qb 0), (11, I (n.path.length : Nat)), (12, S p), (35, .int .i32 ((runeK n.path (p.drop n.path.length)).toNat : Int)), (36, I (0 : Nat)), (39, .int .i32 ((lo (runeK n.path (p.drop n.path.length))).toNat : Int))] fr' → GC Tryd.prog ⟨59, Tryd.f59, R, w, D⟩ 606 K59f fr' (⟨qb, true, .row (rbR (lo (runeK n.path (p.drop n.path.length)))) 98 (0, 0)⟩ :: ⟨bb, true, .row (bC bl') 5 (0, 0)⟩ :: Ht)) :
  GC Tryd.prog ⟨59, Tryd.f59, R, w, D⟩ 606 K59e fr (⟨qb, true, .row (rbR (lo (runeK n.path (p.drop n.path.length)))) 98 (0, 0)⟩ :: ⟨bb, true, .row (bC bl) 5 (0, 0)⟩ :: Ht) := by
 refine GC.weak hsub ?_
 clear hsub
 have hn0 := hn
 cases hn with
 | @mk path idx wild nt pr h full kids _ bs kv hv Hs hm hs hsm hbl2 hh hk =>
 try simp only [n_path] at *
 try simp only [n_idx] at *
 try simp only [n_kids] at *
 try simp only [n_wild] at *
 try simp only [n_h] at *
 have hil : idx.length ≤ 100000 := hnL.1
 have hkil : kids.length ≤ 100000 := hnL.2.1
 obtain ⟨ad, cap, rfl⟩ := hs.slice
 obtain ⟨ad2, l2, c2, rfl, hnn⟩ := hh.slice
 obtain ⟨hjc, hjn⟩ := idxOf_some hj
 have hjl : i < idx.length := (List.getElem?_eq_some_iff.1 hjc).1
 refine GC.seq ?_
 refine GC.seq ?_
 refine GC.reg ?_
 refine G.m1 ?_
 refine G.v (V.nc rfl) rfl ?_
 refine G.v (V.fa F94_1 rfl) rfl ?_
 refine G.v (V.ld (b := nb) (off := 0 + 1) (wf := true) (l := nodeR path idx wild nt pr (.slice ad kids.length cap) (.slice ad2 l2 c2) full) (T := 94) (fz := (0, 0)) (v := S idx) Tryd.isAgg9 rfl (m2 hm) rfl) rfl ?_
 refine G.cvSB Tryd.underlying9 Tryd.underlying44 Tryd.underlying5 rfl rfl (fun tb cpp z fz hrb hcp => ?_)
 refine G.v (V.lenL Tryd.underlying44 rfl) rfl ?_
 refine G.m1 ?_
 refine G.nil ?_
 refine GC.block ?_
 refine GC.loopJ (fun N fr' H' => ∃ j, j + N = i ∧ Sub [(0, Pt nb 0), (1, S (p.drop path.length)), (2, .slice (some ⟨bb, 0, none⟩) cu.length cp), (4, .bool false), (8, Pt qb 0), (11, I (path.length : Nat)), (12, S p), (35, .int .i32 ((runeK path (p.drop path.length)).toNat : Int)), (36, I (0 : Nat)), (39, .int .i32 ((lo (runeK path (p.drop path.length))).toNat : Int)), (40, .int .u8 ((lo (runeK path (p.drop path.length))).toNat : Int)), (383, .slice (some ⟨tb, 0, none⟩) idx.length cpp), (384, I (idx.length : Nat)), (385, I (j : Nat))] fr' ∧ H' = ⟨tb, true, .row (bC (idx ++ z)) 5 fz⟩ :: (⟨qb, true, .row (rbR (lo (runeK path (p.drop path.length)))) 98 (0, 0)⟩ :: ⟨bb, true, .row (bC bl) 5 (0, 0)⟩ :: Ht)) i
  ⟨0, by omega, .of rfl, rfl⟩ ?_
 rintro N fr' H' ⟨j, hj0, hs2, rfl⟩ ih
 refine GC.weak hs2 ?_
 clear hs2
 refine GC.seq ?_
 refine GC.reg ?_
 refine G.v (V.lt rfl rfl) rfl ?_
 refine G.nil ?_
 refine GC.seq ?_
 refine GC.condD rfl (fun h386 => ?_) (fun h386 => absurd (by omega) h386)
 refine GC.skip ?_
 refine GC.seq ?_
 refine GC.block ?_
 refine GC.seq ?_
 have hql : j < idx.length := by omega
 obtain ⟨y, hy⟩ : ∃ y, idx[j]? = some y := ⟨_, List.getElem?_eq_getElem hql⟩
 refine GC.reg ?_
 refine G.m1 ?_
 refine G.v (V.ia (i := j) Tryd.underlying44 Tryd.sizeOf5 rfl rfl hql) rfl ?_
 refine G.v (V.ld (b := tb) (off := 0 + j * 1) (wf := true) (l := bC (idx ++ z)) (T := 5) (fz := fz) (v := .int .u8 (y.toNat : Int)) Tryd.isAgg5 rfl (.head _) (by rw [nth_eq, Nat.zero_add, Nat.mul_one, bC_app, List.getElem?_append_left (by rw [bC_len]; exact hql)]; simp [bC, Lib.byteCells, hy])) rfl ?_
 refine G.m2 ?_
 refine G.m2 ?_
 refine G.nil ?_
 refine GC.seq ?_
 refine GC.reg ?_
 refine G.m1 ?_
 refine G.m1 ?_
 refine G.v (V.eqI rfl rfl) rfl ?_
 refine G.nil ?_
 refine GC.condD rfl (fun h392 => ?_) (fun h392 => ?_)
 ·refine GC.seq ?_
  refine GC.seq ?_
  have hjj : j = i := by
   have hyx := UInt8.toNat_inj.1 (by have := h392; omega : y.toNat = ((lo (runeK path (p.drop path.length)))).toNat)
   rcases Nat.lt_or_ge j i with h | h
   ·exact absurd (by rw [hy, hyx]) (hjn j h)
   ·omega
  subst hjj
  have hkl := (List.getElem?_eq_some_iff.1 hkid).1
  obtain ⟨kb, hkb⟩ : ∃ kb, bs[j]? = some kb := ⟨_, List.getElem?_eq_getElem (by omega)⟩
  have hrk := hk j k kb hkid hkb
  obtain ⟨rw0, cap2, spare, e1, rfl⟩ := hs.at hkl
  cases e1
  have hrbm := hsm _ (.head _)
  refine GC.regT 11 mixed (by kernel_rfl) rfl rfl ?_
  refine GS.v (V.mv rfl) rfl ?_
  refine GS.v (V.nc rfl) rfl ?_
  refine GS.v (V.fa F94_5 rfl) rfl ?_
  refine GS.v (V.ld (b := nb) (off := 0 + 5) (wf := true) (l := nodeR path idx wild nt pr (.slice (some ⟨rw0, 0, none⟩) kids.length cap) (.slice ad2 l2 c2) full) (T := 94) (fz := (0, 0)) (v := (.slice (some ⟨rw0, 0, none⟩) kids.length cap)) Tryd.isAgg90 rfl (m3 hm) rfl) rfl ?_
  refine GS.v (V.mv rfl) rfl ?_
  refine GS.v (V.ia (i := j) Tryd.underlying90 Tryd.sizeOf83 rfl rfl hkl) rfl ?_
  refine GS.v (V.ld (b := rw0) (off := 0 + j * 1) (wf := true) (l := bs.map (Pt · 0) ++ spare) (T := 83) (fz := (0, 0)) (v := Pt kb 0) Tryd.isAgg83 rfl (m3 hrbm) (by rw [nth_eq, Nat.zero_add, Nat.mul_one, List.getElem?_append_left (by rw [List.length_map]; omega), List.getElem?_map, hkb]; rfl)) rfl ?_
  refine GS.v (V.mv rfl) rfl ?_
  refine GS.v (V.mv rfl) rfl ?_
  refine GS.v (V.ldA (b := qb) (off := 0) (s := 4) (wf := true) (l := rbR (lo (runeK path (p.drop path.length)))) (T := 98) (fz := (0, 0)) (cs := rbR (lo (runeK path (p.drop path.length)))) Tryd.isAgg98 Tryd.sizeOf98 rfl (.tail _ (.head _)) rfl rfl) rfl ?_
  refine GS.v (V.mv rfl) rfl ?_
  refine GS.nil ?_
  refine G.callL (H1 := ⟨bb, true, .row (bC bl) 5 (0, 0)⟩ :: Ht) (Hk := [⟨tb, true, .row (bC (idx ++ z)) 5 fz⟩, ⟨qb, true, .row (rbR (lo (runeK path (p.drop path.length)))) 98 (0, 0)⟩]) (fun v H1' => ∃ bl', v = outV bb cp res ∧ bl'.length = cp ∧ tkO cu res bl' ∧ H1' = ⟨bb, true, .row (bC bl') 5 (0, 0)⟩ :: Ht) ?_ (fun e0 he0 => ?_) Tryd.call59 rfl rfl (fun w1 hw1 _ => ?_) ?_
  ·have p1 := perm_idx [[⟨tb, true, .row (bC (idx ++ z)) 5 fz⟩], [⟨qb, true, .row (rbR (lo (runeK path (p.drop path.length)))) 98 (0, 0)⟩], [⟨bb, true, .row (bC bl) 5 (0, 0)⟩], Ht] [0, 1, 2, 3] [2, 3, 0, 1] (by decide)
   simpa using p1
  ·rcases List.mem_cons.1 he0 with rfl | he0
   ·rfl
   ·exact hHw e0 he0
  ·refine (hrec w1 _ kb bl hrk hbl hbt hw1).mono fun e w' ⟨bl', h1, h2, h3, h4⟩ => ⟨_, _, h1, fun e0 he0 => ?_, h4, bl', rfl, h2, h3, rfl⟩
   rcases List.mem_cons.1 he0 with rfl | he0
   ·rfl
   ·exact hHw e0 he0
  rintro v H1' ⟨bl', rfl, hbl', htk', rfl⟩
  refine G.m2 ?_
  refine G.nil ?_
  refine GC.turn (H' := (⟨qb, true, .row (rbR (lo (runeK path (p.drop path.length)))) 98 (0, 0)⟩ :: ⟨bb, true, .row (bC bl') 5 (0, 0)⟩ :: Ht)) (fun w1 h1 => ?_) ?_
  ·have h2 : HF w D (⟨bb, true, .row (bC bl') 5 (0, 0)⟩ :: (Ht ++ [⟨tb, true, .row (bC (idx ++ z)) 5 fz⟩, ⟨qb, true, .row (rbR (lo (runeK path (p.drop path.length)))) 98 (0, 0)⟩])) w1 := h1
   have p1 := perm_idx [[⟨bb, true, .row (bC bl') 5 (0, 0)⟩], Ht, [⟨tb, true, .row (bC (idx ++ z)) 5 fz⟩], [⟨qb, true, .row (rbR (lo (runeK path (p.drop path.length)))) 98 (0, 0)⟩]] [0, 1, 2, 3] [2, 3, 0, 1] (by decide)
   have h3 := h2.perm (H' := ⟨tb, true, .row (bC (idx ++ z)) 5 fz⟩ :: (⟨qb, true, .row (rbR (lo (runeK path (p.drop path.length)))) 98 (0, 0)⟩ :: ⟨bb, true, .row (bC bl') 5 (0, 0)⟩ :: Ht)) (by simpa using p1)
   exact h3.sub (List.sublist_cons_self _ _)
  refine GC.seq ?_
  refine GC.reg ?_
  refine G.m1 ?_
  refine G.v (v := .bool res.isSome) (neL_out Tryd.underlying44 rfl) rfl ?_
  refine G.nil ?_
  refine GC.cond rfl (fun h406 => ?_) (fun h406 => ?_)
  ·refine GC.seq ?_
   refine GC.reg ?_
   refine G.m1 ?_
   refine G.m2 ?_
   refine G.nil ?_
   cases res with
   | none => exact absurd h406 (by decide)
   | some o => exact GC.ret1 rfl rfl fun w' hw' => gs o rfl bl' w' hbl' htk' (hw'.sub (List.sublist_cons_self _ _))
  refine GC.skip ?_
  refine GC.exit rfl ?_
  have hrn : res = none := by cases res with
   | none => rfl
   | some o => exact absurd h406 (by simp)
  subst hrn
  exact gn rfl _ _ hbl' htk' (.of rfl)
 refine GC.skip ?_
 refine GC.inBlock ?_
 refine GC.reg ?_
 refine G.v (V.addI (r := ((j + 1 : Nat) : Int)) rfl rfl rfl (by omega) (by omega)) rfl ?_
 refine G.m1 ?_
 refine G.nil ?_
 have hyx : y ≠ (lo (runeK path (p.drop path.length))) := fun e => h392 (by rw [e])
 have hjj : j ≠ i := fun e => hyx (by rw [e, hjc] at hy; exact (Option.some.inj hy).symm)
 exact ih (N - 1) _ _ (by omega) ⟨j + 1, by omega, .of rfl, rfl⟩
theorem g59_loWN {R : Ending → World → Prop} {w : World} {D : Nat → Prop} {qb bb cp : Nat} {Ht : SH} {c0 : List UInt8} {n : T0} {p cu bl : List UInt8} {nb : Nat} {fr : SF}
  (hn : Rd Ht n nb) (hbl : bl.length = cp) (hbt : bl.take cu.length = cu) (_hpa : ∀ x ∈ p, x.toNat < 128) (_hpl : p.length ≤ 100000) (hLp : n.path.length ≤ p.length) (hnL : Lk n) (_hc0 : c0 <+: cu) (_hHw : ∀ e ∈ Ht, e.w = true) (hsub : Sub [(0, Pt nb 0), (1, S (p.drop n.path.length)), (2, .slice (some ⟨bb, 0, none⟩) cu.length cp), (4, .bool false), (8, Pt qb 0), (11, I (n.path.length : Nat)), (12, S p), (35, .int .i32 ((runeK n.path (p.drop n.path.length)).toNat : Int)), (36, I (0 : Nat)), (39, .int .i32 ((lo (runeK n.path (p.drop n.path.length))).toNat : Int)), (40, .int .u8 ((lo (runeK n.path (p.drop n.path.length))).toNat : Int))] fr) (hj : idxOf (lo (runeK n.path (p.drop n.path.length))) n.idx = none)
  (gn : ∀ bl' fr', bl'.length = cp → bl'.take cu.length = cu → Sub [(0, Pt nb 0), (1, S (p.drop n.path.length)), (2, .slice (some ⟨bb, 0, none⟩) cu.length cp), (4, .bool false), (8, Pt qb 0), (11, I (n.path.length : Nat)), (12, S p), (35, .int .i32 ((runeK n.path (p.drop n.path.length)).toNat : Int)), (36, I (0 : Nat)), (39, .int .i32 ((lo (runeK n.path (p.drop n.path.length))).toNat : Int))] fr' → GC Tryd.prog ⟨59, Tryd.f59, R, w, D⟩ 606 K59f fr' (⟨qb, true, .row (rbR (lo (runeK n.path (p.drop n.path.length)))) 98 (0, 0)⟩ :: ⟨bb, true, .row (bC bl') 5 (0, 0)⟩ :: Ht)) :
  GC Tryd.prog ⟨59, Tryd.f59, R, w, D⟩ 606 K59e fr (⟨qb, true, .row (rbR (lo (runeK n.path (p.drop n.path.length)))) 98 (0, 0)⟩ :: ⟨bb, true, .row (bC bl) 5 (0, 0)⟩ :: Ht) := by
 refine GC.weak hsub ?_
 clear hsub
 have hn0 := hn
 cases hn with
 | @mk path idx wild nt pr h full kids _ bs kv hv Hs hm hs hsm hbl2 hh hk =>
 try simp only [n_path] at *
 try simp only [n_idx] at *
 try simp only [n_kids] at *
 try simp only [n_wild] at *
 try simp only [n_h] at *
 have hil : idx.length ≤ 100000 := hnL.1
 have hkil : kids.length ≤ 100000 := hnL.2.1
 obtain ⟨ad, cap, rfl⟩ := hs.slice
 obtain ⟨ad2, l2, c2, rfl, hnn⟩ := hh.slice
 have hjn := idxOf_none hj
 refine GC.seq ?_
 refine GC.seq ?_
 refine GC.reg ?_
 refine G.m1 ?_
 refine G.v (V.nc rfl) rfl ?_
 refine G.v (V.fa F94_1 rfl) rfl ?_
 refine G.v (V.ld (b := nb) (off := 0 + 1) (wf := true) (l := nodeR path idx wild nt pr (.slice ad kids.length cap) (.slice ad2 l2 c2) full) (T := 94) (fz := (0, 0)) (v := S idx) Tryd.isAgg9 rfl (m2 hm) rfl) rfl ?_
 refine G.cvSB Tryd.underlying9 Tryd.underlying44 Tryd.underlying5 rfl rfl (fun tb cpp z fz hrb hcp => ?_)
 refine G.v (V.lenL Tryd.underlying44 rfl) rfl ?_
 refine G.m1 ?_
 refine G.nil ?_
 refine GC.block ?_
 refine GC.loopJ (fun N fr' H' => ∃ j, j + N = idx.length ∧ Sub [(0, Pt nb 0), (1, S (p.drop path.length)), (2, .slice (some ⟨bb, 0, none⟩) cu.length cp), (4, .bool false), (8, Pt qb 0), (11, I (path.length : Nat)), (12, S p), (35, .int .i32 ((runeK path (p.drop path.length)).toNat : Int)), (36, I (0 : Nat)), (39, .int .i32 ((lo (runeK path (p.drop path.length))).toNat : Int)), (40, .int .u8 ((lo (runeK path (p.drop path.length))).toNat : Int)), (383, .slice (some ⟨tb, 0, none⟩) idx.length cpp), (384, I (idx.length : Nat)), (385, I (j : Nat))] fr' ∧ H' = ⟨tb, true, .row (bC (idx ++ z)) 5 fz⟩ :: (⟨qb, true, .row (rbR (lo (runeK path (p.drop path.length)))) 98 (0, 0)⟩ :: ⟨bb, true, .row (bC bl) 5 (0, 0)⟩ :: Ht)) idx.length
  ⟨0, by omega, .of rfl, rfl⟩ ?_
 rintro N fr' H' ⟨j, hj0, hs2, rfl⟩ ih
 refine GC.weak hs2 ?_
 clear hs2
 refine GC.seq ?_
 refine GC.reg ?_
 refine G.v (V.lt rfl rfl) rfl ?_
 refine G.nil ?_
 refine GC.seq ?_
 refine GC.condD rfl (fun h386 => ?_) (fun h386 => ?_)
 ·refine GC.skip ?_
  refine GC.seq ?_
  refine GC.block ?_
  refine GC.seq ?_
  have hql : j < idx.length := by omega
  obtain ⟨y, hy⟩ : ∃ y, idx[j]? = some y := ⟨_, List.getElem?_eq_getElem hql⟩
  refine GC.reg ?_
  refine G.m1 ?_
  refine G.v (V.ia (i := j) Tryd.underlying44 Tryd.sizeOf5 rfl rfl hql) rfl ?_
  refine G.v (V.ld (b := tb) (off := 0 + j * 1) (wf := true) (l := bC (idx ++ z)) (T := 5) (fz := fz) (v := .int .u8 (y.toNat : Int)) Tryd.isAgg5 rfl (.head _) (by rw [nth_eq, Nat.zero_add, Nat.mul_one, bC_app, List.getElem?_append_left (by rw [bC_len]; exact hql)]; simp [bC, Lib.byteCells, hy])) rfl ?_
  refine G.m2 ?_
  refine G.m2 ?_
  refine G.nil ?_
  refine GC.seq ?_
  refine GC.reg ?_
  refine G.m1 ?_
  refine G.m1 ?_
  refine G.v (V.eqI rfl rfl) rfl ?_
  refine G.nil ?_
  refine GC.condD rfl (fun h392 => absurd (by rw [hy, UInt8.toNat_inj.1 (by have := h392; omega : y.toNat = ((lo (runeK path (p.drop path.length)))).toNat)]) (hjn j)) (fun h392 => ?_)
  refine GC.skip ?_
  refine GC.inBlock ?_
  refine GC.reg ?_
  refine G.v (V.addI (r := ((j + 1 : Nat) : Int)) rfl rfl rfl (by omega) (by omega)) rfl ?_
  refine G.m1 ?_
  refine G.nil ?_
  exact ih (N - 1) _ _ (by omega) ⟨j + 1, by omega, .of rfl, rfl⟩
 refine GC.exit rfl ?_
 refine GC.turn (H' := (⟨qb, true, .row (rbR (lo (runeK path (p.drop path.length)))) 98 (0, 0)⟩ :: ⟨bb, true, .row (bC bl) 5 (0, 0)⟩ :: Ht)) (fun w1 h1 => h1.sub (List.sublist_cons_self _ _)) ?_
 exact gn _ _ hbl hbt (.of rfl)
end Go.Proofs

/- findCaseInsensitivePathRec: the capital letter, beside a wildcard. Printed by wip/mk_hv6.py. -/
set_option maxRecDepth 20000
namespace Go.Proofs
open Go Bw
open Gt
theorem g59_up0W {R : Ending → World → Prop} {w : World} {D : Nat → Prop} {qb bb cp : Nat} {Ht : SH} {c0 : List UInt8} {n : T0} {p cu bl : List UInt8} {nb : Nat} {fr : SF}
  (hn : Rd Ht n nb) (_hbl : bl.length = cp) (_hbt : bl.take cu.length = cu) (hpa : ∀ x ∈ p, x.toNat < 128) (_hpl : p.length ≤ 100000) (hLp : n.path.length ≤ p.length) (hnL : Lk n) (_hc0 : c0 <+: cu) (_hHw : ∀ e ∈ Ht, e.w = true) (hsub : Sub [(0, Pt nb 0), (1, S (p.drop n.path.length)), (2, .slice (some ⟨bb, 0, none⟩) cu.length cp), (4, .bool false), (8, Pt qb 0), (11, I (n.path.length : Nat)), (12, S p), (35, .int .i32 ((runeK n.path (p.drop n.path.length)).toNat : Int)), (36, I (0 : Nat)), (39, .int .i32 ((lo (runeK n.path (p.drop n.path.length))).toNat : Int))] fr) (hul : (up (runeK n.path (p.drop n.path.length))) = (lo (runeK n.path (p.drop n.path.length))))
  (gn : ∀ fr', Sub [(0, Pt nb 0), (1, S (p.drop n.path.length)), (2, .slice (some ⟨bb, 0, none⟩) cu.length cp), (4, .bool false), (8, Pt qb 0), (11, I (n.path.length : Nat)), (12, S p)] fr' → GC Tryd.prog ⟨59, Tryd.f59, R, w, D⟩ 606 K59v fr' (⟨qb, true, .row (rbR (lo (runeK n.path (p.drop n.path.length)))) 98 (0, 0)⟩ :: ⟨bb, true, .row (bC bl) 5 (0, 0)⟩ :: Ht)) :
  GC Tryd.prog ⟨59, Tryd.f59, R, w, D⟩ 606 K59f fr (⟨qb, true, .row (rbR (lo (runeK n.path (p.drop n.path.length)))) 98 (0, 0)⟩ :: ⟨bb, true, .row (bC bl) 5 (0, 0)⟩ :: Ht) := by
 refine GC.weak hsub ?_
 clear hsub
 have hn0 := hn
 cases hn with
 | @mk path idx wild nt pr h full kids _ bs kv hv Hs hm hs hsm hbl2 hh hk =>
 try simp only [n_path] at *
 try simp only [n_idx] at *
 try simp only [n_kids] at *
 try simp only [n_wild] at *
 try simp only [n_h] at *
 have hil : idx.length ≤ 100000 := hnL.1
 have hkil : kids.length ≤ 100000 := hnL.2.1
 obtain ⟨ad, cap, rfl⟩ := hs.slice
 obtain ⟨ad2, l2, c2, rfl, hnn⟩ := hh.slice
 have hrl : (runeK path (p.drop path.length)).toNat < 128 := runeK_low fun x hx => hpa x (List.mem_of_mem_drop hx)
 refine GC.seq ?_
 refine GC.reg ?_
 refine G.m1 ?_
 refine G.callP (v := .int .i32 ((up (runeK path (p.drop path.length))).toNat : Int)) Tryd.call76 rfl rfl (fun w1 _ => f76_low w1 _ hrl) ?_
 refine G.m2 ?_
 refine G.nil ?_
 refine GC.seq ?_
 refine GC.reg ?_
 refine G.m1 ?_
 refine G.m1 ?_
 refine G.v (V.neI rfl rfl) rfl ?_
 refine G.nil ?_
 refine GC.cond rfl (fun h413 => absurd h413 (by rw [hul]; simp)) (fun h413 => ?_)
 refine GC.skip ?_
 exact gn _ (.of rfl)
theorem g59_upWY {R : Ending → World → Prop} {w : World} {D : Nat → Prop} {qb bb cp : Nat} {Ht : SH} {c0 : List UInt8} {n : T0} {p cu bl : List UInt8} {nb : Nat} {fr : SF}
  (hn : Rd Ht n nb) (hbl : bl.length = cp) (hbt : bl.take cu.length = cu) (hpa : ∀ x ∈ p, x.toNat < 128) (_hpl : p.length ≤ 100000) (hLp : n.path.length ≤ p.length) (hnL : Lk n) (_hc0 : c0 <+: cu) (hHw : ∀ e ∈ Ht, e.w = true) (hsub : Sub [(0, Pt nb 0), (1, S (p.drop n.path.length)), (2, .slice (some ⟨bb, 0, none⟩) cu.length cp), (4, .bool false), (8, Pt qb 0), (11, I (n.path.length : Nat)), (12, S p), (35, .int .i32 ((runeK n.path (p.drop n.path.length)).toNat : Int)), (36, I (0 : Nat)), (39, .int .i32 ((lo (runeK n.path (p.drop n.path.length))).toNat : Int))] fr) {i : Nat} {k : T0} (hj : idxOf (up (runeK n.path (p.drop n.path.length))) n.idx = some i) (hkid : n.kids[i]? = some k) {res : Option (List UInt8)} (hrec : Rec59 bb cp Ht k (p.drop n.path.length) (up (runeK n.path (p.drop n.path.length))) cu res) (hul : (up (runeK n.path (p.drop n.path.length))) ≠ (lo (runeK n.path (p.drop n.path.length))))
  (gs : ∀ o, res = some o → Fin59 R w D bb cp Ht c0 (some o)) (gn : res = none → ∀ bl' fr', bl'.length = cp → bl'.take cu.length = cu → Sub [(0, Pt nb 0), (1, S (p.drop n.path.length)), (2, .slice (some ⟨bb, 0, none⟩) cu.length cp), (4, .bool false), (8, Pt qb 0), (11, I (n.path.length : Nat)), (12, S p)] fr' → GC Tryd.prog ⟨59, Tryd.f59, R, w, D⟩ 606 K59v fr' (⟨qb, true, .row (rbR (up (runeK n.path (p.drop n.path.length)))) 98 (0, 0)⟩ :: ⟨bb, true, .row (bC bl') 5 (0, 0)⟩ :: Ht)) :
  GC Tryd.prog ⟨59, Tryd.f59, R, w, D⟩ 606 K59f fr (⟨qb, true, .row (rbR (lo (runeK n.path (p.drop n.path.length)))) 98 (0, 0)⟩ :: ⟨bb, true, .row (bC bl) 5 (0, 0)⟩ :: Ht) := by
 refine GC.weak hsub ?_
 clear hsub
 have hn0 := hn
 cases hn with
 | @mk path idx wild nt pr h full kids _ bs kv hv Hs hm hs hsm hbl2 hh hk =>
 try simp only [n_path] at *
 try simp only [n_idx] at *
 try simp only [n_kids] at *
 try simp only [n_wild] at *
 try simp only [n_h] at *
 have hil : idx.length ≤ 100000 := hnL.1
 have hkil : kids.length ≤ 100000 := hnL.2.1
 obtain ⟨ad, cap, rfl⟩ := hs.slice
 obtain ⟨ad2, l2, c2, rfl, hnn⟩ := hh.slice
 have hrl : (runeK path (p.drop path.length)).toNat < 128 := runeK_low fun x hx => hpa x (List.mem_of_mem_drop hx)
 obtain ⟨hjc, hjn⟩ := idxOf_some hj
 have hjl : i < idx.length := (List.getElem?_eq_some_iff.1 hjc).1
 refine GC.seq ?_
 refine GC.reg ?_
 refine G.m1 ?_
 refine G.callP (v := .int .i32 ((up (runeK path (p.drop path.length))).toNat : Int)) Tryd.call76 rfl rfl (fun w1 _ => f76_low w1 _ hrl) ?_
 refine G.m2 ?_
 refine G.nil ?_
 refine GC.seq ?_
 refine GC.reg ?_
 refine G.m1 ?_
 refine G.m1 ?_
 refine G.v (V.neI rfl rfl) rfl ?_
 refine G.nil ?_
 refine GC.cond rfl (fun h413 => ?_) (fun h413 => absurd (UInt8.toNat_inj.1 (by have h := h413; simp at h; omega)) hul)
 refine GC.seq ?_
 refine GC.reg ?_
 refine G.v (V.slAr Tryd.underlying98 Tryd.sizeOf5 rfl) rfl ?_
 refine G.m1 ?_
 refine G.callL (H1 := [⟨qb, true, .row (rbR (lo (runeK path (p.drop path.length)))) 98 (0, 0)⟩]) (Hk := ⟨bb, true, .row (bC bl) 5 (0, 0)⟩ :: Ht) (fun v H1' => v = I 1 ∧ H1' = [⟨qb, true, .row (rbR (up (runeK path (p.drop path.length)))) 98 (0, 0)⟩]) (.of_eq rfl) (fun e0 he0 => by rw [List.mem_singleton.1 he0]) Tryd.call75 rfl rfl (fun w1 hw1 _ => ?_) ?_
 ·exact (c75_any w1 _ (up_low hrl) hw1).mono fun e w' ⟨h1, h2⟩ => ⟨_, _, h1, fun e0 he0 => by rw [List.mem_singleton.1 he0], h2, rfl, rfl⟩
 rintro v H1' ⟨rfl, rfl⟩
 refine G.nil ?_
 refine GC.turn (H' := (⟨qb, true, .row (rbR (up (runeK path (p.drop path.length)))) 98 (0, 0)⟩ :: ⟨bb, true, .row (bC bl) 5 (0, 0)⟩ :: Ht)) (fun w1 h1 => h1) ?_
 refine GC.seq ?_
 refine GC.reg ?_
 refine G.v (V.ldA (b := qb) (off := 0) (s := 4) (wf := true) (l := rbR (up (runeK path (p.drop path.length)))) (T := 98) (fz := (0, 0)) (cs := rbR (up (runeK path (p.drop path.length)))) Tryd.isAgg98 Tryd.sizeOf98 rfl (.head _) rfl rfl) rfl ?_
 refine G.m1 ?_
 refine G.callP (v := .agg (rbR (up (runeK path (p.drop path.length)))).toArray) Tryd.call71 rfl rfl (fun w1 _ => c71_any w1 (up (runeK path (p.drop path.length))) 0) ?_
 refine G.stA (cs := rbR (up (runeK path (p.drop path.length)))) Tryd.sizeOf98 rfl rfl (rbR_one _) .z rfl ?_
 refine G.nil ?_
 refine GC.turn (H' := (⟨qb, true, .row (rbR (up (runeK path (p.drop path.length)))) 98 (0, 0)⟩ :: ⟨bb, true, .row (bC bl) 5 (0, 0)⟩ :: Ht)) (fun w1 h1 => h1) ?_
 refine GC.seq ?_
 refine GC.reg ?_
 refine G.v (V.iaA (i := 0) Tryd.underlying98 Tryd.sizeOf5 rfl rfl (by decide)) rfl ?_
 refine G.v (V.ld (b := qb) (off := 0 + 0 * 1) (wf := true) (l := rbR (up (runeK path (p.drop path.length)))) (T := 98) (fz := (0, 0)) (v := .int .u8 ((up (runeK path (p.drop path.length))).toNat : Int)) Tryd.isAgg5 rfl (.head _) rfl) rfl ?_
 refine G.m2 ?_
 refine G.nil ?_
 refine GC.seq ?_
 refine GC.reg ?_
 refine G.m1 ?_
 refine G.v (V.nc rfl) rfl ?_
 refine G.v (V.fa F94_1 rfl) rfl ?_
 refine G.v (V.ld (b := nb) (off := 0 + 1) (wf := true) (l := nodeR path idx wild nt pr (.slice ad kids.length cap) (.slice ad2 l2 c2) full) (T := 94) (fz := (0, 0)) (v := S idx) Tryd.isAgg9 rfl (m2 hm) rfl) rfl ?_
 refine G.cvSB Tryd.underlying9 Tryd.underlying44 Tryd.underlying5 rfl rfl (fun tb cpp z fz hrb hcp => ?_)
 refine G.v (V.lenL Tryd.underlying44 rfl) rfl ?_
 refine G.m1 ?_
 refine G.nil ?_
 refine GC.block ?_
 refine GC.loopJ (fun N fr' H' => ∃ j, j + N = i ∧ Sub [(0, Pt nb 0), (1, S (p.drop path.length)), (2, .slice (some ⟨bb, 0, none⟩) cu.length cp), (4, .bool false), (8, Pt qb 0), (11, I (path.length : Nat)), (12, S p), (35, .int .i32 ((runeK path (p.drop path.length)).toNat : Int)), (36, I (0 : Nat)), (39, .int .i32 ((lo (runeK path (p.drop path.length))).toNat : Int)), (44, .int .i32 ((up (runeK path (p.drop path.length))).toNat : Int)), (45, .int .u8 ((up (runeK path (p.drop path.length))).toNat : Int)), (426, .slice (some ⟨tb, 0, none⟩) idx.length cpp), (427, I (idx.length : Nat)), (428, I (j : Nat))] fr' ∧ H' = ⟨tb, true, .row (bC (idx ++ z)) 5 fz⟩ :: (⟨qb, true, .row (rbR (up (runeK path (p.drop path.length)))) 98 (0, 0)⟩ :: ⟨bb, true, .row (bC bl) 5 (0, 0)⟩ :: Ht)) i
  ⟨0, by omega, .of rfl, rfl⟩ ?_
 rintro N fr' H' ⟨j, hj0, hs2, rfl⟩ ih
 refine GC.weak hs2 ?_
 clear hs2
 refine GC.seq ?_
 refine GC.reg ?_
 refine G.v (V.lt rfl rfl) rfl ?_
 refine G.nil ?_
 refine GC.seq ?_
 refine GC.condD rfl (fun h429 => ?_) (fun h429 => absurd (by omega) h429)
 refine GC.skip ?_
 refine GC.seq ?_
 refine GC.block ?_
 refine GC.seq ?_
 have hql : j < idx.length := by omega
 obtain ⟨y, hy⟩ : ∃ y, idx[j]? = some y := ⟨_, List.getElem?_eq_getElem hql⟩
 refine GC.reg ?_
 refine G.m1 ?_
 refine G.v (V.ia (i := j) Tryd.underlying44 Tryd.sizeOf5 rfl rfl hql) rfl ?_
 refine G.v (V.ld (b := tb) (off := 0 + j * 1) (wf := true) (l := bC (idx ++ z)) (T := 5) (fz := fz) (v := .int .u8 (y.toNat : Int)) Tryd.isAgg5 rfl (.head _) (by rw [nth_eq, Nat.zero_add, Nat.mul_one, bC_app, List.getElem?_append_left (by rw [bC_len]; exact hql)]; simp [bC, Lib.byteCells, hy])) rfl ?_
 refine G.m2 ?_
 refine G.m2 ?_
 refine G.nil ?_
 refine GC.seq ?_
 refine GC.reg ?_
 refine G.m1 ?_
 refine G.m1 ?_
 refine G.v (V.eqI rfl rfl) rfl ?_
 refine G.nil ?_
 refine GC.condD rfl (fun h435 => ?_) (fun h435 => ?_)
 ·refine GC.seq ?_
  refine GC.seq ?_
  have hjj : j = i := by
   have hyx := UInt8.toNat_inj.1 (by have := h435; omega : y.toNat = ((up (runeK path (p.drop path.length)))).toNat)
   rcases Nat.lt_or_ge j i with h | h
   ·exact absurd (by rw [hy, hyx]) (hjn j h)
   ·omega
  subst hjj
  have hkl := (List.getElem?_eq_some_iff.1 hkid).1
  obtain ⟨kb, hkb⟩ : ∃ kb, bs[j]? = some kb := ⟨_, List.getElem?_eq_getElem (by omega)⟩
  have hrk := hk j k kb hkid hkb
  obtain ⟨rw0, cap2, spare, e1, rfl⟩ := hs.at hkl
  cases e1
  have hrbm := hsm _ (.head _)
  refine GC.regT 11 mixed (by kernel_rfl) rfl rfl ?_
  refine GS.v (V.mv rfl) rfl ?_
  refine GS.v (V.nc rfl) rfl ?_
  refine GS.v (V.fa F94_5 rfl) rfl ?_
  refine GS.v (V.ld (b := nb) (off := 0 + 5) (wf := true) (l := nodeR path idx wild nt pr (.slice (some ⟨rw0, 0, none⟩) kids.length cap) (.slice ad2 l2 c2) full) (T := 94) (fz := (0, 0)) (v := (.slice (some ⟨rw0, 0, none⟩) kids.length cap)) Tryd.isAgg90 rfl (m3 hm) rfl) rfl ?_
  refine GS.v (V.mv rfl) rfl ?_
  refine GS.v (V.ia (i := j) Tryd.underlying90 Tryd.sizeOf83 rfl rfl hkl) rfl ?_
  refine GS.v (V.ld (b := rw0) (off := 0 + j * 1) (wf := true) (l := bs.map (Pt · 0) ++ spare) (T := 83) (fz := (0, 0)) (v := Pt kb 0) Tryd.isAgg83 rfl (m3 hrbm) (by rw [nth_eq, Nat.zero_add, Nat.mul_one, List.getElem?_append_left (by rw [List.length_map]; omega), List.getElem?_map, hkb]; rfl)) rfl ?_
  refine GS.v (V.mv rfl) rfl ?_
  refine GS.v (V.mv rfl) rfl ?_
  refine GS.v (V.ldA (b := qb) (off := 0) (s := 4) (wf := true) (l := rbR (up (runeK path (p.drop path.length)))) (T := 98) (fz := (0, 0)) (cs := rbR (up (runeK path (p.drop path.length)))) Tryd.isAgg98 Tryd.sizeOf98 rfl (.tail _ (.head _)) rfl rfl) rfl ?_
  refine GS.v (V.mv rfl) rfl ?_
  refine GS.nil ?_
  refine G.callL (H1 := ⟨bb, true, .row (bC bl) 5 (0, 0)⟩ :: Ht) (Hk := [⟨tb, true, .row (bC (idx ++ z)) 5 fz⟩, ⟨qb, true, .row (rbR (up (runeK path (p.drop path.length)))) 98 (0, 0)⟩]) (fun v H1' => ∃ bl', v = outV bb cp res ∧ bl'.length = cp ∧ tkO cu res bl' ∧ H1' = ⟨bb, true, .row (bC bl') 5 (0, 0)⟩ :: Ht) ?_ (fun e0 he0 => ?_) Tryd.call59 rfl rfl (fun w1 hw1 _ => ?_) ?_
  ·have p1 := perm_idx [[⟨tb, true, .row (bC (idx ++ z)) 5 fz⟩], [⟨qb, true, .row (rbR (up (runeK path (p.drop path.length)))) 98 (0, 0)⟩], [⟨bb, true, .row (bC bl) 5 (0, 0)⟩], Ht] [0, 1, 2, 3] [2, 3, 0, 1] (by decide)
   simpa using p1
  ·rcases List.mem_cons.1 he0 with rfl | he0
   ·rfl
   ·exact hHw e0 he0
  ·refine (hrec w1 _ kb bl hrk hbl hbt hw1).mono fun e w' ⟨bl', h1, h2, h3, h4⟩ => ⟨_, _, h1, fun e0 he0 => ?_, h4, bl', rfl, h2, h3, rfl⟩
   rcases List.mem_cons.1 he0 with rfl | he0
   ·rfl
   ·exact hHw e0 he0
  rintro v H1' ⟨bl', rfl, hbl', htk', rfl⟩
  refine G.m2 ?_
  refine G.nil ?_
  refine GC.turn (H' := (⟨qb, true, .row (rbR (up (runeK path (p.drop path.length)))) 98 (0, 0)⟩ :: ⟨bb, true, .row (bC bl') 5 (0, 0)⟩ :: Ht)) (fun w1 h1 => ?_) ?_
  ·have h2 : HF w D (⟨bb, true, .row (bC bl') 5 (0, 0)⟩ :: (Ht ++ [⟨tb, true, .row (bC (idx ++ z)) 5 fz⟩, ⟨qb, true, .row (rbR (up (runeK path (p.drop path.length)))) 98 (0, 0)⟩])) w1 := h1
   have p1 := perm_idx [[⟨bb, true, .row (bC bl') 5 (0, 0)⟩], Ht, [⟨tb, true, .row (bC (idx ++ z)) 5 fz⟩], [⟨qb, true, .row (rbR (up (runeK path (p.drop path.length)))) 98 (0, 0)⟩]] [0, 1, 2, 3] [2, 3, 0, 1] (by decide)
   have h3 := h2.perm (H' := ⟨tb, true, .row (bC (idx ++ z)) 5 fz⟩ :: (⟨qb, true, .row (rbR (up (runeK path (p.drop path.length)))) 98 (0, 0)⟩ :: ⟨bb, true, .row (bC bl') 5 (0, 0)⟩ :: Ht)) (by simpa using p1)
   exact h3.sub (List.sublist_cons_self _ _)
  refine GC.seq ?_
  refine GC.reg ?_
  refine G.m1 ?_
  refine G.v (v := .bool res.isSome) (neL_out Tryd.underlying44 rfl) rfl ?_
  refine G.nil ?_
  refine GC.cond rfl (fun h449 => ?_) (fun h449 => ?_)
  ·refine GC.seq ?_
   refine GC.reg ?_
   refine G.m1 ?_
   refine G.m2 ?_
   refine G.nil ?_
   cases res with
   | none => exact absurd h449 (by decide)
   | some o => exact GC.ret1 rfl rfl fun w' hw' => gs o rfl bl' w' hbl' htk' (hw'.sub (List.sublist_cons_self _ _))
  refine GC.skip ?_
  refine GC.exit rfl ?_
  have hrn : res = none := by cases res with
   | none => rfl
   | some o => exact absurd h449 (by simp)
  subst hrn
  exact gn rfl _ _ hbl' htk' (.of rfl)
 refine GC.skip ?_
 refine GC.inBlock ?_
 refine GC.reg ?_
 refine G.v (V.addI (r := ((j + 1 : Nat) : Int)) rfl rfl rfl (by omega) (by omega)) rfl ?_
 refine G.m1 ?_
 refine G.nil ?_
 have hyx : y ≠ (up (runeK path (p.drop path.length))) := fun e => h435 (by rw [e])
 have hjj : j ≠ i := fun e => hyx (by rw [e, hjc] at hy; exact (Option.some.inj hy).symm)
 exact ih (N - 1) _ _ (by omega) ⟨j + 1, by omega, .of rfl, rfl⟩
theorem g59_upWN {R : Ending → World → Prop} {w : World} {D : Nat → Prop} {qb bb cp : Nat} {Ht : SH} {c0 : List UInt8} {n : T0} {p cu bl : List UInt8} {nb : Nat} {fr : SF}
  (hn : Rd Ht n nb) (hbl : bl.length = cp) (hbt : bl.take cu.length = cu) (hpa : ∀ x ∈ p, x.toNat < 128) (_hpl : p.length ≤ 100000) (hLp : n.path.length ≤ p.length) (hnL : Lk n) (_hc0 : c0 <+: cu) (_hHw : ∀ e ∈ Ht, e.w = true) (hsub : Sub [(0, Pt nb 0), (1, S (p.drop n.path.length)), (2, .slice (some ⟨bb, 0, none⟩) cu.length cp), (4, .bool false), (8, Pt qb 0), (11, I (n.path.length : Nat)), (12, S p), (35, .int .i32 ((runeK n.path (p.drop n.path.length)).toNat : Int)), (36, I (0 : Nat)), (39, .int .i32 ((lo (runeK n.path (p.drop n.path.length))).toNat : Int))] fr) (hj : idxOf (up (runeK n.path (p.drop n.path.length))) n.idx = none) (hul : (up (runeK n.path (p.drop n.path.length))) ≠ (lo (runeK n.path (p.drop n.path.length))))
  (gn : ∀ bl' fr', bl'.length = cp → bl'.take cu.length = cu → Sub [(0, Pt nb 0), (1, S (p.drop n.path.length)), (2, .slice (some ⟨bb, 0, none⟩) cu.length cp), (4, .bool false), (8, Pt qb 0), (11, I (n.path.length : Nat)), (12, S p)] fr' → GC Tryd.prog ⟨59, Tryd.f59, R, w, D⟩ 606 K59v fr' (⟨qb, true, .row (rbR (up (runeK n.path (p.drop n.path.length)))) 98 (0, 0)⟩ :: ⟨bb, true, .row (bC bl') 5 (0, 0)⟩ :: Ht)) :
  GC Tryd.prog ⟨59, Tryd.f59, R, w, D⟩ 606 K59f fr (⟨qb, true, .row (rbR (lo (runeK n.path (p.drop n.path.length)))) 98 (0, 0)⟩ :: ⟨bb, true, .row (bC bl) 5 (0, 0)⟩ :: Ht) := by
 refine GC.weak hsub ?_
 clear hsub
 have hn0 := hn
 cases hn with
 | @mk path idx wild nt pr h full kids _ bs kv hv Hs hm hs hsm hbl2 hh hk =>
 try simp only [n_path] at *
 try simp only [n_idx] at *
 try simp only [n_kids] at *
 try simp only [n_wild] at *
 try simp only [n_h] at *
 have hil : idx.length ≤ 100000 := hnL.1
 have hkil : kids.length ≤ 100000 := hnL.2.1
 obtain ⟨ad, cap, rfl⟩ := hs.slice
 obtain ⟨ad2, l2, c2, rfl, hnn⟩ := hh.slice
 have hrl : (runeK path (p.drop path.length)).toNat < 128 := runeK_low fun x hx => hpa x (List.mem_of_mem_drop hx)
 have hjn := idxOf_none hj
 refine GC.seq ?_
 refine GC.reg ?_
 refine G.m1 ?_
 refine G.callP (v := .int .i32 ((up (runeK path (p.drop path.length))).toNat : Int)) Tryd.call76 rfl rfl (fun w1 _ => f76_low w1 _ hrl) ?_
 refine G.m2 ?_
 refine G.nil ?_
 refine GC.seq ?_
 refine GC.reg ?_
 refine G.m1 ?_
 refine G.m1 ?_
 refine G.v (V.neI rfl rfl) rfl ?_
 refine G.nil ?_
 refine GC.cond rfl (fun h413 => ?_) (fun h413 => absurd (UInt8.toNat_inj.1 (by have h := h413; simp at h; omega)) hul)
 refine GC.seq ?_
 refine GC.reg ?_
 refine G.v (V.slAr Tryd.underlying98 Tryd.sizeOf5 rfl) rfl ?_
 refine G.m1 ?_
 refine G.callL (H1 := [⟨qb, true, .row (rbR (lo (runeK path (p.drop path.length)))) 98 (0, 0)⟩]) (Hk := ⟨bb, true, .row (bC bl) 5 (0, 0)⟩ :: Ht) (fun v H1' => v = I 1 ∧ H1' = [⟨qb, true, .row (rbR (up (runeK path (p.drop path.length)))) 98 (0, 0)⟩]) (.of_eq rfl) (fun e0 he0 => by rw [List.mem_singleton.1 he0]) Tryd.call75 rfl rfl (fun w1 hw1 _ => ?_) ?_
 ·exact (c75_any w1 _ (up_low hrl) hw1).mono fun e w' ⟨h1, h2⟩ => ⟨_, _, h1, fun e0 he0 => by rw [List.mem_singleton.1 he0], h2, rfl, rfl⟩
 rintro v H1' ⟨rfl, rfl⟩
 refine G.nil ?_
 refine GC.turn (H' := (⟨qb, true, .row (rbR (up (runeK path (p.drop path.length)))) 98 (0, 0)⟩ :: ⟨bb, true, .row (bC bl) 5 (0, 0)⟩ :: Ht)) (fun w1 h1 => h1) ?_
 refine GC.seq ?_
 refine GC.reg ?_
 refine G.v (V.ldA (b := qb) (off := 0) (s := 4) (wf := true) (l := rbR (up (runeK path (p.drop path.length)))) (T := 98) (fz := (0, 0)) (cs := rbR (up (runeK path (p.drop path.length)))) Tryd.isAgg98 Tryd.sizeOf98 rfl (.head _) rfl rfl) rfl ?_
 refine G.m1 ?_
 refine G.callP (v := .agg (rbR (up (runeK path (p.drop path.length)))).toArray) Tryd.call71 rfl rfl (fun w1 _ => c71_any w1 (up (runeK path (p.drop path.length))) 0) ?_
 refine G.stA (cs := rbR (up (runeK path (p.drop path.length)))) Tryd.sizeOf98 rfl rfl (rbR_one _) .z rfl ?_
 refine G.nil ?_
 refine GC.turn (H' := (⟨qb, true, .row (rbR (up (runeK path (p.drop path.length)))) 98 (0, 0)⟩ :: ⟨bb, true, .row (bC bl) 5 (0, 0)⟩ :: Ht)) (fun w1 h1 => h1) ?_
 refine GC.seq ?_
 refine GC.reg ?_
 refine G.v (V.iaA (i := 0) Tryd.underlying98 Tryd.sizeOf5 rfl rfl (by decide)) rfl ?_
 refine G.v (V.ld (b := qb) (off := 0 + 0 * 1) (wf := true) (l := rbR (up (runeK path (p.drop path.length)))) (T := 98) (fz := (0, 0)) (v := .int .u8 ((up (runeK path (p.drop path.length))).toNat : Int)) Tryd.isAgg5 rfl (.head _) rfl) rfl ?_
 refine G.m2 ?_
 refine G.nil ?_
 refine GC.seq ?_
 refine GC.reg ?_
 refine G.m1 ?_
 refine G.v (V.nc rfl) rfl ?_
 refine G.v (V.fa F94_1 rfl) rfl ?_
 refine G.v (V.ld (b := nb) (off := 0 + 1) (wf := true) (l := nodeR path idx wild nt pr (.slice ad kids.length cap) (.slice ad2 l2 c2) full) (T := 94) (fz := (0, 0)) (v := S idx) Tryd.isAgg9 rfl (m2 hm) rfl) rfl ?_
 refine G.cvSB Tryd.underlying9 Tryd.underlying44 Tryd.underlying5 rfl rfl (fun tb cpp z fz hrb hcp => ?_)
 refine G.v (V.lenL Tryd.underlying44 rfl) rfl ?_
 refine G.m1 ?_
 refine G.nil ?_
 refine GC.block ?_
 refine GC.loopJ (fun N fr' H' => ∃ j, j + N = idx.length ∧ Sub [(0, Pt nb 0), (1, S (p.drop path.length)), (2, .slice (some ⟨bb, 0, none⟩) cu.length cp), (4, .bool false), (8, Pt qb 0), (11, I (path.length : Nat)), (12, S p), (35, .int .i32 ((runeK path (p.drop path.length)).toNat : Int)), (36, I (0 : Nat)), (39, .int .i32 ((lo (runeK path (p.drop path.length))).toNat : Int)), (44, .int .i32 ((up (runeK path (p.drop path.length))).toNat : Int)), (45, .int .u8 ((up (runeK path (p.drop path.length))).toNat : Int)), (426, .slice (some ⟨tb, 0, none⟩) idx.length cpp), (427, I (idx.length : Nat)), (428, I (j : Nat))] fr' ∧ H' = ⟨tb, true, .row (bC (idx ++ z)) 5 fz⟩ :: (⟨qb, true, .row (rbR (up (runeK path (p.drop path.length)))) 98 (0, 0)⟩ :: ⟨bb, true, .row (bC bl) 5 (0, 0)⟩ :: Ht)) idx.length
  ⟨0, by omega, .of rfl, rfl⟩ ?_
 rintro N fr' H' ⟨j, hj0, hs2, rfl⟩ ih
 refine GC.weak hs2 ?_
 clear hs2
 refine GC.seq ?_
 refine GC.reg ?_
 refine G.v (V.lt rfl rfl) rfl ?_
 refine G.nil ?_
 refine GC.seq ?_
 refine GC.condD rfl (fun h429 => ?_) (fun h429 => ?_)
 ·refine GC.skip ?_
  refine GC.seq ?_
  refine GC.block ?_
  refine GC.seq ?_
  have hql : j < idx.length := by omega
  obtain ⟨y, hy⟩ : ∃ y, idx[j]? = some y := ⟨_, List.getElem?_eq_getElem hql⟩
  refine GC.reg ?_
  refine G.m1 ?_
  refine G.v (V.ia (i := j) Tryd.underlying44 Tryd.sizeOf5 rfl rfl hql) rfl ?_
  refine G.v (V.ld (b := tb) (off := 0 + j * 1) (wf := true) (l := bC (idx ++ z)) (T := 5) (fz := fz) (v := .int .u8 (y.toNat : Int)) Tryd.isAgg5 rfl (.head _) (by rw [nth_eq, Nat.zero_add, Nat.mul_one, bC_app, List.getElem?_append_left (by rw [bC_len]; exact hql)]; simp [bC, Lib.byteCells, hy])) rfl ?_
  refine G.m2 ?_
  refine G.m2 ?_
  refine G.nil ?_
  refine GC.seq ?_
  refine GC.reg ?_
  refine G.m1 ?_
  refine G.m1 ?_
  refine G.v (V.eqI rfl rfl) rfl ?_
  refine G.nil ?_
  refine GC.condD rfl (fun h435 => absurd (by rw [hy, UInt8.toNat_inj.1 (by have := h435; omega : y.toNat = ((up (runeK path (p.drop path.length)))).toNat)]) (hjn j)) (fun h435 => ?_)
  refine GC.skip ?_
  refine GC.inBlock ?_
  refine GC.reg ?_
  refine G.v (V.addI (r := ((j + 1 : Nat) : Int)) rfl rfl rfl (by omega) (by omega)) rfl ?_
  refine G.m1 ?_
  refine G.nil ?_
  exact ih (N - 1) _ _ (by omega) ⟨j + 1, by omega, .of rfl, rfl⟩
 refine GC.exit rfl ?_
 refine GC.turn (H' := (⟨qb, true, .row (rbR (up (runeK path (p.drop path.length)))) 98 (0, 0)⟩ :: ⟨bb, true, .row (bC bl) 5 (0, 0)⟩ :: Ht)) (fun w1 h1 => h1.sub (List.sublist_cons_self _ _)) ?_
 exact gn _ _ hbl hbt (.of rfl)
end Go.Proofs

/- findCaseInsensitivePathRec: the wildcard. Printed by wip/mk_hv7.py. -/
set_option maxRecDepth 20000
namespace Go.Proofs
open Go Bw
open Gt
theorem tw_le (p : List UInt8) : (p.takeWhile (· ≠ 47)).length ≤ p.length := (List.takeWhile_sublist _).length_le
theorem tw_get : ∀ {p : List UInt8} {i : Nat} {x : UInt8}, i ≤ (p.takeWhile (· ≠ 47)).length → p[i]? = some x → (x ≠ 47 → i + 1 ≤ (p.takeWhile (· ≠ 47)).length) ∧ (x = 47 → i = (p.takeWhile (· ≠ 47)).length)
 | [], i, x, _, h => by simp at h
 | c :: p, 0, x, _, h => by
  simp at h; subst h
  by_cases e : c = 47
  ·subst e; simp
  ·simp [e]
 | c :: p, i + 1, x, hi, h => by
  by_cases e : c = 47
  ·subst e; simp at hi
  ·have h1 : (c :: p).takeWhile (· ≠ 47) = c :: p.takeWhile (· ≠ 47) := by simp [e]
   rw [h1, List.length_cons] at hi ⊢
   have := tw_get (p := p) (i := i) (x := x) (by omega) (by simpa using h)
   exact ⟨fun hx => by have := this.1 hx; omega, fun hx => by have := this.2 hx; omega⟩
theorem tw_all {p : List UInt8} (h : (p.takeWhile (· ≠ 47)).length = p.length) : p.takeWhile (· ≠ 47) = p := List.Sublist.eq_of_length (List.takeWhile_sublist _) h
theorem tw_take (p : List UInt8) : p.take (p.takeWhile (· ≠ 47)).length = p.takeWhile (· ≠ 47) := by
 have h : p.takeWhile (· ≠ 47) <+: p := List.takeWhile_prefix _
 exact (List.prefix_iff_eq_take.1 h).symm
theorem g59_P {R : Ending → World → Prop} {w : World} {D : Nat → Prop} {qb bb cp : Nat} {Ht : SH} {c0 : List UInt8} {n : T0} {p cu bl : List UInt8} {rb : UInt8} {nb : Nat} {fr : SF}
  (hn : Rd Ht n nb) (hbl : bl.length = cp) (hbt : bl.take cu.length = cu) (_hpa : ∀ x ∈ p, x.toNat < 128) (hpl : p.length ≤ 100000) (hLp : n.path.length ≤ p.length) (hnL : Lk n) (hc0 : c0 <+: cu) (_hHw : ∀ e ∈ Ht, e.w = true) (hsub : Sub [(0, Pt nb 0), (1, S (p.drop n.path.length)), (2, .slice (some ⟨bb, 0, none⟩) cu.length cp), (4, .bool false), (8, Pt qb 0), (11, I (n.path.length : Nat)), (12, S p)] fr) {k : T0} (hkid : n.kids[n.kids.length - 1]? = some k) (hroom : cu.length + (p.drop n.path.length).length + 1 ≤ cp) (hk2 : k.nt = 2)
  (deep : ∀ c0 cr, ((p.drop n.path.length).takeWhile (· ≠ 47)).length < (p.drop n.path.length).length → k.kids = c0 :: cr → LpC R w D qb bb cp Ht c0 ((p.drop n.path.length).drop ((p.drop n.path.length).takeWhile (· ≠ 47)).length) rb (cu ++ ((p.drop n.path.length).takeWhile (· ≠ 47))))
  (dead : ((p.drop n.path.length).takeWhile (· ≠ 47)).length < (p.drop n.path.length).length → k.kids = [] → Fin59 R w D bb cp Ht c0 none) (leaf1 : ¬ ((p.drop n.path.length).takeWhile (· ≠ 47)).length < (p.drop n.path.length).length → k.h.isSome = true → Fin59 R w D bb cp Ht c0 (some (cu ++ ((p.drop n.path.length).takeWhile (· ≠ 47))))) (leaf0 : ¬ ((p.drop n.path.length).takeWhile (· ≠ 47)).length < (p.drop n.path.length).length → k.h.isSome = false → Fin59 R w D bb cp Ht c0 none) :
  GC Tryd.prog ⟨59, Tryd.f59, R, w, D⟩ 606 K59v fr (⟨qb, true, .row (rbR rb) 98 (0, 0)⟩ :: ⟨bb, true, .row (bC bl) 5 (0, 0)⟩ :: Ht) := by
 refine GC.weak hsub ?_
 clear hsub
 have hn0 := hn
 cases hn with
 | @mk path idx wild nt pr h full kids _ bs kv hv Hs hm hs hsm hbl2 hh hk =>
 try simp only [n_path] at *
 try simp only [n_idx] at *
 try simp only [n_kids] at *
 try simp only [n_wild] at *
 try simp only [n_h] at *
 have hil : idx.length ≤ 100000 := hnL.1
 have hkil : kids.length ≤ 100000 := hnL.2.1
 obtain ⟨ad, cap, rfl⟩ := hs.slice
 obtain ⟨ad2, l2, c2, rfl, hnn⟩ := hh.slice
 generalize hqd : p.drop path.length = q at *
 have hkl := (List.getElem?_eq_some_iff.1 hkid).1
 obtain ⟨kb, hkb⟩ : ∃ kb, bs[kids.length - 1]? = some kb := ⟨_, List.getElem?_eq_getElem (by omega)⟩
 have hrk := hk (kids.length - 1) k kb hkid hkb
 obtain ⟨rw0, cap2, spare, e1, rfl⟩ := hs.at hkl
 cases e1
 have hrbm := hsm _ (.head _)
 clear hs
 cases hrk with
 | @mk kpath kidx kwild knt kpr kh kfull kkids _ kbs kkv khv kHs km ks ksm kbl khh kk =>
 try simp only [n_nt] at *
 try simp only [n_kids] at *
 try simp only [n_h] at *
 obtain ⟨kad, kcap, rfl⟩ := ks.slice
 obtain ⟨kad2, kl2, kc2, rfl, khnn⟩ := khh.slice
 have hql : q.length ≤ 100000 := by rw [← hqd, List.length_drop]; omega
 have htl := tw_le q
 refine GC.seq ?_
 refine GC.regQ mixed (by kernel_rfl) ?_
 refine GQ.v (V.mv rfl) rfl ?_
 refine GQ.v (V.nc rfl) rfl ?_
 refine GQ.v (V.fa F94_5 rfl) rfl ?_
 refine GQ.v (V.ld (b := nb) (off := 0 + 5) (wf := true) (l := nodeR path idx wild nt pr (.slice (some ⟨rw0, 0, none⟩) kids.length cap) (.slice ad2 l2 c2) full) (T := 94) (fz := (0, 0)) (v := (.slice (some ⟨rw0, 0, none⟩) kids.length cap)) Tryd.isAgg90 rfl (m2 hm) rfl) rfl ?_
 refine GQ.v (V.mv rfl) rfl ?_
 refine GQ.v (V.nc rfl) rfl ?_
 refine GQ.v (V.fa F94_5 rfl) rfl ?_
 refine GQ.v (V.ld (b := nb) (off := 0 + 5) (wf := true) (l := nodeR path idx wild nt pr (.slice (some ⟨rw0, 0, none⟩) kids.length cap) (.slice ad2 l2 c2) full) (T := 94) (fz := (0, 0)) (v := (.slice (some ⟨rw0, 0, none⟩) kids.length cap)) Tryd.isAgg90 rfl (m2 hm) rfl) rfl ?_
 refine GQ.v (V.lenL Tryd.underlying90 rfl) rfl ?_
 refine GQ.v (V.subI (r := ((kids.length - 1 : Nat) : Int)) rfl rfl (by omega) (by omega) (by omega)) rfl ?_
 refine GQ.v (V.ia (i := kids.length - 1) Tryd.underlying90 Tryd.sizeOf83 rfl rfl hkl) rfl ?_
 refine GQ.v (V.ld (b := rw0) (off := 0 + (kids.length - 1) * 1) (wf := true) (l := bs.map (Pt · 0) ++ spare) (T := 83) (fz := (0, 0)) (v := Pt kb 0) Tryd.isAgg83 rfl (m2 hrbm) (by rw [nth_eq, Nat.zero_add, Nat.mul_one, List.getElem?_append_left (by rw [List.length_map]; omega), List.getElem?_map, hkb]; rfl)) rfl ?_
 refine GQ.v (V.asg rfl) rfl ?_
 refine GQ.nil ?_
 refine GC.seq ?_
 refine GC.reg ?_
 refine G.m1 ?_
 refine G.v (V.nc rfl) rfl ?_
 refine G.v (V.fa F94_3 rfl) rfl ?_
 refine G.v (V.ld (b := kb) (off := 0 + 3) (wf := true) (l := nodeR kpath kidx kwild knt kpr (.slice kad kkids.length kcap) (.slice kad2 kl2 kc2) kfull) (T := 94) (fz := (0, 0)) (v := .int .u8 (knt : Int)) Tryd.isAgg88 rfl (m2 km) rfl) rfl ?_
 refine G.nil ?_
 refine GC.block ?_
 refine GC.seq ?_
 refine GC.reg ?_
 refine G.v (V.eqI rfl rfl) rfl ?_
 refine G.m2 ?_
 refine G.nil ?_
 refine GC.condD rfl (fun h469 => ?_) (fun h469 => absurd (by rw [hk2]; rfl) h469)
 refine GC.seq ?_
 refine GC.reg ?_
 refine G.m2 ?_
 refine G.nil ?_
 refine GC.seq ?_
 refine GC.block ?_
 refine GC.loopJ (fun N fr' H' => ∃ e, e + N = (q.takeWhile (· ≠ 47)).length ∧ Sub [(0, Pt kb 0), (1, S q), (2, .slice (some ⟨bb, 0, none⟩) cu.length cp), (4, .bool false), (8, Pt qb 0), (49, I (e : Nat))] fr' ∧ H' = (⟨qb, true, .row (rbR rb) 98 (0, 0)⟩ :: ⟨bb, true, .row (bC bl) 5 (0, 0)⟩ :: Ht)) (q.takeWhile (· ≠ 47)).length
  ⟨0, by omega, .of rfl, rfl⟩ ?_
 rintro N fr' H' ⟨e, he, hs2, rfl⟩ ih
 refine GC.weak hs2 ?_
 clear hs2
 refine GC.seq ?_
 refine GC.seq ?_
 refine GC.join (fun fr' H' => ∃ t : Bool, (t = true → e + 1 ≤ (q.takeWhile (· ≠ 47)).length) ∧ (t = false → e = (q.takeWhile (· ≠ 47)).length) ∧ Sub [(0, Pt kb 0), (1, S q), (2, .slice (some ⟨bb, 0, none⟩) cu.length cp), (4, .bool false), (8, Pt qb 0), (49, I (e : Nat)), (480, .bool t)] fr' ∧ H' = (⟨qb, true, .row (rbR rb) 98 (0, 0)⟩ :: ⟨bb, true, .row (bC bl) 5 (0, 0)⟩ :: Ht)) (fun J116 => ?_) ?_
 ·refine GC.reg ?_
  refine G.m1 ?_
  refine G.m1 ?_
  refine G.v (V.lenS Tryd.underlying9 rfl) rfl ?_
  refine G.v (V.lt rfl rfl) rfl ?_
  refine G.m1 ?_
  refine G.bc 475 rfl (fun h475 => ?_) (fun h475 => ?_)
  ·refine G.m5 ?_
   refine G.m5 ?_
   obtain ⟨x, hx⟩ : ∃ x, q[e]? = some x := ⟨_, List.getElem?_eq_getElem (by have := of_decide_eq_true h475; omega)⟩
   have htg := tw_get (i := e) (by omega) hx
   refine G.vg rfl rfl (V.idx (i := e) (b := x) Tryd.underlying9 rfl rfl hx) rfl ?_
   refine G.vg rfl rfl (V.neI rfl rfl) rfl ?_
   refine G.m3 ?_
   refine G.nil ?_
   exact J116 _ _ ⟨_, fun h => htg.1 fun e2 => by rw [e2] at h; simp at h, fun h => htg.2 (u47 (by simpa using h)), .of rfl, rfl⟩
  ·refine G.s1 ?_
   refine G.s1 ?_
   refine G.s1 ?_
   refine G.s1 ?_
   refine G.m4 ?_
   refine G.nil ?_
   exact J116 _ _ ⟨false, fun h => (by cases h), fun _ => by have h1 := of_decide_eq_false h475; have h2 := tw_le q; omega, .of rfl, rfl⟩
 rintro fr' H' ⟨t, ht1, ht2, hs116, rfl⟩
 refine GC.weak hs116 ?_
 clear hs116
 refine GC.cond rfl (fun h480 => ?_) (fun h480 => ?_)
 ·refine GC.skip ?_
  refine GC.block ?_
  refine GC.reg ?_
  refine G.m1 ?_
  refine G.v (V.addI (r := ((e + 1 : Nat) : Int)) rfl rfl rfl (by omega) (by omega)) rfl ?_
  refine G.m2 ?_
  refine G.nil ?_
  refine GC.inBlock ?_
  exact ih (N - 1) _ _ (by have := ht1 h480; omega) ⟨e + 1, by have := ht1 h480; omega, .of rfl, rfl⟩
 refine GC.exit rfl ?_
 refine GC.seq ?_
 have hee : e = (q.takeWhile (· ≠ 47)).length := ht2 (by simpa using h480)
 subst hee
 generalize hv9 : q.takeWhile (· ≠ 47) = v at *
 have hvt : q.take v.length = v := by rw [← hv9]; exact tw_take q
 have hta := tk_app (s := v) hbt (by omega)
 refine GC.reg ?_
 refine G.m1 ?_
 refine G.m1 ?_
 refine G.m1 ?_
 refine G.v (V.slH (j := v.length) Tryd.underlying9 rfl rfl htl) rfl ?_
 rw [hvt]
 refine G.appS (i := 1) (l := bl) (ie := Tryd.t5) Tryd.underlying44 Tryd.underlying9 rfl rfl rfl rfl (.s .z) (by omega) (by omega) rfl ?_
 refine G.m2 ?_
 refine G.nil ?_
 refine GC.turn (H' := (⟨qb, true, .row (rbR rb) 98 (0, 0)⟩ :: ⟨bb, true, .row (bC (bl.take cu.length ++ v ++ bl.drop (cu.length + v.length))) 5 (0, 0)⟩ :: Ht)) (fun w1 h1 => h1) ?_
 refine GC.seq ?_
 refine GC.seq ?_
 refine GC.reg ?_
 refine G.m1 ?_
 refine G.m1 ?_
 refine G.v (V.lenS Tryd.underlying9 rfl) rfl ?_
 refine G.v (V.lt rfl rfl) rfl ?_
 refine G.nil ?_
 refine GC.condD rfl (fun h491 => ?_) (fun h491 => ?_)
 ·refine GC.seq ?_
  refine GC.seq ?_
  refine GC.reg ?_
  refine G.m1 ?_
  refine G.v (V.nc rfl) rfl ?_
  refine G.v (V.fa F94_5 rfl) rfl ?_
  refine G.v (V.ld (b := kb) (off := 0 + 5) (wf := true) (l := nodeR kpath kidx kwild knt kpr (.slice kad kkids.length kcap) (.slice kad2 kl2 kc2) kfull) (T := 94) (fz := (0, 0)) (v := (.slice kad kkids.length kcap)) Tryd.isAgg90 rfl (m2 km) rfl) rfl ?_
  refine G.v (V.lenL Tryd.underlying90 rfl) rfl ?_
  refine G.v (V.gt rfl rfl) rfl ?_
  refine G.nil ?_
  refine GC.condD rfl (fun h497 => ?_) (fun h497 => ?_)
  ·refine GC.seq ?_
   cases kkids with
   | nil => exact absurd h497 (by simp)
   | cons c0 cr => 
   obtain ⟨cb, hcb⟩ : ∃ cb, kbs[0]? = some cb := ⟨_, List.getElem?_eq_getElem (by rw [kbl]; simp)⟩
   have hrc := kk 0 _ cb rfl hcb
   obtain ⟨rc0, ccap2, cspare, ce1, rfl⟩ := ks.at (i := 0) (by simp)
   cases ce1
   have hrcm := ksm _ (.head _)
   obtain ⟨cl, hcm⟩ := hrc.has
   refine GC.reg ?_
   refine G.m1 ?_
   refine G.v (V.nc rfl) rfl ?_
   refine G.v (V.fa F94_5 rfl) rfl ?_
   refine G.v (V.ld (b := kb) (off := 0 + 5) (wf := true) (l := nodeR kpath kidx kwild knt kpr (.slice (some ⟨rc0, 0, none⟩) (c0 :: cr).length kcap) (.slice kad2 kl2 kc2) kfull) (T := 94) (fz := (0, 0)) (v := (.slice (some ⟨rc0, 0, none⟩) (c0 :: cr).length kcap)) Tryd.isAgg90 rfl (m2 km) rfl) rfl ?_
   refine G.v (V.ia (i := 0) Tryd.underlying90 Tryd.sizeOf83 rfl rfl (by simp)) rfl ?_
   refine G.v (V.ld (b := rc0) (off := 0 + 0 * 1) (wf := true) (l := kbs.map (Pt · 0) ++ cspare) (T := 83) (fz := (0, 0)) (v := Pt cb 0) Tryd.isAgg83 rfl (m2 hrcm) (by rw [nth_eq, Nat.zero_add, Nat.mul_one, List.getElem?_append_left (by rw [List.length_map, kbl]; simp), List.getElem?_map, hcb]; rfl)) rfl ?_
   refine G.m2 ?_
   refine G.nil ?_
   refine GC.seq ?_
   refine GC.reg ?_
   refine G.m1 ?_
   refine G.v (V.nc rfl) rfl ?_
   refine G.v (V.fa F94_0 rfl) rfl ?_
   refine G.v (V.ld (b := cb) (off := 0 + 0) (wf := true) (l := cl) (T := 94) (fz := (0, 0)) (v := S c0.path) Tryd.isAgg9 rfl (m2 hcm.1) hcm.2) rfl ?_
   refine G.v (V.lenS Tryd.underlying9 rfl) rfl ?_
   refine G.m2 ?_
   refine G.nil ?_
   refine GC.seq ?_
   refine GC.reg ?_
   refine G.m1 ?_
   refine G.m1 ?_
   refine G.v (V.slL (i := v.length) Tryd.underlying9 rfl rfl (by omega)) rfl ?_
   refine G.m2 ?_
   refine G.nil ?_
   refine GC.exit rfl ?_
   refine GC.inLoop ?_
   exact deep c0 cr (by omega) rfl cb _ _ hrc (hta.1.trans hbl) hta.2 (by rw [List.length_append]; exact .of rfl)
  refine GC.skip ?_
  refine GC.seq ?_
  refine GC.seq ?_
  refine GC.reg ?_
  refine G.m1 ?_
  refine G.m1 ?_
  refine G.bc 513 rfl (fun h513 => ?_) (fun h513 => ?_)
  ·exact absurd h513 (by decide)
  ·refine G.s1 ?_
   refine G.s1 ?_
   refine G.s1 ?_
   refine G.s1 ?_
   refine G.s1 ?_
   refine G.m4 ?_
   refine G.nil ?_
   refine GC.condF rfl ?_
   refine GC.skip ?_
   refine GC.seq ?_
   refine GC.reg ?_
   refine G.m2 ?_
   refine G.nil ?_
   cases kkids with
   | cons c0 cr => exact absurd (by rw [List.length_cons]; omega) h497
   | nil => exact GC.ret1 rfl rfl fun w' hw' => dead (by omega) rfl _ w' (hta.1.trans hbl) (tk_pre hta.2 (hc0.trans (List.prefix_append _ _))) (hw'.sub (List.sublist_cons_self _ _))
 refine GC.skip ?_
 refine GC.seq ?_
 refine GC.seq ?_
 refine GC.reg ?_
 refine G.m1 ?_
 refine G.v (V.nc rfl) rfl ?_
 refine G.v (V.fa F94_6 rfl) rfl ?_
 refine G.v (V.ld (b := kb) (off := 0 + 6) (wf := true) (l := nodeR kpath kidx kwild knt kpr (.slice kad kkids.length kcap) (.slice kad2 kl2 kc2) kfull) (T := 94) (fz := (0, 0)) (v := (.slice kad2 kl2 kc2)) Tryd.isAgg92 rfl (m2 km) rfl) rfl ?_
 refine G.v (V.neL Tryd.underlying92 rfl) rfl ?_
 refine G.nil ?_
 refine GC.cond rfl (fun h525 => ?_) (fun h525 => ?_)
 ·refine GC.seq ?_
  refine GC.reg ?_
  refine G.m1 ?_
  refine G.m2 ?_
  refine G.nil ?_
  have hhs : kh.isSome = true := by
   cases kh with
   | none => rw [khnn] at h525; exact absurd h525 (by decide)
   | some k => rfl
  have hcl : (cu ++ v).length = cu.length + v.length := List.length_append
  refine GC.ret1 rfl rfl fun w' hw' => ?_
  have this : R (.returned (.slice (some ⟨bb, 0, none⟩) (cu ++ v).length cp)) w' := leaf1 (by omega) hhs _ w' (hta.1.trans hbl) hta.2 (hw'.sub (List.sublist_cons_self _ _))
  rw [hcl] at this
  exact this
 refine GC.skip ?_
 refine GC.seq ?_
 refine GC.seq ?_
 refine GC.reg ?_
 refine G.m1 ?_
 refine G.m1 ?_
 refine G.bc 528 rfl (fun h528 => ?_) (fun h528 => ?_)
 ·exact absurd h528 (by decide)
 ·refine G.s1 ?_
  refine G.s1 ?_
  refine G.s1 ?_
  refine G.s1 ?_
  refine G.s1 ?_
  refine G.s1 ?_
  refine G.m4 ?_
  refine G.nil ?_
  refine GC.condF rfl ?_
  refine GC.skip ?_
  refine GC.seq ?_
  refine GC.reg ?_
  refine G.m2 ?_
  refine G.nil ?_
  have hhs : kh.isSome = false := by
   cases kh with
   | none => rfl
   | some k => rw [khnn] at h525; exact absurd h525 (by simp)
  exact GC.ret1 rfl rfl fun w' hw' => leaf0 (by omega) hhs _ w' (hta.1.trans hbl) (tk_pre hta.2 (hc0.trans (List.prefix_append _ _))) (hw'.sub (List.sublist_cons_self _ _))
theorem g59_A {R : Ending → World → Prop} {w : World} {D : Nat → Prop} {qb bb cp : Nat} {Ht : SH} {c0 : List UInt8} {n : T0} {p cu bl : List UInt8} {rb : UInt8} {nb : Nat} {fr : SF}
  (hn : Rd Ht n nb) (hbl : bl.length = cp) (hbt : bl.take cu.length = cu) (_hpa : ∀ x ∈ p, x.toNat < 128) (hpl : p.length ≤ 100000) (hLp : n.path.length ≤ p.length) (hnL : Lk n) (_hc0 : c0 <+: cu) (_hHw : ∀ e ∈ Ht, e.w = true) (hsub : Sub [(0, Pt nb 0), (1, S (p.drop n.path.length)), (2, .slice (some ⟨bb, 0, none⟩) cu.length cp), (4, .bool false), (8, Pt qb 0), (11, I (n.path.length : Nat)), (12, S p)] fr) {k : T0} (hkid : n.kids[n.kids.length - 1]? = some k) (hroom : cu.length + (p.drop n.path.length).length + 1 ≤ cp) (hk2 : k.nt = 3)
  (fin : Fin59 R w D bb cp Ht c0 (some (cu ++ (p.drop n.path.length)))) :
  GC Tryd.prog ⟨59, Tryd.f59, R, w, D⟩ 606 K59v fr (⟨qb, true, .row (rbR rb) 98 (0, 0)⟩ :: ⟨bb, true, .row (bC bl) 5 (0, 0)⟩ :: Ht) := by
 refine GC.weak hsub ?_
 clear hsub
 have hn0 := hn
 cases hn with
 | @mk path idx wild nt pr h full kids _ bs kv hv Hs hm hs hsm hbl2 hh hk =>
 try simp only [n_path] at *
 try simp only [n_idx] at *
 try simp only [n_kids] at *
 try simp only [n_wild] at *
 try simp only [n_h] at *
 have hil : idx.length ≤ 100000 := hnL.1
 have hkil : kids.length ≤ 100000 := hnL.2.1
 obtain ⟨ad, cap, rfl⟩ := hs.slice
 obtain ⟨ad2, l2, c2, rfl, hnn⟩ := hh.slice
 generalize hqd : p.drop path.length = q at *
 have hkl := (List.getElem?_eq_some_iff.1 hkid).1
 obtain ⟨kb, hkb⟩ : ∃ kb, bs[kids.length - 1]? = some kb := ⟨_, List.getElem?_eq_getElem (by omega)⟩
 have hrk := hk (kids.length - 1) k kb hkid hkb
 obtain ⟨rw0, cap2, spare, e1, rfl⟩ := hs.at hkl
 cases e1
 have hrbm := hsm _ (.head _)
 clear hs
 cases hrk with
 | @mk kpath kidx kwild knt kpr kh kfull kkids _ kbs kkv khv kHs km ks ksm kbl khh kk =>
 try simp only [n_nt] at *
 try simp only [n_kids] at *
 try simp only [n_h] at *
 obtain ⟨kad, kcap, rfl⟩ := ks.slice
 obtain ⟨kad2, kl2, kc2, rfl, khnn⟩ := khh.slice
 have hql : q.length ≤ 100000 := by rw [← hqd, List.length_drop]; omega
 have hta := tk_app (s := q) hbt (by omega)
 refine GC.seq ?_
 refine GC.regQ mixed (by kernel_rfl) ?_
 refine GQ.v (V.mv rfl) rfl ?_
 refine GQ.v (V.nc rfl) rfl ?_
 refine GQ.v (V.fa F94_5 rfl) rfl ?_
 refine GQ.v (V.ld (b := nb) (off := 0 + 5) (wf := true) (l := nodeR path idx wild nt pr (.slice (some ⟨rw0, 0, none⟩) kids.length cap) (.slice ad2 l2 c2) full) (T := 94) (fz := (0, 0)) (v := (.slice (some ⟨rw0, 0, none⟩) kids.length cap)) Tryd.isAgg90 rfl (m2 hm) rfl) rfl ?_
 refine GQ.v (V.mv rfl) rfl ?_
 refine GQ.v (V.nc rfl) rfl ?_
 refine GQ.v (V.fa F94_5 rfl) rfl ?_
 refine GQ.v (V.ld (b := nb) (off := 0 + 5) (wf := true) (l := nodeR path idx wild nt pr (.slice (some ⟨rw0, 0, none⟩) kids.length cap) (.slice ad2 l2 c2) full) (T := 94) (fz := (0, 0)) (v := (.slice (some ⟨rw0, 0, none⟩) kids.length cap)) Tryd.isAgg90 rfl (m2 hm) rfl) rfl ?_
 refine GQ.v (V.lenL Tryd.underlying90 rfl) rfl ?_
 refine GQ.v (V.subI (r := ((kids.length - 1 : Nat) : Int)) rfl rfl (by omega) (by omega) (by omega)) rfl ?_
 refine GQ.v (V.ia (i := kids.length - 1) Tryd.underlying90 Tryd.sizeOf83 rfl rfl hkl) rfl ?_
 refine GQ.v (V.ld (b := rw0) (off := 0 + (kids.length - 1) * 1) (wf := true) (l := bs.map (Pt · 0) ++ spare) (T := 83) (fz := (0, 0)) (v := Pt kb 0) Tryd.isAgg83 rfl (m2 hrbm) (by rw [nth_eq, Nat.zero_add, Nat.mul_one, List.getElem?_append_left (by rw [List.length_map]; omega), List.getElem?_map, hkb]; rfl)) rfl ?_
 refine GQ.v (V.asg rfl) rfl ?_
 refine GQ.nil ?_
 refine GC.seq ?_
 refine GC.reg ?_
 refine G.m1 ?_
 refine G.v (V.nc rfl) rfl ?_
 refine G.v (V.fa F94_3 rfl) rfl ?_
 refine G.v (V.ld (b := kb) (off := 0 + 3) (wf := true) (l := nodeR kpath kidx kwild knt kpr (.slice kad kkids.length kcap) (.slice kad2 kl2 kc2) kfull) (T := 94) (fz := (0, 0)) (v := .int .u8 (knt : Int)) Tryd.isAgg88 rfl (m2 km) rfl) rfl ?_
 refine G.nil ?_
 refine GC.block ?_
 refine GC.seq ?_
 refine GC.reg ?_
 refine G.v (V.eqI rfl rfl) rfl ?_
 refine G.m2 ?_
 refine G.nil ?_
 refine GC.condD rfl (fun h469 => absurd h469 (by rw [hk2]; decide)) (fun h469 => ?_)
 refine GC.seq ?_
 refine GC.reg ?_
 refine G.v (V.eqI rfl rfl) rfl ?_
 refine G.m2 ?_
 refine G.nil ?_
 refine GC.condD rfl (fun h557 => ?_) (fun h557 => absurd (by rw [hk2]; rfl) h557)
 refine GC.seq ?_
 refine GC.reg ?_
 refine G.m1 ?_
 refine G.m1 ?_
 refine G.appS (i := 1) (l := bl) (ie := Tryd.t5) Tryd.underlying44 Tryd.underlying9 rfl rfl rfl rfl (.s .z) (by omega) (by omega) rfl ?_
 refine G.m2 ?_
 refine G.nil ?_
 have hcl : (cu ++ q).length = cu.length + q.length := List.length_append
 refine GC.ret1 rfl rfl fun w' hw' => ?_
 have this : R (.returned (.slice (some ⟨bb, 0, none⟩) (cu ++ q).length cp)) w' := fin _ w' (hta.1.trans hbl) hta.2 (hw'.sub (List.sublist_cons_self _ _))
 rw [hcl] at this
 exact this
end Go.Proofs
