/- The function that looks for a path: its head, and its pieces. -/
import Derived.Test.YtnopecnbpflodaaEc
import Derived.Test.YtnopecnbpflodaaKa
/- getValue: what its memory holds. -/
set_option maxRecDepth 20000
namespace Go.Proofs
open Go Bw Gt
/-- handlers as a value; their row lies in Ht -/
def HVX (Ht : SH) (h : Option Nat) (hv : Value) : Prop := (h = none ∧ hv = .slice none 0 0) ∨ ∃ k hb, h = some k ∧ hv = .slice (some ⟨hb, 0, none⟩) 1 1 ∧ (⟨hb, true, .row [I (k : Int)] 3 (0, 0)⟩ : Ent) ∈ Ht
/-- a tree that can be read; copies of nodes lie in Cs -/
inductive Rd (Ht Cs : SH) : T0 → Nat → Prop
 | mk {path idx : List UInt8} {wild : Bool} {nt pr : Nat} {h : Option Nat} {full : List UInt8} {kids : List T0} {nb : Nat} {bs : List Nat} {kv hv : Value} {Hs : SH}
   (hm : (⟨nb, true, .row (nodeR path idx wild nt pr kv hv full) 107 (0, 0)⟩ : Ent) ∈ Cs ++ Ht) (hs : Own 89 1 kv kids.length (bs.map (Pt · 0)) Hs) (hsm : ∀ e ∈ Hs, e ∈ Ht) (hbl : bs.length = kids.length) (hh : HVX Ht h hv)
   (hk : ∀ (j : Nat) k b, kids[j]? = some k → bs[j]? = some b → Rd Ht Cs k b) : Rd Ht Cs (.node () path idx wild nt pr h full kids) nb
theorem HV.x {Ht h v H} (x : HV h v H) (hs : ∀ e ∈ H, e ∈ Ht) : HVX Ht h v := by
 cases x with
 | nil => exact .inl ⟨rfl, rfl⟩
 | row => exact .inr ⟨_, _, rfl, rfl, hs _ (.head _)⟩
theorem HT.rd {t b H} (x : HT t b H) : ∀ {Ht : SH} (Cs : SH), (∀ e ∈ H, e ∈ Ht) → Rd Ht Cs t b := by
 refine HT.rec (motive_1 := fun t b H _ => ∀ {Ht : SH} (Cs : SH), (∀ e ∈ H, e ∈ Ht) → Rd Ht Cs t b) (motive_2 := fun ts bs H _ => ∀ {Ht : SH} (Cs : SH), (∀ e ∈ H, e ∈ Ht) → ∀ (j : Nat) k b, ts[j]? = some k → bs[j]? = some b → Rd Ht Cs k b) ?_ ?_ ?_ x
 ·intro path idx wild nt pr h full kids nb bs kv hv Hs Hh Hk hs hh hk ih Ht Cs hsub
  exact .mk (List.mem_append_right _ (hsub _ (.head _))) hs (fun e he => hsub e (.tail _ (List.mem_append_left _ he))) hk.len (hh.x fun e he => hsub e (.tail _ (List.mem_append_right _ (List.mem_append_left _ he))))
   (ih Cs fun e he => hsub e (.tail _ (List.mem_append_right _ (List.mem_append_right _ he))))
 ·intro Ht Cs _ j k b hj
  simp at hj
 ·intro t b H ts bs Hs h hs ih1 ih2 Ht Cs hsub j k b2 hj hb
  cases j with
  | zero => simp at hj hb; subst hj hb; exact ih1 Cs fun e he => hsub e (List.mem_append_left _ he)
  | succ j => exact ih2 Cs (fun e he => hsub e (List.mem_append_right _ he)) j k b2 (by simpa using hj) (by simpa using hb)
theorem Rd.more {Ht Cs t b} (x : Rd Ht Cs t b) {C : SH} : Rd Ht (C ++ Cs) t b := by
 induction x with
 | mk hm hs hsm hbl hh hk ih => exact .mk (by rw [List.append_assoc]; exact List.mem_append_right _ hm) hs hsm hbl hh ih
theorem Rd.cons {Ht Cs t b} (x : Rd Ht Cs t b) {e : Ent} : Rd Ht (e :: Cs) t b := x.more (C := [e])
/-- parameters, their cells -/
def flatP : List (List UInt8 × List UInt8) → List Value
 | [] => []
 | (k, v) :: l => S k :: S v :: flatP l
theorem flatP_len : ∀ l, (flatP l).length = 2 * l.length
 | [] => rfl
 | (k, v) :: l => by simp [flatP, flatP_len l]; omega
theorem flatP_app : ∀ a b, flatP (a ++ b) = flatP a ++ flatP b
 | [], b => rfl
 | (k, v) :: a, b => by simp [flatP, flatP_app a b]
theorem flatP_take : ∀ (l : List (List UInt8 × List UInt8)) (n : Nat), (flatP l).take (2 * n) = flatP (l.take n)
 | [], n => by simp [flatP]
 | (k, v) :: l, 0 => by simp [flatP]
 | (k, v) :: l, n + 1 => by
  have : 2 * (n + 1) = 2 * n + 1 + 1 := by omega
  rw [this]
  simp [flatP, flatP_take l n]
/-- the skipped ones in their row, the first one first -/
def SkRow (Ht Cs : SH) (srow : List Value) (sk : List Sk) : Prop := ∀ (i : Nat) s, sk.reverse[i]? = some s → ∃ b, (srow.drop (3 * i)).take 3 = [S s.path, Pt b 0, .int .i16 (s.cnt : Int)] ∧ Rd Ht Cs s.node b
theorem SkRow.cons {Ht Cs srow sk} (h : SkRow Ht Cs srow sk) {e : Ent} : SkRow Ht (e :: Cs) srow sk := fun i s hi => by
 obtain ⟨b, h1, h2⟩ := h i s hi
 exact ⟨b, h1, h2.cons⟩
theorem SkRow.top {Ht Cs srow s sk} (h : SkRow Ht Cs srow (s :: sk)) : ∃ b, (srow.drop (3 * sk.length)).take 3 = [S s.path, Pt b 0, .int .i16 (s.cnt : Int)] ∧ Rd Ht Cs s.node b := h sk.length s (by simp)
theorem SkRow.pop {Ht Cs srow s sk} (h : SkRow Ht Cs srow (s :: sk)) : SkRow Ht Cs srow sk := fun i x hi => h i x (by
 have hl := (List.getElem?_eq_some_iff.1 hi).1
 rw [List.reverse_cons, List.getElem?_append_left hl]; exact hi)
theorem setR_drop {l : List Value} {off i : Nat} {cs : List Value} (hoff : i + 3 ≤ off) (hl : off ≤ l.length) : ((setR l off cs).drop i).take 3 = (l.drop i).take 3 := by
 unfold setR
 rw [List.append_assoc, List.drop_append, List.take_append]
 have h1 : (l.take off).length = off := by simp; omega
 simp only [h1, List.length_drop]
 have h2 : 3 - (off - i) = 0 := by omega
 rw [h2, List.take_zero, List.append_nil, List.drop_take, List.take_take, Nat.min_eq_left (by omega)]
theorem setR_at {l : List Value} {off : Nat} {cs : List Value} (hl : off ≤ l.length) : ((setR l off cs).drop off).take cs.length = cs := by
 unfold setR
 have h1 : (l.take off).length = off := by simp; omega
 rw [List.append_assoc, List.drop_append, List.drop_of_length_le (by omega), h1, Nat.sub_self]
 simp
theorem setR_take {l : List Value} {off : Nat} {cs : List Value} (hl : off ≤ l.length) : (setR l off cs).take (off + cs.length) = l.take off ++ cs := by
 unfold setR
 have h1 : (l.take off ++ cs).length = off + cs.length := by simp; omega
 rw [List.take_append_of_le_length (by omega), List.take_of_length_le (by omega)]
theorem SkRow.push {Ht Cs srow sk} (h : SkRow Ht Cs srow sk) {s : Sk} {b cS : Nat} (hl : srow.length = 3 * cS) (hsk : sk.length < cS) (hb : Rd Ht Cs s.node b) : SkRow Ht Cs (setR srow (3 * sk.length) [S s.path, Pt b 0, .int .i16 (s.cnt : Int)]) (s :: sk) := fun i x hi => by
 rw [List.reverse_cons] at hi
 rcases Nat.lt_or_ge i sk.length with h2 | h2
 ·rw [List.getElem?_append_left (by simpa using h2)] at hi
  obtain ⟨b2, h3, h4⟩ := h i x hi
  exact ⟨b2, by rw [setR_drop (by omega) (by omega)]; exact h3, h4⟩
 ·have hlt := (List.getElem?_eq_some_iff.1 hi).1
  simp at hlt
  have : i = sk.length := by omega
  subst this
  rw [List.getElem?_append_right (by simp)] at hi
  simp at hi
  subst hi
  exact ⟨b, setR_at (cs := [_, _, _]) (by omega), hb⟩
def pV (pb : Nat) (has : Bool) : Value := if has then Pt pb 0 else Nil
theorem pV_one (pb : Nat) (has : Bool) : (pV pb has).oneCell' = true := by cases has <;> rfl
/-- the loop of getValue -/
noncomputable def K76 : List Item := (splitLoop ((Try.f76.body).getD .skip) []).getD []
/-- the loop at a place, told -/
def Lp (R : Ending → World → Prop) (w : World) (D : Nat → Prop) (vb pb prb qb srb cP cS : Nat) (un : Bool) (Ht : SH) (n : T0) (p : List UInt8) (ps : List (List UInt8 × List UInt8)) (sk : List Sk) : Prop :=
 ∀ (nb : Nat) (has : Bool) (prow srow : List Value) (Cs : SH) (fr : SF), Rd Ht Cs n nb → prow.length = 2 * cP → prow.take (2 * ps.length) = flatP ps → srow.length = 3 * cS → SkRow Ht Cs srow sk → (has = false → ps = []) →
  Sub [(0, Pt nb 0), (1, S p), (2, Pt pb 0), (3, Pt qb 0), (4, .bool un), (10, Pt vb 0), (11, .int .i16 (ps.length : Int))] fr →
  GC Try.prog ⟨76, Try.f76, R, w, D⟩ 703 K76 fr (⟨vb, true, .row [.slice none 0 0, pV pb has, .bool false, S []] 114 (0, 0)⟩ :: ⟨pb, true, .row [.slice (some ⟨prb, 0, none⟩) ps.length cP] 96 (0, 0)⟩ :: ⟨prb, true, .row prow 100 (0, 0)⟩ :: ⟨qb, true, .row [.slice (some ⟨srb, 0, none⟩) sk.length cS] 111 (0, 0)⟩ :: ⟨srb, true, .row srow 126 (0, 0)⟩ :: (Cs ++ Ht))
/-- what is told of an end -/
def Fin76 (R : Ending → World → Prop) (w : World) (D : Nat → Prop) (pb prb cP : Nat) (Ht : SH) (r : Res) : Prop :=
 ∀ (has : Bool) (prow : List Value) (hv : Value) (w' : World), prow.length = 2 * cP → prow.take (2 * r.ps.length) = flatP r.ps → (has = false → r.ps = []) → HVX Ht r.h hv →
  HF w D (⟨pb, true, .row [.slice (some ⟨prb, 0, none⟩) r.ps.length cP] 96 (0, 0)⟩ :: ⟨prb, true, .row prow 100 (0, 0)⟩ :: Ht) w' → R (.returned (.agg #[hv, pV pb has, .bool r.tsr, S r.full])) w'
end Go.Proofs

/- getValue: the head of its loop, the way down by an index. Printed by wip/mk_gg2.py. -/
set_option maxRecDepth 20000
namespace Go.Proofs
open Go Bw
open Gt
def blk1 : List Item → List Item
 | .code (.block id (.seq _ (.seq (.seq _ (.cond _ (.seq _ (.cond _ (.seq _ (.seq _ t)) _)) _)) r))) :: k => .code t :: .code r :: .inBlock id :: k
 | k => k
/-- behind the prefix: ahead of the search -/
noncomputable def K76a : List Item := blk1 K76
def mid7 : List Item → List Item
 | .code (.seq _ b) :: k => .code b :: k
 | k => k
/-- behind the search: nothing was found -/
noncomputable def K76n : List Item := mid7 K76a
def blk2 : List Item → List Item
 | .code (.block id (.seq _ (.seq _ (.seq (.seq _ (.cond _ t _)) r)))) :: k => .code t :: .code r :: .inBlock id :: k
 | k => k
/-- the path is the node's -/
noncomputable def K76e : List Item := blk2 K76
def blk3 : List Item → List Item
 | .code (.block id (.seq _ (.seq _ (.seq _ r)))) :: k => .code r :: .inBlock id :: k
 | k => k
/-- the path is another one -/
noncomputable def K76m : List Item := blk3 K76
theorem g76_head {R : Ending → World → Prop} {w : World} {D : Nat → Prop} {vb pb prb qb srb cP cS : Nat} {un : Bool} {Ht : SH} {n : T0} {p : List UInt8} {ps : List (List UInt8 × List UInt8)} {sk : List Sk} {nb : Nat} {has : Bool} {prow srow : List Value} {Cs : SH} {fr : SF}
  (hn : Rd Ht Cs n nb) (_hpr : prow.length = 2 * cP) (_hprt : prow.take (2 * ps.length) = flatP ps) (_hsr : srow.length = 3 * cS) (_hsk : SkRow Ht Cs srow sk) (_hhas : has = false → ps = []) (_hpl : p.length ≤ 100000) (_hpc : ps.length ≤ cP) (_hcP : cP ≤ 20000) (_hsc : sk.length ≤ cS) (_hcS : cS ≤ 20000) (hsub : Sub [(0, Pt nb 0), (1, S p), (2, Pt pb 0), (3, Pt qb 0), (4, .bool un), (10, Pt vb 0), (11, .int .i16 (ps.length : Int))] fr)
  (ga : n.path.length < p.length → p.take n.path.length = n.path → ∀ c fr', (p.drop n.path.length)[0]? = some c → Sub [(0, Pt nb 0), (1, S (p.drop n.path.length)), (2, Pt pb 0), (3, Pt qb 0), (4, .bool un), (10, Pt vb 0), (11, .int .i16 (ps.length : Int)), (12, S n.path), (13, .int .u8 (c.toNat : Int))] fr' → GC Try.prog ⟨76, Try.f76, R, w, D⟩ 703 K76a fr' (⟨vb, true, .row [(.slice none 0 0), (pV pb has), .bool false, (S [])] 114 (0, 0)⟩ :: ⟨pb, true, .row [.slice (some ⟨prb, 0, none⟩) ps.length cP] 96 (0, 0)⟩ :: ⟨prb, true, .row prow 100 (0, 0)⟩ :: ⟨qb, true, .row [.slice (some ⟨srb, 0, none⟩) sk.length cS] 111 (0, 0)⟩ :: ⟨srb, true, .row srow 126 (0, 0)⟩ :: (Cs ++ Ht)))
  (ge : p = n.path → ∀ fr', Sub [(0, Pt nb 0), (1, S p), (2, Pt pb 0), (3, Pt qb 0), (4, .bool un), (10, Pt vb 0), (11, .int .i16 (ps.length : Int)), (12, S n.path)] fr' → GC Try.prog ⟨76, Try.f76, R, w, D⟩ 703 K76e fr' (⟨vb, true, .row [(.slice none 0 0), (pV pb has), .bool false, (S [])] 114 (0, 0)⟩ :: ⟨pb, true, .row [.slice (some ⟨prb, 0, none⟩) ps.length cP] 96 (0, 0)⟩ :: ⟨prb, true, .row prow 100 (0, 0)⟩ :: ⟨qb, true, .row [.slice (some ⟨srb, 0, none⟩) sk.length cS] 111 (0, 0)⟩ :: ⟨srb, true, .row srow 126 (0, 0)⟩ :: (Cs ++ Ht)))
  (gm : ¬ (n.path.length < p.length ∧ p.take n.path.length = n.path) → p ≠ n.path → ∀ fr', Sub [(0, Pt nb 0), (1, S p), (2, Pt pb 0), (3, Pt qb 0), (4, .bool un), (10, Pt vb 0), (11, .int .i16 (ps.length : Int)), (12, S n.path)] fr' → GC Try.prog ⟨76, Try.f76, R, w, D⟩ 703 K76m fr' (⟨vb, true, .row [(.slice none 0 0), (pV pb has), .bool false, (S [])] 114 (0, 0)⟩ :: ⟨pb, true, .row [.slice (some ⟨prb, 0, none⟩) ps.length cP] 96 (0, 0)⟩ :: ⟨prb, true, .row prow 100 (0, 0)⟩ :: ⟨qb, true, .row [.slice (some ⟨srb, 0, none⟩) sk.length cS] 111 (0, 0)⟩ :: ⟨srb, true, .row srow 126 (0, 0)⟩ :: (Cs ++ Ht))) :
  GC Try.prog ⟨76, Try.f76, R, w, D⟩ 703 K76 fr (⟨vb, true, .row [(.slice none 0 0), (pV pb has), .bool false, (S [])] 114 (0, 0)⟩ :: ⟨pb, true, .row [.slice (some ⟨prb, 0, none⟩) ps.length cP] 96 (0, 0)⟩ :: ⟨prb, true, .row prow 100 (0, 0)⟩ :: ⟨qb, true, .row [.slice (some ⟨srb, 0, none⟩) sk.length cS] 111 (0, 0)⟩ :: ⟨srb, true, .row srow 126 (0, 0)⟩ :: (Cs ++ Ht)) := by
 refine GC.weak hsub ?_
 clear hsub
 cases hn with
 | @mk path idx wild nt pr h full kids _ bs kv hv Hs hm hs hsm hbl hh hk =>
 simp only [n_path] at *
 refine GC.block ?_
 refine GC.seq ?_
 refine GC.reg ?_
 refine G.m1 ?_
 refine G.v (V.nc rfl) rfl ?_
 refine G.v (V.fa F107_0 rfl) rfl ?_
 refine G.v (V.ld (b := nb) (off := 0 + 0) (wf := true) (l := nodeR path idx wild nt pr kv hv full) (T := 107) (fz := (0, 0)) (v := S path) Try.isAgg9 rfl (m5 hm) rfl) rfl ?_
 refine G.m2 ?_
 refine G.nil ?_
 refine GC.seq ?_
 refine GC.seq ?_
 refine GC.reg ?_
 refine G.m1 ?_
 refine G.v (V.lenS Try.underlying9 rfl) rfl ?_
 refine G.m1 ?_
 refine G.v (V.lenS Try.underlying9 rfl) rfl ?_
 refine G.v (V.gt rfl rfl) rfl ?_
 refine G.nil ?_
 refine GC.join (fun fr' H' => ¬ (path.length < p.length ∧ p.take path.length = path) ∧ Sub [(0, Pt nb 0), (1, S p), (2, Pt pb 0), (3, Pt qb 0), (4, .bool un), (10, Pt vb 0), (11, .int .i16 (ps.length : Int)), (12, S path)] fr' ∧ H' = (⟨vb, true, .row [(.slice none 0 0), (pV pb has), .bool false, (S [])] 114 (0, 0)⟩ :: ⟨pb, true, .row [.slice (some ⟨prb, 0, none⟩) ps.length cP] 96 (0, 0)⟩ :: ⟨prb, true, .row prow 100 (0, 0)⟩ :: ⟨qb, true, .row [.slice (some ⟨srb, 0, none⟩) sk.length cS] 111 (0, 0)⟩ :: ⟨srb, true, .row srow 126 (0, 0)⟩ :: (Cs ++ Ht))) (fun J44 => ?_) ?_
 ·refine GC.condD rfl (fun h44 => ?_) (fun h44 => ?_)
  ·refine GC.seq ?_
   refine GC.reg ?_
   refine G.m1 ?_
   refine G.m1 ?_
   refine G.v (V.lenS Try.underlying9 rfl) rfl ?_
   have hlt : path.length < p.length := by omega
   refine G.v (V.slH (j := path.length) Try.underlying9 rfl rfl (by omega)) rfl ?_
   refine G.m1 ?_
   refine G.v (V.eqS rfl rfl) rfl ?_
   refine G.nil ?_
   refine GC.condD rfl (fun h50 => ?_) (fun h50 => ?_)
   ·refine GC.seq ?_
    have htk : p.take path.length = path := h50
    refine GC.reg ?_
    refine G.m1 ?_
    refine G.m1 ?_
    refine G.v (V.lenS Try.underlying9 rfl) rfl ?_
    refine G.v (V.slL (i := path.length) Try.underlying9 rfl rfl (by omega)) rfl ?_
    refine G.m2 ?_
    refine G.nil ?_
    refine GC.seq ?_
    obtain ⟨c, hc⟩ : ∃ c, (p.drop path.length)[0]? = some c := ⟨_, List.getElem?_eq_getElem (by rw [List.length_drop]; omega)⟩
    refine GC.reg ?_
    refine G.m1 ?_
    refine G.v (V.idx (i := 0) (b := c) Try.underlying9 rfl rfl hc) rfl ?_
    refine G.m2 ?_
    refine G.nil ?_
    exact ga hlt htk c _ hc (.of rfl)
   refine GC.skip ?_
   exact J44 _ _ ⟨fun h => h50 h.2, .of rfl, rfl⟩
  refine GC.skip ?_
  exact J44 _ _ ⟨fun h => h44 (by omega), .of rfl, rfl⟩
 rintro fr' H' ⟨hnot, hs44, rfl⟩
 refine GC.weak hs44 ?_
 clear hs44
 refine GC.seq ?_
 refine GC.seq ?_
 refine GC.reg ?_
 refine G.m1 ?_
 refine G.m1 ?_
 refine G.v (V.eqS rfl rfl) rfl ?_
 refine G.nil ?_
 refine GC.condD rfl (fun h461 => ?_) (fun h461 => ?_)
 ·exact ge h461 _ (.of rfl)
 refine GC.skip ?_
 exact gm hnot h461 _ (.of rfl)
end Go.Proofs

/- getValue: the search for an index. Printed by wip/mk_gg3.py. -/
set_option maxRecDepth 20000
namespace Go.Proofs
open Go Bw
open Gt
theorem bd_cp (a f : List UInt8) (wl : Bool) (k1 k2 : Option Addr) (n1 c1 n2 c2 p nt : Nat) (w : World) : (Instr.build 107 #[(0, S a), (2, .bool wl), (3, .int .u8 (nt : Int)), (4, .int .u32 ((p % 4294967296 : Nat) : Int)), (5, .slice k1 n1 c1), (6, .slice k2 n2 c2), (7, S f)]).run Try.prog w = .ok (.agg (nodeR a [] wl nt p (.slice k1 n1 c1) (.slice k2 n2 c2) f).toArray) w := by
 simp [Instr.build, Try.zeroValue107, Try.runUnderlying107, Try.sizeOf9, Try.sizeOf4, Try.sizeOf103, Try.sizeOf104, Try.sizeOf105, Try.sizeOf94, cells_agg, Instr.fill, cells_str, cells_bool, cells_int, cells_sl, nodeR]
theorem bd_sk (a : List UInt8) (b c : Nat) (w : World) : (Instr.build 126 #[(0, S a), (1, Pt b 0), (2, .int .i16 (c : Int))]).run Try.prog w = .ok (.agg #[S a, Pt b 0, .int .i16 (c : Int)]) w := by
 simp [Instr.build, Try.zeroValue126, Try.runUnderlying126, Try.sizeOf9, Try.sizeOf89, Try.sizeOf124, cells_agg, Instr.fill, cells_str, cells_ptr, cells_int]
theorem HVX.slice {Ht h v} (x : HVX Ht h v) : ∃ ad l c, v = .slice ad l c ∧ ad.isNone = h.isNone := by
 rcases x with ⟨rfl, rfl⟩ | ⟨k, hb, rfl, rfl, _⟩
 ·exact ⟨_, _, _, rfl, rfl⟩
 ·exact ⟨_, _, _, rfl, rfl⟩
theorem g76_idx {R : Ending → World → Prop} {w : World} {D : Nat → Prop} {vb pb prb qb srb cP cS : Nat} {un : Bool} {Ht : SH} {n : T0} {p : List UInt8} {ps : List (List UInt8 × List UInt8)} {sk : List Sk} {nb : Nat} {has : Bool} {prow srow : List Value} {Cs : SH} {fr : SF} {c : UInt8}
  (hn : Rd Ht Cs n nb) (hpr : prow.length = 2 * cP) (hprt : prow.take (2 * ps.length) = flatP ps) (hsr : srow.length = 3 * cS) (hsk : SkRow Ht Cs srow sk) (hhas : has = false → ps = []) (_hpl : p.length ≤ 100000) (_hpc : ps.length ≤ cP) (_hcP : cP ≤ 20000) (_hsc : sk.length ≤ cS) (_hcS : cS ≤ 20000) (hsub : Sub [(0, Pt nb 0), (1, S p), (2, Pt pb 0), (3, Pt qb 0), (4, .bool un), (10, Pt vb 0), (11, .int .i16 (ps.length : Int)), (12, S n.path), (13, .int .u8 (c.toNat : Int))] fr) (hil : n.idx.length ≤ 1000000) {i : Nat} {k : T0} (hj : idxOf c n.idx = some i) (hkid : n.kids[i]? = some k) (hw : n.wild = false)
  (go : Lp R w D vb pb prb qb srb cP cS un Ht k p ps sk) :
  GC Try.prog ⟨76, Try.f76, R, w, D⟩ 703 K76a fr (⟨vb, true, .row [(.slice none 0 0), (pV pb has), .bool false, (S [])] 114 (0, 0)⟩ :: ⟨pb, true, .row [.slice (some ⟨prb, 0, none⟩) ps.length cP] 96 (0, 0)⟩ :: ⟨prb, true, .row prow 100 (0, 0)⟩ :: ⟨qb, true, .row [.slice (some ⟨srb, 0, none⟩) sk.length cS] 111 (0, 0)⟩ :: ⟨srb, true, .row srow 126 (0, 0)⟩ :: (Cs ++ Ht)) := by
 refine GC.weak hsub ?_
 clear hsub
 have hn0 := hn
 cases hn with
 | @mk path idx wild nt pr h full kids _ bs kv hv Hs hm hs hsm hbl hh hk =>
 simp only [n_path, n_idx, n_kids, n_wild] at *
 obtain ⟨ad, cap, rfl⟩ := hs.slice
 obtain ⟨ad2, l2, c2, rfl, hnn⟩ := hh.slice
 obtain ⟨hjc, hjn⟩ := idxOf_some hj
 have hjl : i < idx.length := (List.getElem?_eq_some_iff.1 hjc).1
 refine GC.seq ?_
 refine GC.seq ?_
 refine GC.reg ?_
 refine G.m1 ?_
 refine G.v (V.nc rfl) rfl ?_
 refine G.v (V.fa F107_1 rfl) rfl ?_
 refine G.v (V.ld (b := nb) (off := 0 + 1) (wf := true) (l := nodeR path idx wild nt pr (.slice ad kids.length cap) (.slice ad2 l2 c2) full) (T := 107) (fz := (0, 0)) (v := S idx) Try.isAgg9 rfl (m5 hm) rfl) rfl ?_
 refine G.cvSB Try.underlying9 Try.underlying68 Try.underlying5 rfl rfl (fun tb cpp z fz hrb hcp => ?_)
 refine G.v (V.lenL Try.underlying68 rfl) rfl ?_
 refine G.m1 ?_
 refine G.nil ?_
 refine GC.block ?_
 refine GC.loopJ (fun N fr' H' => ∃ q, q + N = i ∧ Sub [(0, Pt nb 0), (1, S p), (2, Pt pb 0), (3, Pt qb 0), (4, .bool un), (10, Pt vb 0), (11, .int .i16 (ps.length : Int)), (12, S path), (13, .int .u8 (c.toNat : Int)), (61, .slice (some ⟨tb, 0, none⟩) idx.length cpp), (62, I (idx.length : Nat)), (63, I (q : Nat))] fr' ∧ H' = ⟨tb, true, .row (bC (idx ++ z)) 5 fz⟩ :: (⟨vb, true, .row [(.slice none 0 0), (pV pb has), .bool false, (S [])] 114 (0, 0)⟩ :: ⟨pb, true, .row [.slice (some ⟨prb, 0, none⟩) ps.length cP] 96 (0, 0)⟩ :: ⟨prb, true, .row prow 100 (0, 0)⟩ :: ⟨qb, true, .row [.slice (some ⟨srb, 0, none⟩) sk.length cS] 111 (0, 0)⟩ :: ⟨srb, true, .row srow 126 (0, 0)⟩ :: (Cs ++ Ht))) i
  ⟨0, by omega, .of rfl, rfl⟩ ?_
 rintro N fr' H' ⟨q, hq, hs2, rfl⟩ ih
 refine GC.weak hs2 ?_
 clear hs2
 refine GC.seq ?_
 refine GC.reg ?_
 refine G.v (V.lt rfl rfl) rfl ?_
 refine G.nil ?_
 refine GC.seq ?_
 refine GC.condD rfl (fun h64 => ?_) (fun h64 => absurd (by omega) h64)
 refine GC.skip ?_
 refine GC.seq ?_
 refine GC.block ?_
 refine GC.seq ?_
 have hql : q < idx.length := by omega
 obtain ⟨x, hx⟩ : ∃ x, idx[q]? = some x := ⟨_, List.getElem?_eq_getElem hql⟩
 refine GC.reg ?_
 refine G.m1 ?_
 refine G.v (V.ia (i := q) Try.underlying68 Try.sizeOf5 rfl rfl hql) rfl ?_
 refine G.v (V.ld (b := tb) (off := 0 + q * 1) (wf := true) (l := bC (idx ++ z)) (T := 5) (fz := fz) (v := .int .u8 (x.toNat : Int)) Try.isAgg5 rfl (.head _) (by rw [nth_eq, Nat.zero_add, Nat.mul_one, bC_app, List.getElem?_append_left (by rw [bC_len]; exact hql)]; simp [bC, Lib.byteCells, hx])) rfl ?_
 refine G.m2 ?_
 refine G.m2 ?_
 refine G.nil ?_
 refine GC.seq ?_
 refine GC.reg ?_
 refine G.m1 ?_
 refine G.m1 ?_
 refine G.v (V.eqI rfl rfl) rfl ?_
 refine G.nil ?_
 refine GC.condD rfl (fun h70 => ?_) (fun h70 => ?_)
 ·refine GC.seq ?_
  refine GC.seq ?_
  have hqj : q = i := by
   have hxc := UInt8.toNat_inj.1 (by have := h70; omega : x.toNat = c.toNat)
   rcases Nat.lt_or_ge q i with h | h
   ·exact absurd (by rw [hx, hxc]) (hjn q h)
   ·omega
  subst hqj
  have hkl := (List.getElem?_eq_some_iff.1 hkid).1
  obtain ⟨kb, hkb⟩ : ∃ kb, bs[q]? = some kb := ⟨_, List.getElem?_eq_getElem (by omega)⟩
  have hrk := hk q k kb hkid hkb
  obtain ⟨rb, cap2, spare, e1, rfl⟩ := hs.at hkl
  cases e1
  have hrbm := hsm _ (.head _)
  refine GC.reg ?_
  refine G.m1 ?_
  refine G.v (V.nc rfl) rfl ?_
  refine G.v (V.fa F107_2 rfl) rfl ?_
  refine G.v (V.ld (b := nb) (off := 0 + 2) (wf := true) (l := nodeR path idx wild nt pr (.slice (some ⟨rb, 0, none⟩) kids.length cap) (.slice ad2 l2 c2) full) (T := 107) (fz := (0, 0)) (v := .bool wild) Try.isAgg4 rfl (m6 hm) rfl) rfl ?_
  refine G.nil ?_
  refine GC.cond rfl (fun h74 => absurd h74 (by rw [hw]; decide)) (fun h74 => ?_)
  refine GC.skip ?_
  refine GC.seq ?_
  refine GC.reg ?_
  refine G.m1 ?_
  refine G.v (V.nc rfl) rfl ?_
  refine G.v (V.fa F107_5 rfl) rfl ?_
  refine G.v (V.ld (b := nb) (off := 0 + 5) (wf := true) (l := nodeR path idx wild nt pr (.slice (some ⟨rb, 0, none⟩) kids.length cap) (.slice ad2 l2 c2) full) (T := 107) (fz := (0, 0)) (v := (.slice (some ⟨rb, 0, none⟩) kids.length cap)) Try.isAgg105 rfl (m6 hm) rfl) rfl ?_
  refine G.m1 ?_
  refine G.v (V.ia (i := q) Try.underlying105 Try.sizeOf89 rfl rfl hkl) rfl ?_
  refine G.v (V.ld (b := rb) (off := 0 + q * 1) (wf := true) (l := bs.map (Pt · 0) ++ spare) (T := 89) (fz := (0, 0)) (v := Pt kb 0) Try.isAgg89 rfl (.tail _ (.tail _ (.tail _ (.tail _ (.tail _ (.tail _ ((List.mem_append_right _ hrbm)))))))) (by rw [nth_eq, Nat.zero_add, Nat.mul_one, List.getElem?_append_left (by rw [List.length_map]; omega), List.getElem?_map, hkb]; rfl)) rfl ?_
  refine G.m2 ?_
  refine G.nil ?_
  refine GC.exit rfl ?_
  refine GC.inLoop ?_
  refine GC.turn (H' := (⟨vb, true, .row [(.slice none 0 0), (pV pb has), .bool false, (S [])] 114 (0, 0)⟩ :: ⟨pb, true, .row [.slice (some ⟨prb, 0, none⟩) ps.length cP] 96 (0, 0)⟩ :: ⟨prb, true, .row prow 100 (0, 0)⟩ :: ⟨qb, true, .row [.slice (some ⟨srb, 0, none⟩) sk.length cS] 111 (0, 0)⟩ :: ⟨srb, true, .row srow 126 (0, 0)⟩ :: (Cs ++ Ht))) (fun w1 h1 => h1.sub (List.sublist_cons_self _ _)) ?_
  exact go kb has prow srow Cs _ hrk hpr hprt hsr hsk hhas (.of rfl)
 refine GC.skip ?_
 refine GC.inBlock ?_
 refine GC.reg ?_
 refine G.v (V.addI (r := ((q + 1 : Nat) : Int)) rfl rfl rfl (by omega) (by omega)) rfl ?_
 refine G.m1 ?_
 refine G.nil ?_
 have hxc : x ≠ c := fun e => h70 (by rw [e])
 have hqj : q ≠ i := fun e => hxc (by rw [e, hjc] at hx; exact (Option.some.inj hx).symm)
 exact ih (N - 1) _ _ (by omega) ⟨q + 1, by omega, .of rfl, rfl⟩
theorem g76_push {R : Ending → World → Prop} {w : World} {D : Nat → Prop} {vb pb prb qb srb cP cS : Nat} {un : Bool} {Ht : SH} {n : T0} {p : List UInt8} {ps : List (List UInt8 × List UInt8)} {sk : List Sk} {nb : Nat} {has : Bool} {prow srow : List Value} {Cs : SH} {fr : SF} {c : UInt8}
  (hn : Rd Ht Cs n nb) (hpr : prow.length = 2 * cP) (hprt : prow.take (2 * ps.length) = flatP ps) (hsr : srow.length = 3 * cS) (hsk : SkRow Ht Cs srow sk) (hhas : has = false → ps = []) (_hpl : p.length ≤ 100000) (_hpc : ps.length ≤ cP) (_hcP : cP ≤ 20000) (_hsc : sk.length ≤ cS) (hcS : cS ≤ 20000) (hsub : Sub [(0, Pt nb 0), (1, S p), (2, Pt pb 0), (3, Pt qb 0), (4, .bool un), (10, Pt vb 0), (11, .int .i16 (ps.length : Int)), (12, S n.path), (13, .int .u8 (c.toNat : Int))] fr) (hil : n.idx.length ≤ 1000000) {i : Nat} {k : T0} (hj : idxOf c n.idx = some i) (hkid : n.kids[i]? = some k) (hw : n.wild = true) (hroom : sk.length < cS) (hcl : (n.path ++ p).length ≤ 100000)
  (go : Lp R w D vb pb prb qb srb cP cS un Ht k p ps (⟨n.path ++ p, noIdx n, ps.length⟩ :: sk)) :
  GC Try.prog ⟨76, Try.f76, R, w, D⟩ 703 K76a fr (⟨vb, true, .row [(.slice none 0 0), (pV pb has), .bool false, (S [])] 114 (0, 0)⟩ :: ⟨pb, true, .row [.slice (some ⟨prb, 0, none⟩) ps.length cP] 96 (0, 0)⟩ :: ⟨prb, true, .row prow 100 (0, 0)⟩ :: ⟨qb, true, .row [.slice (some ⟨srb, 0, none⟩) sk.length cS] 111 (0, 0)⟩ :: ⟨srb, true, .row srow 126 (0, 0)⟩ :: (Cs ++ Ht)) := by
 refine GC.weak hsub ?_
 clear hsub
 have hn0 := hn
 cases hn with
 | @mk path idx wild nt pr h full kids _ bs kv hv Hs hm hs hsm hbl hh hk =>
 simp only [n_path, n_idx, n_kids, n_wild] at *
 obtain ⟨ad, cap, rfl⟩ := hs.slice
 obtain ⟨ad2, l2, c2, rfl, hnn⟩ := hh.slice
 obtain ⟨hjc, hjn⟩ := idxOf_some hj
 have hjl : i < idx.length := (List.getElem?_eq_some_iff.1 hjc).1
 refine GC.seq ?_
 refine GC.seq ?_
 refine GC.reg ?_
 refine G.m1 ?_
 refine G.v (V.nc rfl) rfl ?_
 refine G.v (V.fa F107_1 rfl) rfl ?_
 refine G.v (V.ld (b := nb) (off := 0 + 1) (wf := true) (l := nodeR path idx wild nt pr (.slice ad kids.length cap) (.slice ad2 l2 c2) full) (T := 107) (fz := (0, 0)) (v := S idx) Try.isAgg9 rfl (m5 hm) rfl) rfl ?_
 refine G.cvSB Try.underlying9 Try.underlying68 Try.underlying5 rfl rfl (fun tb cpp z fz hrb hcp => ?_)
 refine G.v (V.lenL Try.underlying68 rfl) rfl ?_
 refine G.m1 ?_
 refine G.nil ?_
 refine GC.block ?_
 refine GC.loopJ (fun N fr' H' => ∃ q, q + N = i ∧ Sub [(0, Pt nb 0), (1, S p), (2, Pt pb 0), (3, Pt qb 0), (4, .bool un), (10, Pt vb 0), (11, .int .i16 (ps.length : Int)), (12, S path), (13, .int .u8 (c.toNat : Int)), (61, .slice (some ⟨tb, 0, none⟩) idx.length cpp), (62, I (idx.length : Nat)), (63, I (q : Nat))] fr' ∧ H' = ⟨tb, true, .row (bC (idx ++ z)) 5 fz⟩ :: (⟨vb, true, .row [(.slice none 0 0), (pV pb has), .bool false, (S [])] 114 (0, 0)⟩ :: ⟨pb, true, .row [.slice (some ⟨prb, 0, none⟩) ps.length cP] 96 (0, 0)⟩ :: ⟨prb, true, .row prow 100 (0, 0)⟩ :: ⟨qb, true, .row [.slice (some ⟨srb, 0, none⟩) sk.length cS] 111 (0, 0)⟩ :: ⟨srb, true, .row srow 126 (0, 0)⟩ :: (Cs ++ Ht))) i
  ⟨0, by omega, .of rfl, rfl⟩ ?_
 rintro N fr' H' ⟨q, hq, hs2, rfl⟩ ih
 refine GC.weak hs2 ?_
 clear hs2
 refine GC.seq ?_
 refine GC.reg ?_
 refine G.v (V.lt rfl rfl) rfl ?_
 refine G.nil ?_
 refine GC.seq ?_
 refine GC.condD rfl (fun h64 => ?_) (fun h64 => absurd (by omega) h64)
 refine GC.skip ?_
 refine GC.seq ?_
 refine GC.block ?_
 refine GC.seq ?_
 have hql : q < idx.length := by omega
 obtain ⟨x, hx⟩ : ∃ x, idx[q]? = some x := ⟨_, List.getElem?_eq_getElem hql⟩
 refine GC.reg ?_
 refine G.m1 ?_
 refine G.v (V.ia (i := q) Try.underlying68 Try.sizeOf5 rfl rfl hql) rfl ?_
 refine G.v (V.ld (b := tb) (off := 0 + q * 1) (wf := true) (l := bC (idx ++ z)) (T := 5) (fz := fz) (v := .int .u8 (x.toNat : Int)) Try.isAgg5 rfl (.head _) (by rw [nth_eq, Nat.zero_add, Nat.mul_one, bC_app, List.getElem?_append_left (by rw [bC_len]; exact hql)]; simp [bC, Lib.byteCells, hx])) rfl ?_
 refine G.m2 ?_
 refine G.m2 ?_
 refine G.nil ?_
 refine GC.seq ?_
 refine GC.reg ?_
 refine G.m1 ?_
 refine G.m1 ?_
 refine G.v (V.eqI rfl rfl) rfl ?_
 refine G.nil ?_
 refine GC.condD rfl (fun h70 => ?_) (fun h70 => ?_)
 ·refine GC.seq ?_
  refine GC.seq ?_
  have hqj : q = i := by
   have hxc := UInt8.toNat_inj.1 (by have := h70; omega : x.toNat = c.toNat)
   rcases Nat.lt_or_ge q i with h | h
   ·exact absurd (by rw [hx, hxc]) (hjn q h)
   ·omega
  subst hqj
  have hkl := (List.getElem?_eq_some_iff.1 hkid).1
  obtain ⟨kb, hkb⟩ : ∃ kb, bs[q]? = some kb := ⟨_, List.getElem?_eq_getElem (by omega)⟩
  have hrk := hk q k kb hkid hkb
  obtain ⟨rb, cap2, spare, e1, rfl⟩ := hs.at hkl
  cases e1
  have hrbm := hsm _ (.head _)
  refine GC.reg ?_
  refine G.m1 ?_
  refine G.v (V.nc rfl) rfl ?_
  refine G.v (V.fa F107_2 rfl) rfl ?_
  refine G.v (V.ld (b := nb) (off := 0 + 2) (wf := true) (l := nodeR path idx wild nt pr (.slice (some ⟨rb, 0, none⟩) kids.length cap) (.slice ad2 l2 c2) full) (T := 107) (fz := (0, 0)) (v := .bool wild) Try.isAgg4 rfl (m6 hm) rfl) rfl ?_
  refine G.nil ?_
  refine GC.cond rfl (fun h74 => ?_) (fun h74 => absurd hw (by rw [h74]; decide))
  refine GC.seq ?_
  refine GC.reg ?_
  refine G.m1 ?_
  refine G.v (V.nc rfl) rfl ?_
  refine G.v (V.ld (b := qb) (off := 0) (wf := true) (l := [.slice (some ⟨srb, 0, none⟩) sk.length cS]) (T := 111) (fz := (0, 0)) (v := .slice (some ⟨srb, 0, none⟩) sk.length cS) Try.isAgg111 rfl (m4 (.head _)) rfl) rfl ?_
  refine G.v (V.lenL Try.underlying111 rfl) rfl ?_
  refine G.m2 ?_
  refine G.nil ?_
  refine GC.seq ?_
  refine GC.reg ?_
  refine G.m1 ?_
  refine G.m1 ?_
  refine G.v (V.nc rfl) rfl ?_
  refine G.v (V.ld (b := qb) (off := 0) (wf := true) (l := [.slice (some ⟨srb, 0, none⟩) sk.length cS]) (T := 111) (fz := (0, 0)) (v := .slice (some ⟨srb, 0, none⟩) sk.length cS) Try.isAgg111 rfl (m4 (.head _)) rfl) rfl ?_
  refine G.m1 ?_
  refine G.v (V.addI (r := ((sk.length + 1 : Nat) : Int)) rfl rfl rfl (by omega) (by omega)) rfl ?_
  refine G.v (V.slTH (i := sk.length + 1) Try.underlying111 Try.sizeOf126 rfl rfl (by omega)) rfl ?_
  refine G.v (V.nc rfl) rfl ?_
  refine G.st (b := qb) (off := 0) (l := [.slice (some ⟨srb, 0, none⟩) sk.length cS]) (T := 111) (fz := (0, 0)) (v := .slice (some ⟨srb, 0, none⟩) (sk.length + 1) cS) Try.sizeOf111 rfl rfl rfl (.s (.s (.s (.s .z)))) rfl rfl ?_
  refine G.nil ?_
  refine GC.turn (H' := ⟨tb, true, .row (bC (idx ++ z)) 5 fz⟩ :: (⟨vb, true, .row [(.slice none 0 0), (pV pb has), .bool false, (S [])] 114 (0, 0)⟩ :: ⟨pb, true, .row [.slice (some ⟨prb, 0, none⟩) ps.length cP] 96 (0, 0)⟩ :: ⟨prb, true, .row prow 100 (0, 0)⟩ :: ⟨qb, true, .row [.slice (some ⟨srb, 0, none⟩) (sk.length + 1) cS] 111 (0, 0)⟩ :: ⟨srb, true, .row srow 126 (0, 0)⟩ :: (Cs ++ Ht))) (fun w1 h1 => h1) ?_
  refine GC.regM 40 (fun w1 => w1.heap[nb]? = some (Blk.den (.row (nodeR path idx wild nt pr (.slice (some ⟨rb, 0, none⟩) kids.length cap) (.slice ad2 l2 c2) full) 107 (0, 0))) ∧ w1.heap[qb]? = some (Blk.den (.row [.slice (some ⟨srb, 0, none⟩) (sk.length + 1) cS] 111 (0, 0)))) mixed (by kernel_rfl) ?_
  refine GM.p 0 rfl (by kernel_rfl) (by kernel_rfl) (fun w1 h1 => ⟨h1.has ⟨nb, true, .row (nodeR path idx wild nt pr (.slice (some ⟨rb, 0, none⟩) kids.length cap) (.slice ad2 l2 c2) full) 107 (0, 0)⟩ (by first | exact m6 hm | exact m7 hm), h1.has ⟨qb, true, .row [.slice (some ⟨srb, 0, none⟩) (sk.length + 1) cS] 111 (0, 0)⟩ (by simp)⟩) (fun _ => V.mv rfl) rfl ?_
  refine GM.p 1 rfl (by kernel_rfl) (by kernel_rfl) (fun w1 h1 => ⟨h1.has ⟨nb, true, .row (nodeR path idx wild nt pr (.slice (some ⟨rb, 0, none⟩) kids.length cap) (.slice ad2 l2 c2) full) 107 (0, 0)⟩ (by first | exact m6 hm | exact m7 hm), h1.has ⟨qb, true, .row [.slice (some ⟨srb, 0, none⟩) (sk.length + 1) cS] 111 (0, 0)⟩ (by simp)⟩) (fun _ => V.nc rfl) rfl ?_
  refine GM.ld 2 rfl (by kernel_rfl) (by kernel_rfl) (fun w1 h1 => ⟨h1.has ⟨nb, true, .row (nodeR path idx wild nt pr (.slice (some ⟨rb, 0, none⟩) kids.length cap) (.slice ad2 l2 c2) full) 107 (0, 0)⟩ (by first | exact m6 hm | exact m7 hm), h1.has ⟨qb, true, .row [.slice (some ⟨srb, 0, none⟩) (sk.length + 1) cS] 111 (0, 0)⟩ (by simp)⟩) Try.isAgg111 rfl (fun w1 h1 => cellB h1.2 rfl) rfl ?_
  refine GM.p 3 rfl (by kernel_rfl) (by kernel_rfl) (fun w1 h1 => ⟨h1.has ⟨nb, true, .row (nodeR path idx wild nt pr (.slice (some ⟨rb, 0, none⟩) kids.length cap) (.slice ad2 l2 c2) full) 107 (0, 0)⟩ (by first | exact m6 hm | exact m7 hm), h1.has ⟨qb, true, .row [.slice (some ⟨srb, 0, none⟩) (sk.length + 1) cS] 111 (0, 0)⟩ (by simp)⟩) (fun _ => V.mv rfl) rfl ?_
  refine GM.p 4 rfl (by kernel_rfl) (by kernel_rfl) (fun w1 h1 => ⟨h1.has ⟨nb, true, .row (nodeR path idx wild nt pr (.slice (some ⟨rb, 0, none⟩) kids.length cap) (.slice ad2 l2 c2) full) 107 (0, 0)⟩ (by first | exact m6 hm | exact m7 hm), h1.has ⟨qb, true, .row [.slice (some ⟨srb, 0, none⟩) (sk.length + 1) cS] 111 (0, 0)⟩ (by simp)⟩) (fun _ => V.mv rfl) rfl ?_
  refine GM.p 5 rfl (by kernel_rfl) (by kernel_rfl) (fun w1 h1 => ⟨h1.has ⟨nb, true, .row (nodeR path idx wild nt pr (.slice (some ⟨rb, 0, none⟩) kids.length cap) (.slice ad2 l2 c2) full) 107 (0, 0)⟩ (by first | exact m6 hm | exact m7 hm), h1.has ⟨qb, true, .row [.slice (some ⟨srb, 0, none⟩) (sk.length + 1) cS] 111 (0, 0)⟩ (by simp)⟩) (fun _ => V.mv rfl) rfl ?_
  refine GM.p 6 rfl (by kernel_rfl) (by kernel_rfl) (fun w1 h1 => ⟨h1.has ⟨nb, true, .row (nodeR path idx wild nt pr (.slice (some ⟨rb, 0, none⟩) kids.length cap) (.slice ad2 l2 c2) full) 107 (0, 0)⟩ (by first | exact m6 hm | exact m7 hm), h1.has ⟨qb, true, .row [.slice (some ⟨srb, 0, none⟩) (sk.length + 1) cS] 111 (0, 0)⟩ (by simp)⟩) (fun _ => V.cat rfl rfl (by have := hcl; rw [List.length_append] at this; omega)) rfl ?_
  refine GM.p 7 rfl (by kernel_rfl) (by kernel_rfl) (fun w1 h1 => ⟨h1.has ⟨nb, true, .row (nodeR path idx wild nt pr (.slice (some ⟨rb, 0, none⟩) kids.length cap) (.slice ad2 l2 c2) full) 107 (0, 0)⟩ (by first | exact m6 hm | exact m7 hm), h1.has ⟨qb, true, .row [.slice (some ⟨srb, 0, none⟩) (sk.length + 1) cS] 111 (0, 0)⟩ (by simp)⟩) (fun _ => V.mv rfl) rfl ?_
  refine GM.p 8 rfl (by kernel_rfl) (by kernel_rfl) (fun w1 h1 => ⟨h1.has ⟨nb, true, .row (nodeR path idx wild nt pr (.slice (some ⟨rb, 0, none⟩) kids.length cap) (.slice ad2 l2 c2) full) 107 (0, 0)⟩ (by first | exact m6 hm | exact m7 hm), h1.has ⟨qb, true, .row [.slice (some ⟨srb, 0, none⟩) (sk.length + 1) cS] 111 (0, 0)⟩ (by simp)⟩) (fun _ => V.nc rfl) rfl ?_
  refine GM.p 9 rfl (by kernel_rfl) (by kernel_rfl) (fun w1 h1 => ⟨h1.has ⟨nb, true, .row (nodeR path idx wild nt pr (.slice (some ⟨rb, 0, none⟩) kids.length cap) (.slice ad2 l2 c2) full) 107 (0, 0)⟩ (by first | exact m6 hm | exact m7 hm), h1.has ⟨qb, true, .row [.slice (some ⟨srb, 0, none⟩) (sk.length + 1) cS] 111 (0, 0)⟩ (by simp)⟩) (fun _ => V.fa F107_0 rfl) rfl ?_
  refine GM.ld 10 rfl (by kernel_rfl) (by kernel_rfl) (fun w1 h1 => ⟨h1.has ⟨nb, true, .row (nodeR path idx wild nt pr (.slice (some ⟨rb, 0, none⟩) kids.length cap) (.slice ad2 l2 c2) full) 107 (0, 0)⟩ (by first | exact m6 hm | exact m7 hm), h1.has ⟨qb, true, .row [.slice (some ⟨srb, 0, none⟩) (sk.length + 1) cS] 111 (0, 0)⟩ (by simp)⟩) Try.isAgg9 rfl (fun w1 h1 => cellB h1.1 rfl) rfl ?_
  refine GM.p 11 rfl (by kernel_rfl) (by kernel_rfl) (fun w1 h1 => ⟨h1.has ⟨nb, true, .row (nodeR path idx wild nt pr (.slice (some ⟨rb, 0, none⟩) kids.length cap) (.slice ad2 l2 c2) full) 107 (0, 0)⟩ (by first | exact m6 hm | exact m7 hm), h1.has ⟨qb, true, .row [.slice (some ⟨srb, 0, none⟩) (sk.length + 1) cS] 111 (0, 0)⟩ (by simp)⟩) (fun _ => V.mv rfl) rfl ?_
  refine GM.p 12 rfl (by kernel_rfl) (by kernel_rfl) (fun w1 h1 => ⟨h1.has ⟨nb, true, .row (nodeR path idx wild nt pr (.slice (some ⟨rb, 0, none⟩) kids.length cap) (.slice ad2 l2 c2) full) 107 (0, 0)⟩ (by first | exact m6 hm | exact m7 hm), h1.has ⟨qb, true, .row [.slice (some ⟨srb, 0, none⟩) (sk.length + 1) cS] 111 (0, 0)⟩ (by simp)⟩) (fun _ => V.nc rfl) rfl ?_
  refine GM.p 13 rfl (by kernel_rfl) (by kernel_rfl) (fun w1 h1 => ⟨h1.has ⟨nb, true, .row (nodeR path idx wild nt pr (.slice (some ⟨rb, 0, none⟩) kids.length cap) (.slice ad2 l2 c2) full) 107 (0, 0)⟩ (by first | exact m6 hm | exact m7 hm), h1.has ⟨qb, true, .row [.slice (some ⟨srb, 0, none⟩) (sk.length + 1) cS] 111 (0, 0)⟩ (by simp)⟩) (fun _ => V.fa F107_2 rfl) rfl ?_
  refine GM.ld 14 rfl (by kernel_rfl) (by kernel_rfl) (fun w1 h1 => ⟨h1.has ⟨nb, true, .row (nodeR path idx wild nt pr (.slice (some ⟨rb, 0, none⟩) kids.length cap) (.slice ad2 l2 c2) full) 107 (0, 0)⟩ (by first | exact m6 hm | exact m7 hm), h1.has ⟨qb, true, .row [.slice (some ⟨srb, 0, none⟩) (sk.length + 1) cS] 111 (0, 0)⟩ (by simp)⟩) Try.isAgg4 rfl (fun w1 h1 => cellB h1.1 rfl) rfl ?_
  refine GM.p 15 rfl (by kernel_rfl) (by kernel_rfl) (fun w1 h1 => ⟨h1.has ⟨nb, true, .row (nodeR path idx wild nt pr (.slice (some ⟨rb, 0, none⟩) kids.length cap) (.slice ad2 l2 c2) full) 107 (0, 0)⟩ (by first | exact m6 hm | exact m7 hm), h1.has ⟨qb, true, .row [.slice (some ⟨srb, 0, none⟩) (sk.length + 1) cS] 111 (0, 0)⟩ (by simp)⟩) (fun _ => V.mv rfl) rfl ?_
  refine GM.p 16 rfl (by kernel_rfl) (by kernel_rfl) (fun w1 h1 => ⟨h1.has ⟨nb, true, .row (nodeR path idx wild nt pr (.slice (some ⟨rb, 0, none⟩) kids.length cap) (.slice ad2 l2 c2) full) 107 (0, 0)⟩ (by first | exact m6 hm | exact m7 hm), h1.has ⟨qb, true, .row [.slice (some ⟨srb, 0, none⟩) (sk.length + 1) cS] 111 (0, 0)⟩ (by simp)⟩) (fun _ => V.nc rfl) rfl ?_
  refine GM.p 17 rfl (by kernel_rfl) (by kernel_rfl) (fun w1 h1 => ⟨h1.has ⟨nb, true, .row (nodeR path idx wild nt pr (.slice (some ⟨rb, 0, none⟩) kids.length cap) (.slice ad2 l2 c2) full) 107 (0, 0)⟩ (by first | exact m6 hm | exact m7 hm), h1.has ⟨qb, true, .row [.slice (some ⟨srb, 0, none⟩) (sk.length + 1) cS] 111 (0, 0)⟩ (by simp)⟩) (fun _ => V.fa F107_3 rfl) rfl ?_
  refine GM.ld 18 rfl (by kernel_rfl) (by kernel_rfl) (fun w1 h1 => ⟨h1.has ⟨nb, true, .row (nodeR path idx wild nt pr (.slice (some ⟨rb, 0, none⟩) kids.length cap) (.slice ad2 l2 c2) full) 107 (0, 0)⟩ (by first | exact m6 hm | exact m7 hm), h1.has ⟨qb, true, .row [.slice (some ⟨srb, 0, none⟩) (sk.length + 1) cS] 111 (0, 0)⟩ (by simp)⟩) Try.isAgg103 rfl (fun w1 h1 => cellB h1.1 rfl) rfl ?_
  refine GM.p 19 rfl (by kernel_rfl) (by kernel_rfl) (fun w1 h1 => ⟨h1.has ⟨nb, true, .row (nodeR path idx wild nt pr (.slice (some ⟨rb, 0, none⟩) kids.length cap) (.slice ad2 l2 c2) full) 107 (0, 0)⟩ (by first | exact m6 hm | exact m7 hm), h1.has ⟨qb, true, .row [.slice (some ⟨srb, 0, none⟩) (sk.length + 1) cS] 111 (0, 0)⟩ (by simp)⟩) (fun _ => V.mv rfl) rfl ?_
  refine GM.p 20 rfl (by kernel_rfl) (by kernel_rfl) (fun w1 h1 => ⟨h1.has ⟨nb, true, .row (nodeR path idx wild nt pr (.slice (some ⟨rb, 0, none⟩) kids.length cap) (.slice ad2 l2 c2) full) 107 (0, 0)⟩ (by first | exact m6 hm | exact m7 hm), h1.has ⟨qb, true, .row [.slice (some ⟨srb, 0, none⟩) (sk.length + 1) cS] 111 (0, 0)⟩ (by simp)⟩) (fun _ => V.nc rfl) rfl ?_
  refine GM.p 21 rfl (by kernel_rfl) (by kernel_rfl) (fun w1 h1 => ⟨h1.has ⟨nb, true, .row (nodeR path idx wild nt pr (.slice (some ⟨rb, 0, none⟩) kids.length cap) (.slice ad2 l2 c2) full) 107 (0, 0)⟩ (by first | exact m6 hm | exact m7 hm), h1.has ⟨qb, true, .row [.slice (some ⟨srb, 0, none⟩) (sk.length + 1) cS] 111 (0, 0)⟩ (by simp)⟩) (fun _ => V.fa F107_4 rfl) rfl ?_
  refine GM.ld 22 rfl (by kernel_rfl) (by kernel_rfl) (fun w1 h1 => ⟨h1.has ⟨nb, true, .row (nodeR path idx wild nt pr (.slice (some ⟨rb, 0, none⟩) kids.length cap) (.slice ad2 l2 c2) full) 107 (0, 0)⟩ (by first | exact m6 hm | exact m7 hm), h1.has ⟨qb, true, .row [.slice (some ⟨srb, 0, none⟩) (sk.length + 1) cS] 111 (0, 0)⟩ (by simp)⟩) Try.isAgg104 rfl (fun w1 h1 => cellB h1.1 rfl) rfl ?_
  refine GM.p 23 rfl (by kernel_rfl) (by kernel_rfl) (fun w1 h1 => ⟨h1.has ⟨nb, true, .row (nodeR path idx wild nt pr (.slice (some ⟨rb, 0, none⟩) kids.length cap) (.slice ad2 l2 c2) full) 107 (0, 0)⟩ (by first | exact m6 hm | exact m7 hm), h1.has ⟨qb, true, .row [.slice (some ⟨srb, 0, none⟩) (sk.length + 1) cS] 111 (0, 0)⟩ (by simp)⟩) (fun _ => V.mv rfl) rfl ?_
  refine GM.p 24 rfl (by kernel_rfl) (by kernel_rfl) (fun w1 h1 => ⟨h1.has ⟨nb, true, .row (nodeR path idx wild nt pr (.slice (some ⟨rb, 0, none⟩) kids.length cap) (.slice ad2 l2 c2) full) 107 (0, 0)⟩ (by first | exact m6 hm | exact m7 hm), h1.has ⟨qb, true, .row [.slice (some ⟨srb, 0, none⟩) (sk.length + 1) cS] 111 (0, 0)⟩ (by simp)⟩) (fun _ => V.nc rfl) rfl ?_
  refine GM.p 25 rfl (by kernel_rfl) (by kernel_rfl) (fun w1 h1 => ⟨h1.has ⟨nb, true, .row (nodeR path idx wild nt pr (.slice (some ⟨rb, 0, none⟩) kids.length cap) (.slice ad2 l2 c2) full) 107 (0, 0)⟩ (by first | exact m6 hm | exact m7 hm), h1.has ⟨qb, true, .row [.slice (some ⟨srb, 0, none⟩) (sk.length + 1) cS] 111 (0, 0)⟩ (by simp)⟩) (fun _ => V.fa F107_5 rfl) rfl ?_
  refine GM.ld 26 rfl (by kernel_rfl) (by kernel_rfl) (fun w1 h1 => ⟨h1.has ⟨nb, true, .row (nodeR path idx wild nt pr (.slice (some ⟨rb, 0, none⟩) kids.length cap) (.slice ad2 l2 c2) full) 107 (0, 0)⟩ (by first | exact m6 hm | exact m7 hm), h1.has ⟨qb, true, .row [.slice (some ⟨srb, 0, none⟩) (sk.length + 1) cS] 111 (0, 0)⟩ (by simp)⟩) Try.isAgg105 rfl (fun w1 h1 => cellB h1.1 rfl) rfl ?_
  refine GM.p 27 rfl (by kernel_rfl) (by kernel_rfl) (fun w1 h1 => ⟨h1.has ⟨nb, true, .row (nodeR path idx wild nt pr (.slice (some ⟨rb, 0, none⟩) kids.length cap) (.slice ad2 l2 c2) full) 107 (0, 0)⟩ (by first | exact m6 hm | exact m7 hm), h1.has ⟨qb, true, .row [.slice (some ⟨srb, 0, none⟩) (sk.length + 1) cS] 111 (0, 0)⟩ (by simp)⟩) (fun _ => V.mv rfl) rfl ?_
  refine GM.p 28 rfl (by kernel_rfl) (by kernel_rfl) (fun w1 h1 => ⟨h1.has ⟨nb, true, .row (nodeR path idx wild nt pr (.slice (some ⟨rb, 0, none⟩) kids.length cap) (.slice ad2 l2 c2) full) 107 (0, 0)⟩ (by first | exact m6 hm | exact m7 hm), h1.has ⟨qb, true, .row [.slice (some ⟨srb, 0, none⟩) (sk.length + 1) cS] 111 (0, 0)⟩ (by simp)⟩) (fun _ => V.nc rfl) rfl ?_
  refine GM.p 29 rfl (by kernel_rfl) (by kernel_rfl) (fun w1 h1 => ⟨h1.has ⟨nb, true, .row (nodeR path idx wild nt pr (.slice (some ⟨rb, 0, none⟩) kids.length cap) (.slice ad2 l2 c2) full) 107 (0, 0)⟩ (by first | exact m6 hm | exact m7 hm), h1.has ⟨qb, true, .row [.slice (some ⟨srb, 0, none⟩) (sk.length + 1) cS] 111 (0, 0)⟩ (by simp)⟩) (fun _ => V.fa F107_6 rfl) rfl ?_
  refine GM.ld 30 rfl (by kernel_rfl) (by kernel_rfl) (fun w1 h1 => ⟨h1.has ⟨nb, true, .row (nodeR path idx wild nt pr (.slice (some ⟨rb, 0, none⟩) kids.length cap) (.slice ad2 l2 c2) full) 107 (0, 0)⟩ (by first | exact m6 hm | exact m7 hm), h1.has ⟨qb, true, .row [.slice (some ⟨srb, 0, none⟩) (sk.length + 1) cS] 111 (0, 0)⟩ (by simp)⟩) Try.isAgg94 rfl (fun w1 h1 => cellB h1.1 rfl) rfl ?_
  refine GM.p 31 rfl (by kernel_rfl) (by kernel_rfl) (fun w1 h1 => ⟨h1.has ⟨nb, true, .row (nodeR path idx wild nt pr (.slice (some ⟨rb, 0, none⟩) kids.length cap) (.slice ad2 l2 c2) full) 107 (0, 0)⟩ (by first | exact m6 hm | exact m7 hm), h1.has ⟨qb, true, .row [.slice (some ⟨srb, 0, none⟩) (sk.length + 1) cS] 111 (0, 0)⟩ (by simp)⟩) (fun _ => V.mv rfl) rfl ?_
  refine GM.p 32 rfl (by kernel_rfl) (by kernel_rfl) (fun w1 h1 => ⟨h1.has ⟨nb, true, .row (nodeR path idx wild nt pr (.slice (some ⟨rb, 0, none⟩) kids.length cap) (.slice ad2 l2 c2) full) 107 (0, 0)⟩ (by first | exact m6 hm | exact m7 hm), h1.has ⟨qb, true, .row [.slice (some ⟨srb, 0, none⟩) (sk.length + 1) cS] 111 (0, 0)⟩ (by simp)⟩) (fun _ => V.nc rfl) rfl ?_
  refine GM.p 33 rfl (by kernel_rfl) (by kernel_rfl) (fun w1 h1 => ⟨h1.has ⟨nb, true, .row (nodeR path idx wild nt pr (.slice (some ⟨rb, 0, none⟩) kids.length cap) (.slice ad2 l2 c2) full) 107 (0, 0)⟩ (by first | exact m6 hm | exact m7 hm), h1.has ⟨qb, true, .row [.slice (some ⟨srb, 0, none⟩) (sk.length + 1) cS] 111 (0, 0)⟩ (by simp)⟩) (fun _ => V.fa F107_7 rfl) rfl ?_
  refine GM.ld 34 rfl (by kernel_rfl) (by kernel_rfl) (fun w1 h1 => ⟨h1.has ⟨nb, true, .row (nodeR path idx wild nt pr (.slice (some ⟨rb, 0, none⟩) kids.length cap) (.slice ad2 l2 c2) full) 107 (0, 0)⟩ (by first | exact m6 hm | exact m7 hm), h1.has ⟨qb, true, .row [.slice (some ⟨srb, 0, none⟩) (sk.length + 1) cS] 111 (0, 0)⟩ (by simp)⟩) Try.isAgg9 rfl (fun w1 h1 => cellB h1.1 rfl) rfl ?_
  refine GM.p 35 rfl (by kernel_rfl) (by kernel_rfl) (fun w1 h1 => ⟨h1.has ⟨nb, true, .row (nodeR path idx wild nt pr (.slice (some ⟨rb, 0, none⟩) kids.length cap) (.slice ad2 l2 c2) full) 107 (0, 0)⟩ (by first | exact m6 hm | exact m7 hm), h1.has ⟨qb, true, .row [.slice (some ⟨srb, 0, none⟩) (sk.length + 1) cS] 111 (0, 0)⟩ (by simp)⟩) (fun _ => V.bd (vs := [(0, S path), (2, .bool wild), (3, .int .u8 (nt : Int)), (4, .int .u32 ((pr % 4294967296 : Nat) : Int)), (5, .slice (some ⟨rb, 0, none⟩) kids.length cap), (6, .slice ad2 l2 c2), (7, S full)]) rfl (fun w1 => bd_cp _ _ _ _ _ _ _ _ _ _ _ w1)) rfl ?_
  refine GM.p 37 rfl (by kernel_rfl) (by kernel_rfl) (fun w1 h1 => ⟨h1.has ⟨nb, true, .row (nodeR path idx wild nt pr (.slice (some ⟨rb, 0, none⟩) kids.length cap) (.slice ad2 l2 c2) full) 107 (0, 0)⟩ (by first | exact m6 hm | exact m7 hm), h1.has ⟨qb, true, .row [.slice (some ⟨srb, 0, none⟩) (sk.length + 1) cS] 111 (0, 0)⟩ (by simp)⟩) (fun _ => V.mv rfl) rfl ?_
  refine GM.one 36 rfl (by kernel_rfl) ?_
  refine GMB.bx (l := nodeR path [] wild nt pr (.slice (some ⟨rb, 0, none⟩) kids.length cap) (.slice ad2 l2 c2) full) rfl (by simp [cells_agg, nodeR]) (fun w1 h1 => ⟨h1.has ⟨nb, true, .row (nodeR path idx wild nt pr (.slice (some ⟨rb, 0, none⟩) kids.length cap) (.slice ad2 l2 c2) full) 107 (0, 0)⟩ (by first | exact m6 hm | exact m7 hm), h1.has ⟨qb, true, .row [.slice (some ⟨srb, 0, none⟩) (sk.length + 1) cS] 111 (0, 0)⟩ (by simp)⟩) rfl (fun cb => ?_)
  refine GM.p 38 rfl (by kernel_rfl) (by kernel_rfl) (fun w1 h1 => ⟨h1.has ⟨nb, true, .row (nodeR path idx wild nt pr (.slice (some ⟨rb, 0, none⟩) kids.length cap) (.slice ad2 l2 c2) full) 107 (0, 0)⟩ (by first | exact m6 hm | exact m7 hm), h1.has ⟨qb, true, .row [.slice (some ⟨srb, 0, none⟩) (sk.length + 1) cS] 111 (0, 0)⟩ (by simp)⟩) (fun _ => V.bd (vs := [(0, S (path ++ p)), (1, Pt cb 0), (2, .int .i16 (ps.length : Int))]) rfl (fun w1 => bd_sk _ _ _ w1)) rfl ?_
  refine GM.p 39 rfl (by kernel_rfl) (by kernel_rfl) (fun w1 h1 => ⟨h1.has ⟨nb, true, .row (nodeR path idx wild nt pr (.slice (some ⟨rb, 0, none⟩) kids.length cap) (.slice ad2 l2 c2) full) 107 (0, 0)⟩ (by first | exact m6 hm | exact m7 hm), h1.has ⟨qb, true, .row [.slice (some ⟨srb, 0, none⟩) (sk.length + 1) cS] 111 (0, 0)⟩ (by simp)⟩) (fun _ => V.ia (i := sk.length) Try.underlying111 Try.sizeOf126 rfl rfl (by omega)) rfl ?_
  refine GM.tl (by kernel_rfl) ?_
  refine G.stAt (b := srb) (off := 0 + sk.length * 3) (l := srow) (T := 126) (cs := [S (path ++ p), Pt cb 0, .int .i16 (ps.length : Int)]) Try.sizeOf126 rfl rfl (by simp [Value.oneCell']) (.s (.s (.s (.s (.s (.s .z)))))) (by simp; omega) ?_
  have e3 : 0 + sk.length * 3 = 3 * sk.length := by omega
  rw [e3]
  refine G.nil ?_
  refine GC.seq ?_
  refine GC.turn (H' := (⟨vb, true, .row [(.slice none 0 0), (pV pb has), .bool false, (S [])] 114 (0, 0)⟩ :: ⟨pb, true, .row [.slice (some ⟨prb, 0, none⟩) ps.length cP] 96 (0, 0)⟩ :: ⟨prb, true, .row prow 100 (0, 0)⟩ :: ⟨qb, true, .row [.slice (some ⟨srb, 0, none⟩) (sk.length + 1) cS] 111 (0, 0)⟩ :: ⟨srb, true, .row (setR srow (3 * sk.length) [S (path ++ p), Pt cb 0, .int .i16 (ps.length : Int)]) 126 (0, 0)⟩ :: ((⟨cb, true, .row (nodeR path [] wild nt pr (.slice (some ⟨rb, 0, none⟩) kids.length cap) (.slice ad2 l2 c2) full) 107 (0, 0)⟩ :: Cs) ++ Ht))) (fun w1 h1 => ?_) ?_
  ·have h2 : HF w D (⟨cb, true, .row (nodeR path [] wild nt pr (.slice (some ⟨rb, 0, none⟩) kids.length cap) (.slice ad2 l2 c2) full) 107 (0, 0)⟩ :: ⟨tb, true, .row (bC (idx ++ z)) 5 fz⟩ :: (⟨vb, true, .row [(.slice none 0 0), (pV pb has), .bool false, (S [])] 114 (0, 0)⟩ :: ⟨pb, true, .row [.slice (some ⟨prb, 0, none⟩) ps.length cP] 96 (0, 0)⟩ :: ⟨prb, true, .row prow 100 (0, 0)⟩ :: ⟨qb, true, .row [.slice (some ⟨srb, 0, none⟩) (sk.length + 1) cS] 111 (0, 0)⟩ :: ⟨srb, true, .row (setR srow (3 * sk.length) [S (path ++ p), Pt cb 0, .int .i16 (ps.length : Int)]) 126 (0, 0)⟩ :: (Cs ++ Ht))) w1 := h1
   have p1 := perm_idx [[⟨cb, true, .row (nodeR path [] wild nt pr (.slice (some ⟨rb, 0, none⟩) kids.length cap) (.slice ad2 l2 c2) full) 107 (0, 0)⟩], [⟨tb, true, .row (bC (idx ++ z)) 5 fz⟩], [⟨vb, true, .row [(.slice none 0 0), (pV pb has), .bool false, (S [])] 114 (0, 0)⟩], [⟨pb, true, .row [.slice (some ⟨prb, 0, none⟩) ps.length cP] 96 (0, 0)⟩], [⟨prb, true, .row prow 100 (0, 0)⟩], [⟨qb, true, .row [.slice (some ⟨srb, 0, none⟩) (sk.length + 1) cS] 111 (0, 0)⟩], [⟨srb, true, .row (setR srow (3 * sk.length) [S (path ++ p), Pt cb 0, .int .i16 (ps.length : Int)]) 126 (0, 0)⟩], Cs, Ht] [0, 1, 2, 3, 4, 5, 6, 7, 8] [1, 2, 3, 4, 5, 6, 0, 7, 8] (by decide)
   have h3 := h2.perm (H' := ⟨tb, true, .row (bC (idx ++ z)) 5 fz⟩ :: (⟨vb, true, .row [(.slice none 0 0), (pV pb has), .bool false, (S [])] 114 (0, 0)⟩ :: ⟨pb, true, .row [.slice (some ⟨prb, 0, none⟩) ps.length cP] 96 (0, 0)⟩ :: ⟨prb, true, .row prow 100 (0, 0)⟩ :: ⟨qb, true, .row [.slice (some ⟨srb, 0, none⟩) (sk.length + 1) cS] 111 (0, 0)⟩ :: ⟨srb, true, .row (setR srow (3 * sk.length) [S (path ++ p), Pt cb 0, .int .i16 (ps.length : Int)]) 126 (0, 0)⟩ :: ((⟨cb, true, .row (nodeR path [] wild nt pr (.slice (some ⟨rb, 0, none⟩) kids.length cap) (.slice ad2 l2 c2) full) 107 (0, 0)⟩ :: Cs) ++ Ht))) (by simpa using p1)
   exact h3.sub (List.sublist_cons_self _ _)
  refine GC.reg ?_
  refine G.m1 ?_
  refine G.v (V.nc rfl) rfl ?_
  refine G.v (V.fa F107_5 rfl) rfl ?_
  refine G.v (V.ld (b := nb) (off := 0 + 5) (wf := true) (l := nodeR path idx wild nt pr (.slice (some ⟨rb, 0, none⟩) kids.length cap) (.slice ad2 l2 c2) full) (T := 107) (fz := (0, 0)) (v := (.slice (some ⟨rb, 0, none⟩) kids.length cap)) Try.isAgg105 rfl (m6 hm) rfl) rfl ?_
  refine G.m1 ?_
  refine G.v (V.ia (i := q) Try.underlying105 Try.sizeOf89 rfl rfl hkl) rfl ?_
  refine G.v (V.ld (b := rb) (off := 0 + q * 1) (wf := true) (l := bs.map (Pt · 0) ++ spare) (T := 89) (fz := (0, 0)) (v := Pt kb 0) Try.isAgg89 rfl (.tail _ (.tail _ (.tail _ (.tail _ (.tail _ ((List.mem_append_right _ hrbm))))))) (by rw [nth_eq, Nat.zero_add, Nat.mul_one, List.getElem?_append_left (by rw [List.length_map]; omega), List.getElem?_map, hkb]; rfl)) rfl ?_
  refine G.m2 ?_
  refine G.nil ?_
  refine GC.exit rfl ?_
  refine GC.inLoop ?_
  have hcopy : Rd Ht (⟨cb, true, .row (nodeR path [] wild nt pr (.slice (some ⟨rb, 0, none⟩) kids.length cap) (.slice ad2 l2 c2) full) 107 (0, 0)⟩ :: Cs) (noIdx (.node () path idx wild nt pr h full kids)) cb := .mk (.head _) hs hsm hbl hh (fun j k b h1 h2 => (hk j k b h1 h2).cons)
  exact go kb has prow _ (⟨cb, true, .row (nodeR path [] wild nt pr (.slice (some ⟨rb, 0, none⟩) kids.length cap) (.slice ad2 l2 c2) full) 107 (0, 0)⟩ :: Cs) _ hrk.cons hpr hprt (by rw [setR_len _ _ _ (by simp; omega)]; exact hsr) (hsk.cons.push (s := ⟨path ++ p, noIdx (.node () path idx wild nt pr h full kids), ps.length⟩) hsr hroom hcopy) hhas (.of rfl)
 refine GC.skip ?_
 refine GC.inBlock ?_
 refine GC.reg ?_
 refine G.v (V.addI (r := ((q + 1 : Nat) : Int)) rfl rfl rfl (by omega) (by omega)) rfl ?_
 refine G.m1 ?_
 refine G.nil ?_
 have hxc : x ≠ c := fun e => h70 (by rw [e])
 have hqj : q ≠ i := fun e => hxc (by rw [e, hjc] at hx; exact (Option.some.inj hx).symm)
 exact ih (N - 1) _ _ (by omega) ⟨q + 1, by omega, .of rfl, rfl⟩
theorem g76_none {R : Ending → World → Prop} {w : World} {D : Nat → Prop} {vb pb prb qb srb cP cS : Nat} {un : Bool} {Ht : SH} {n : T0} {p : List UInt8} {ps : List (List UInt8 × List UInt8)} {sk : List Sk} {nb : Nat} {has : Bool} {prow srow : List Value} {Cs : SH} {fr : SF} {c : UInt8}
  (hn : Rd Ht Cs n nb) (_hpr : prow.length = 2 * cP) (_hprt : prow.take (2 * ps.length) = flatP ps) (_hsr : srow.length = 3 * cS) (_hsk : SkRow Ht Cs srow sk) (_hhas : has = false → ps = []) (_hpl : p.length ≤ 100000) (_hpc : ps.length ≤ cP) (_hcP : cP ≤ 20000) (_hsc : sk.length ≤ cS) (_hcS : cS ≤ 20000) (hsub : Sub [(0, Pt nb 0), (1, S p), (2, Pt pb 0), (3, Pt qb 0), (4, .bool un), (10, Pt vb 0), (11, .int .i16 (ps.length : Int)), (12, S n.path), (13, .int .u8 (c.toNat : Int))] fr) (hil : n.idx.length ≤ 1000000) (hj : idxOf c n.idx = none)
  (go : ∀ fr', Sub [(0, Pt nb 0), (1, S p), (2, Pt pb 0), (3, Pt qb 0), (4, .bool un), (10, Pt vb 0), (11, .int .i16 (ps.length : Int)), (12, S n.path), (13, .int .u8 (c.toNat : Int))] fr' → GC Try.prog ⟨76, Try.f76, R, w, D⟩ 703 K76n fr' (⟨vb, true, .row [(.slice none 0 0), (pV pb has), .bool false, (S [])] 114 (0, 0)⟩ :: ⟨pb, true, .row [.slice (some ⟨prb, 0, none⟩) ps.length cP] 96 (0, 0)⟩ :: ⟨prb, true, .row prow 100 (0, 0)⟩ :: ⟨qb, true, .row [.slice (some ⟨srb, 0, none⟩) sk.length cS] 111 (0, 0)⟩ :: ⟨srb, true, .row srow 126 (0, 0)⟩ :: (Cs ++ Ht))) :
  GC Try.prog ⟨76, Try.f76, R, w, D⟩ 703 K76a fr (⟨vb, true, .row [(.slice none 0 0), (pV pb has), .bool false, (S [])] 114 (0, 0)⟩ :: ⟨pb, true, .row [.slice (some ⟨prb, 0, none⟩) ps.length cP] 96 (0, 0)⟩ :: ⟨prb, true, .row prow 100 (0, 0)⟩ :: ⟨qb, true, .row [.slice (some ⟨srb, 0, none⟩) sk.length cS] 111 (0, 0)⟩ :: ⟨srb, true, .row srow 126 (0, 0)⟩ :: (Cs ++ Ht)) := by
 refine GC.weak hsub ?_
 clear hsub
 have hn0 := hn
 cases hn with
 | @mk path idx wild nt pr h full kids _ bs kv hv Hs hm hs hsm hbl hh hk =>
 simp only [n_path, n_idx] at *
 obtain ⟨ad, cap, rfl⟩ := hs.slice
 obtain ⟨ad2, l2, c2, rfl, hnn⟩ := hh.slice
 have hjn := idxOf_none hj
 refine GC.seq ?_
 refine GC.seq ?_
 refine GC.reg ?_
 refine G.m1 ?_
 refine G.v (V.nc rfl) rfl ?_
 refine G.v (V.fa F107_1 rfl) rfl ?_
 refine G.v (V.ld (b := nb) (off := 0 + 1) (wf := true) (l := nodeR path idx wild nt pr (.slice ad kids.length cap) (.slice ad2 l2 c2) full) (T := 107) (fz := (0, 0)) (v := S idx) Try.isAgg9 rfl (m5 hm) rfl) rfl ?_
 refine G.cvSB Try.underlying9 Try.underlying68 Try.underlying5 rfl rfl (fun tb cpp z fz hrb hcp => ?_)
 refine G.v (V.lenL Try.underlying68 rfl) rfl ?_
 refine G.m1 ?_
 refine G.nil ?_
 refine GC.block ?_
 refine GC.loopJ (fun N fr' H' => ∃ q, q + N = idx.length ∧ Sub [(0, Pt nb 0), (1, S p), (2, Pt pb 0), (3, Pt qb 0), (4, .bool un), (10, Pt vb 0), (11, .int .i16 (ps.length : Int)), (12, S path), (13, .int .u8 (c.toNat : Int)), (61, .slice (some ⟨tb, 0, none⟩) idx.length cpp), (62, I (idx.length : Nat)), (63, I (q : Nat))] fr' ∧ H' = ⟨tb, true, .row (bC (idx ++ z)) 5 fz⟩ :: (⟨vb, true, .row [(.slice none 0 0), (pV pb has), .bool false, (S [])] 114 (0, 0)⟩ :: ⟨pb, true, .row [.slice (some ⟨prb, 0, none⟩) ps.length cP] 96 (0, 0)⟩ :: ⟨prb, true, .row prow 100 (0, 0)⟩ :: ⟨qb, true, .row [.slice (some ⟨srb, 0, none⟩) sk.length cS] 111 (0, 0)⟩ :: ⟨srb, true, .row srow 126 (0, 0)⟩ :: (Cs ++ Ht))) idx.length
  ⟨0, by omega, .of rfl, rfl⟩ ?_
 rintro N fr' H' ⟨q, hq, hs2, rfl⟩ ih
 refine GC.weak hs2 ?_
 clear hs2
 refine GC.seq ?_
 refine GC.reg ?_
 refine G.v (V.lt rfl rfl) rfl ?_
 refine G.nil ?_
 refine GC.seq ?_
 refine GC.condD rfl (fun h64 => ?_) (fun h64 => ?_)
 ·refine GC.skip ?_
  refine GC.seq ?_
  refine GC.block ?_
  refine GC.seq ?_
  have hql : q < idx.length := by omega
  obtain ⟨x, hx⟩ : ∃ x, idx[q]? = some x := ⟨_, List.getElem?_eq_getElem hql⟩
  refine GC.reg ?_
  refine G.m1 ?_
  refine G.v (V.ia (i := q) Try.underlying68 Try.sizeOf5 rfl rfl hql) rfl ?_
  refine G.v (V.ld (b := tb) (off := 0 + q * 1) (wf := true) (l := bC (idx ++ z)) (T := 5) (fz := fz) (v := .int .u8 (x.toNat : Int)) Try.isAgg5 rfl (.head _) (by rw [nth_eq, Nat.zero_add, Nat.mul_one, bC_app, List.getElem?_append_left (by rw [bC_len]; exact hql)]; simp [bC, Lib.byteCells, hx])) rfl ?_
  refine G.m2 ?_
  refine G.m2 ?_
  refine G.nil ?_
  refine GC.seq ?_
  refine GC.reg ?_
  refine G.m1 ?_
  refine G.m1 ?_
  refine G.v (V.eqI rfl rfl) rfl ?_
  refine G.nil ?_
  refine GC.condD rfl (fun h70 => absurd (by rw [hx, UInt8.toNat_inj.1 (by have := h70; omega : x.toNat = c.toNat)]) (hjn q)) (fun h70 => ?_)
  refine GC.skip ?_
  refine GC.inBlock ?_
  refine GC.reg ?_
  refine G.v (V.addI (r := ((q + 1 : Nat) : Int)) rfl rfl rfl (by omega) (by omega)) rfl ?_
  refine G.m1 ?_
  refine G.nil ?_
  exact ih (N - 1) _ _ (by omega) ⟨q + 1, by omega, .of rfl, rfl⟩
 refine GC.exit rfl ?_
 refine GC.turn (H' := (⟨vb, true, .row [(.slice none 0 0), (pV pb has), .bool false, (S [])] 114 (0, 0)⟩ :: ⟨pb, true, .row [.slice (some ⟨prb, 0, none⟩) ps.length cP] 96 (0, 0)⟩ :: ⟨prb, true, .row prow 100 (0, 0)⟩ :: ⟨qb, true, .row [.slice (some ⟨srb, 0, none⟩) sk.length cS] 111 (0, 0)⟩ :: ⟨srb, true, .row srow 126 (0, 0)⟩ :: (Cs ++ Ht))) (fun w1 h1 => h1.sub (List.sublist_cons_self _ _)) (go _ (.of rfl))
end Go.Proofs

/- getValue: back to a skipped node. Printed by wip/mk_gg4.py. -/
set_option maxRecDepth 20000
namespace Go.Proofs
open Go Bw
open Gt
theorem prt_take {prow : List Value} {ps : List (List UInt8 × List UInt8)} (h : prow.take (2 * ps.length) = flatP ps) {m : Nat} (hm : m ≤ ps.length) : prow.take (2 * (ps.take m).length) = flatP (ps.take m) := by
 have h1 : (ps.take m).length = m := by simp; omega
 rw [h1, ← flatP_take, ← h, List.take_take, Nat.min_eq_left (by omega)]
theorem neP_pV {P : Program} {c : Cx} {n : Nat} {fr : SF} {H : SH} {t u e : TypeId} {ty : TypeId} {x : Operand} {pb : Nat} {has : Bool} (hU : P.underlying t = some (.pointer e)) (hx : ev fr x = some (pV pb has)) : Val P c n (.binOp .neq t x (.const Nil) u) ty fr H (.bool has) := by
 cases has with
 | true => exact V.neP (p := some ⟨pb, 0, none⟩) hU hx
 | false => exact V.neP (p := none) hU hx
theorem g76_popA {R : Ending → World → Prop} {w : World} {D : Nat → Prop} {vb pb prb qb srb cP cS : Nat} {un : Bool} {Ht : SH} {n : T0} {p : List UInt8} {ps : List (List UInt8 × List UInt8)} {sk : List Sk} {nb : Nat} {has : Bool} {prow srow : List Value} {Cs : SH} {fr : SF} {c : UInt8}
  (hn : Rd Ht Cs n nb) (hpr : prow.length = 2 * cP) (hprt : prow.take (2 * ps.length) = flatP ps) (hsr : srow.length = 3 * cS) (hsk : SkRow Ht Cs srow sk) (hhas : has = false → ps = []) (hpl : p.length ≤ 100000) (hpc : ps.length ≤ cP) (_hcP : cP ≤ 20000) (hsc : sk.length ≤ cS) (hcS : cS ≤ 20000) (hsub : Sub [(0, Pt nb 0), (1, S p), (2, Pt pb 0), (3, Pt qb 0), (4, .bool un), (10, Pt vb 0), (11, .int .i16 (ps.length : Int)), (12, S n.path), (13, .int .u8 (c.toNat : Int))] fr) {s : Sk} {sk2 : List Sk} (hss : sk = s :: sk2) (hsuf : p <:+ s.path) (hcn : s.cnt ≤ ps.length) (hspl : s.path.length ≤ 100000) (hw : n.wild = false) (hp47 : p ≠ [47])
  (go : Lp R w D vb pb prb qb srb cP cS un Ht s.node s.path (ps.take s.cnt) sk2) :
  GC Try.prog ⟨76, Try.f76, R, w, D⟩ 703 K76n fr (⟨vb, true, .row [(.slice none 0 0), (pV pb has), .bool false, (S [])] 114 (0, 0)⟩ :: ⟨pb, true, .row [.slice (some ⟨prb, 0, none⟩) ps.length cP] 96 (0, 0)⟩ :: ⟨prb, true, .row prow 100 (0, 0)⟩ :: ⟨qb, true, .row [.slice (some ⟨srb, 0, none⟩) sk.length cS] 111 (0, 0)⟩ :: ⟨srb, true, .row srow 126 (0, 0)⟩ :: (Cs ++ Ht)) := by
 refine GC.weak hsub ?_
 clear hsub
 have hn0 := hn
 cases hn with
 | @mk path idx wild nt pr h full kids _ bs kv hv Hs hm hs hsm hbl hh hk =>
 simp only [n_path, n_wild] at *
 obtain ⟨ad, cap, rfl⟩ := hs.slice
 obtain ⟨ad2, l2, c2, rfl, hnn⟩ := hh.slice
 subst hss
 have hsc2 : sk2.length + 1 ≤ cS := by simpa using hsc
 refine GC.seq ?_
 refine GC.seq ?_
 refine GC.reg ?_
 refine G.m1 ?_
 refine G.v (V.nc rfl) rfl ?_
 refine G.v (V.fa F107_2 rfl) rfl ?_
 refine G.v (V.ld (b := nb) (off := 0 + 2) (wf := true) (l := nodeR path idx wild nt pr (.slice ad kids.length cap) (.slice ad2 l2 c2) full) (T := 107) (fz := (0, 0)) (v := .bool wild) Try.isAgg4 rfl (m5 hm) rfl) rfl ?_
 refine G.v (V.not rfl) rfl ?_
 refine G.nil ?_
 refine GC.cond rfl (fun h139 => ?_) (fun h139 => absurd h139 (by rw [hw]; decide))
 refine GC.seq ?_
 refine GC.seq ?_
 refine GC.reg ?_
 refine G.m1 ?_
 refine G.v (V.neS rfl rfl) rfl ?_
 refine G.nil ?_
 refine GC.cond rfl (fun h141 => ?_) (fun h141 => absurd h141 (by simpa using hp47))
 refine GC.seq ?_
 refine GC.reg ?_
 refine G.m1 ?_
 refine G.v (V.nc rfl) rfl ?_
 refine G.v (V.ld (b := qb) (off := 0) (wf := true) (l := [.slice (some ⟨srb, 0, none⟩) (s :: sk2).length cS]) (T := 111) (fz := (0, 0)) (v := .slice (some ⟨srb, 0, none⟩) (s :: sk2).length cS) Try.isAgg111 rfl (m3 (.head _)) rfl) rfl ?_
 refine G.v (V.lenL Try.underlying111 rfl) rfl ?_
 refine G.m2 ?_
 refine G.nil ?_
 refine GC.block ?_
 refine GC.loop ?_
 refine GC.seq ?_
 refine GC.seq ?_
 refine GC.reg ?_
 refine G.m1 ?_
 refine G.v (V.gt rfl rfl) rfl ?_
 refine G.nil ?_
 refine GC.condD rfl (fun h147 => ?_) (fun h147 => absurd (by rw [List.length_cons]; omega) h147)
 refine GC.skip ?_
 refine GC.seq ?_
 refine GC.block ?_
 refine GC.seq ?_
 refine GC.reg ?_
 refine G.m1 ?_
 refine G.v (V.nc rfl) rfl ?_
 obtain ⟨ob2, hob, hrs⟩ := hsk.top
 refine G.v (V.ld (b := qb) (off := 0) (wf := true) (l := [.slice (some ⟨srb, 0, none⟩) (s :: sk2).length cS]) (T := 111) (fz := (0, 0)) (v := .slice (some ⟨srb, 0, none⟩) (s :: sk2).length cS) Try.isAgg111 rfl (m3 (.head _)) rfl) rfl ?_
 refine G.m1 ?_
 refine G.v (V.subI (r := ((sk2.length : Nat) : Int)) rfl rfl (by simp) (by omega) (by omega)) rfl ?_
 refine G.v (V.ia (i := sk2.length) Try.underlying111 Try.sizeOf126 rfl rfl (by simp)) rfl ?_
 refine G.v (V.ldA (b := srb) (off := 0 + sk2.length * 3) (s := 3) (wf := true) (l := srow) (T := 126) (fz := (0, 0)) (cs := [S s.path, Pt ob2 0, .int .i16 (s.cnt : Int)]) Try.isAgg126 Try.sizeOf126 rfl (m4 (.head _)) (by rw [show 0 + sk2.length * 3 = 3 * sk2.length by omega]; exact hob) rfl) rfl ?_
 refine G.al Try.zeroValue126 rfl rfl (fun ob hob3 => ?_)
 refine G.stA (cs := [S s.path, Pt ob2 0, .int .i16 (s.cnt : Int)]) Try.sizeOf126 rfl rfl (by simp [Value.oneCell']) .z rfl ?_
 refine G.nil ?_
 refine GC.turn (H' := ⟨ob, true, .row [S s.path, Pt ob2 0, .int .i16 (s.cnt : Int)] 126 (0, 0)⟩ :: (⟨vb, true, .row [(.slice none 0 0), (pV pb has), .bool false, (S [])] 114 (0, 0)⟩ :: ⟨pb, true, .row [.slice (some ⟨prb, 0, none⟩) ps.length cP] 96 (0, 0)⟩ :: ⟨prb, true, .row prow 100 (0, 0)⟩ :: ⟨qb, true, .row [.slice (some ⟨srb, 0, none⟩) (s :: sk2).length cS] 111 (0, 0)⟩ :: ⟨srb, true, .row srow 126 (0, 0)⟩ :: (Cs ++ Ht))) (fun w1 h1 => h1) ?_
 refine GC.seq ?_
 refine GC.reg ?_
 refine G.m1 ?_
 refine G.m1 ?_
 refine G.v (V.nc rfl) rfl ?_
 refine G.v (V.ld (b := qb) (off := 0) (wf := true) (l := [.slice (some ⟨srb, 0, none⟩) (s :: sk2).length cS]) (T := 111) (fz := (0, 0)) (v := .slice (some ⟨srb, 0, none⟩) (s :: sk2).length cS) Try.isAgg111 rfl (m4 (.head _)) rfl) rfl ?_
 refine G.m1 ?_
 refine G.v (V.subI (r := ((sk2.length : Nat) : Int)) rfl rfl (by simp) (by omega) (by omega)) rfl ?_
 refine G.v (V.slTH (i := sk2.length) Try.underlying111 Try.sizeOf126 rfl rfl (by simp at hsc; omega)) rfl ?_
 refine G.v (V.nc rfl) rfl ?_
 refine G.st (b := qb) (off := 0) (l := [.slice (some ⟨srb, 0, none⟩) (s :: sk2).length cS]) (T := 111) (fz := (0, 0)) (v := .slice (some ⟨srb, 0, none⟩) sk2.length cS) Try.sizeOf111 rfl rfl rfl (.s (.s (.s (.s .z)))) rfl rfl ?_
 refine G.nil ?_
 refine GC.turn (H' := ⟨ob, true, .row [S s.path, Pt ob2 0, .int .i16 (s.cnt : Int)] 126 (0, 0)⟩ :: (⟨vb, true, .row [(.slice none 0 0), (pV pb has), .bool false, (S [])] 114 (0, 0)⟩ :: ⟨pb, true, .row [.slice (some ⟨prb, 0, none⟩) ps.length cP] 96 (0, 0)⟩ :: ⟨prb, true, .row prow 100 (0, 0)⟩ :: ⟨qb, true, .row [.slice (some ⟨srb, 0, none⟩) sk2.length cS] 111 (0, 0)⟩ :: ⟨srb, true, .row srow 126 (0, 0)⟩ :: (Cs ++ Ht))) (fun w1 h1 => h1) ?_
 refine GC.seq ?_
 refine GC.reg ?_
 refine G.v (V.fa F126_0 rfl) rfl ?_
 refine G.v (V.ld (b := ob) (off := 0 + 0) (wf := true) (l := [S s.path, Pt ob2 0, .int .i16 (s.cnt : Int)]) (T := 126) (fz := (0, 0)) (v := S s.path) Try.isAgg9 rfl (.head _) rfl) rfl ?_
 refine G.m1 ?_
 refine G.callP (v := .bool true) Try.call50 rfl rfl (fun w1 hw1 => by have := f50_any w1 s.path p (by omega) (by omega); rw [decide_eq_true hsuf] at this; exact this) ?_
 refine G.nil ?_
 refine GC.condT rfl ?_
 refine GC.seq ?_
 refine GC.reg ?_
 refine G.v (V.fa F126_0 rfl) rfl ?_
 refine G.v (V.ld (b := ob) (off := 0 + 0) (wf := true) (l := [S s.path, Pt ob2 0, .int .i16 (s.cnt : Int)]) (T := 126) (fz := (0, 0)) (v := S s.path) Try.isAgg9 rfl (.head _) rfl) rfl ?_
 refine G.m2 ?_
 refine G.nil ?_
 refine GC.seq ?_
 refine GC.reg ?_
 refine G.v (V.fa F126_1 rfl) rfl ?_
 refine G.v (V.ld (b := ob) (off := 0 + 1) (wf := true) (l := [S s.path, Pt ob2 0, .int .i16 (s.cnt : Int)]) (T := 126) (fz := (0, 0)) (v := Pt ob2 0) Try.isAgg89 rfl (.head _) rfl) rfl ?_
 refine G.m2 ?_
 refine G.nil ?_
 refine GC.seq ?_
 refine GC.seq ?_
 refine GC.reg ?_
 refine G.v (V.fa F114_1 rfl) rfl ?_
 refine G.v (V.ld (b := vb) (off := 0 + 1) (wf := true) (l := [.slice none 0 0, pV pb has, .bool false, S []]) (T := 114) (fz := (0, 0)) (v := pV pb has) Try.isAgg112 rfl (.tail _ (.head _)) rfl) rfl ?_
 refine G.v (v := .bool has) (neP_pV Try.underlying112 rfl) rfl ?_
 refine G.nil ?_
 have hcnl : (ps.take s.cnt).length = s.cnt := by simp; omega
 refine GC.join (fun fr' H' => Sub [(0, Pt ob2 0), (1, S s.path), (2, Pt pb 0), (3, Pt qb 0), (4, .bool un), (10, Pt vb 0), (18, Pt ob 0)] fr' ∧ H' = ⟨ob, true, .row [S s.path, Pt ob2 0, .int .i16 (s.cnt : Int)] 126 (0, 0)⟩ :: (⟨vb, true, .row [(.slice none 0 0), (pV pb has), .bool false, (S [])] 114 (0, 0)⟩ :: ⟨pb, true, .row [.slice (some ⟨prb, 0, none⟩) (ps.take s.cnt).length cP] 96 (0, 0)⟩ :: ⟨prb, true, .row prow 100 (0, 0)⟩ :: ⟨qb, true, .row [.slice (some ⟨srb, 0, none⟩) sk2.length cS] 111 (0, 0)⟩ :: ⟨srb, true, .row srow 126 (0, 0)⟩ :: (Cs ++ Ht))) (fun JP => ?_) ?_
 ·refine GC.cond rfl (fun h175 => ?_) (fun h175 => ?_)
  ·have hht : has = true := by simpa using h175
   subst hht
   refine GC.regT 10 mixed (by kernel_rfl) rfl rfl ?_
   refine GS.v (V.fa F114_1 rfl) rfl ?_
   refine GS.v (V.ld (b := vb) (off := 0 + 1) (wf := true) (l := [.slice none 0 0, pV pb true, .bool false, S []]) (T := 114) (fz := (0, 0)) (v := Pt pb 0) Try.isAgg112 rfl (.tail _ (.head _)) rfl) rfl ?_
   refine GS.v (V.fa F114_1 rfl) rfl ?_
   refine GS.v (V.ld (b := vb) (off := 0 + 1) (wf := true) (l := [.slice none 0 0, pV pb true, .bool false, S []]) (T := 114) (fz := (0, 0)) (v := Pt pb 0) Try.isAgg112 rfl (.tail _ (.head _)) rfl) rfl ?_
   refine GS.v (V.nc rfl) rfl ?_
   refine GS.v (V.ld (b := pb) (off := 0) (wf := true) (l := [.slice (some ⟨prb, 0, none⟩) ps.length cP]) (T := 96) (fz := (0, 0)) (v := .slice (some ⟨prb, 0, none⟩) ps.length cP) Try.isAgg96 rfl (m2 (.head _)) rfl) rfl ?_
   refine GS.v (V.fa F126_2 rfl) rfl ?_
   refine GS.v (V.ld (b := ob) (off := 0 + 2) (wf := true) (l := [S s.path, Pt ob2 0, .int .i16 (s.cnt : Int)]) (T := 126) (fz := (0, 0)) (v := .int .i16 (s.cnt : Int)) Try.isAgg124 rfl (.head _) rfl) rfl ?_
   refine GS.v (V.slTH (i := s.cnt) Try.underlying96 Try.sizeOf100 rfl rfl (by omega)) rfl ?_
   refine GS.v (V.nc rfl) rfl ?_
   refine GS.nil ?_
   refine G.st (b := pb) (off := 0) (l := [.slice (some ⟨prb, 0, none⟩) ps.length cP]) (T := 96) (fz := (0, 0)) (v := .slice (some ⟨prb, 0, none⟩) s.cnt cP) Try.sizeOf96 rfl rfl rfl (.s (.s .z)) rfl rfl ?_
   refine G.nil ?_
   refine JP _ _ ⟨.of rfl, ?_⟩
   rw [hcnl]
   rfl
  refine GC.skip ?_
  have hhf : has = false := by simpa using h175
  have hp0 := hhas hhf
  subst hp0
  refine JP _ _ ⟨.of rfl, ?_⟩
  rw [List.take_nil]
 rintro fr' H' ⟨hsjp, rfl⟩
 refine GC.weak hsjp ?_
 clear hsjp
 refine GC.seq ?_
 refine GC.reg ?_
 refine G.v (V.fa F126_2 rfl) rfl ?_
 refine G.v (V.ld (b := ob) (off := 0 + 2) (wf := true) (l := [S s.path, Pt ob2 0, .int .i16 (s.cnt : Int)]) (T := 126) (fz := (0, 0)) (v := .int .i16 (s.cnt : Int)) Try.isAgg124 rfl (.head _) rfl) rfl ?_
 refine G.m2 ?_
 refine G.nil ?_
 refine GC.exit rfl ?_
 refine GC.inLoop ?_
 refine GC.turn (H' := (⟨vb, true, .row [(.slice none 0 0), (pV pb has), .bool false, (S [])] 114 (0, 0)⟩ :: ⟨pb, true, .row [.slice (some ⟨prb, 0, none⟩) (ps.take s.cnt).length cP] 96 (0, 0)⟩ :: ⟨prb, true, .row prow 100 (0, 0)⟩ :: ⟨qb, true, .row [.slice (some ⟨srb, 0, none⟩) sk2.length cS] 111 (0, 0)⟩ :: ⟨srb, true, .row srow 126 (0, 0)⟩ :: (Cs ++ Ht))) (fun w1 h1 => h1.sub (List.sublist_cons_self _ _)) ?_
 exact go ob2 has prow srow Cs _ hrs hpr (prt_take hprt hcn) hsr hsk.pop (fun h => by rw [hhas h]; simp) (by rw [hcnl]; exact .of rfl)
theorem g76_popE {R : Ending → World → Prop} {w : World} {D : Nat → Prop} {vb pb prb qb srb cP cS : Nat} {un : Bool} {Ht : SH} {n : T0} {p : List UInt8} {ps : List (List UInt8 × List UInt8)} {sk : List Sk} {nb : Nat} {has : Bool} {prow srow : List Value} {Cs : SH} {fr : SF} {_c : UInt8}
  (hn : Rd Ht Cs n nb) (hpr : prow.length = 2 * cP) (hprt : prow.take (2 * ps.length) = flatP ps) (hsr : srow.length = 3 * cS) (hsk : SkRow Ht Cs srow sk) (hhas : has = false → ps = []) (hpl : p.length ≤ 100000) (hpc : ps.length ≤ cP) (_hcP : cP ≤ 20000) (hsc : sk.length ≤ cS) (hcS : cS ≤ 20000) (hsub : Sub [(0, Pt nb 0), (1, S p), (2, Pt pb 0), (3, Pt qb 0), (4, .bool un), (10, Pt vb 0), (11, .int .i16 (ps.length : Int)), (12, S n.path)] fr) {s : Sk} {sk2 : List Sk} (hss : sk = s :: sk2) (hsuf : p <:+ s.path) (hcn : s.cnt ≤ ps.length) (hspl : s.path.length ≤ 100000) (hh0 : n.h = none) (hp47 : p ≠ [47])
  (go : Lp R w D vb pb prb qb srb cP cS un Ht s.node s.path (ps.take s.cnt) sk2) :
  GC Try.prog ⟨76, Try.f76, R, w, D⟩ 703 K76e fr (⟨vb, true, .row [(.slice none 0 0), (pV pb has), .bool false, (S [])] 114 (0, 0)⟩ :: ⟨pb, true, .row [.slice (some ⟨prb, 0, none⟩) ps.length cP] 96 (0, 0)⟩ :: ⟨prb, true, .row prow 100 (0, 0)⟩ :: ⟨qb, true, .row [.slice (some ⟨srb, 0, none⟩) sk.length cS] 111 (0, 0)⟩ :: ⟨srb, true, .row srow 126 (0, 0)⟩ :: (Cs ++ Ht)) := by
 refine GC.weak hsub ?_
 clear hsub
 have hn0 := hn
 cases hn with
 | @mk path idx wild nt pr h full kids _ bs kv hv Hs hm hs hsm hbl hh hk =>
 simp only [n_path, n_h] at *
 obtain ⟨ad, cap, rfl⟩ := hs.slice
 obtain ⟨ad2, l2, c2, rfl, hnn⟩ := hh.slice
 subst hss
 have hsc2 : sk2.length + 1 ≤ cS := by simpa using hsc
 refine GC.seq ?_
 refine GC.seq ?_
 refine GC.join (fun fr' H' => Sub [(0, Pt nb 0), (1, S p), (2, Pt pb 0), (3, Pt qb 0), (4, .bool un), (10, Pt vb 0), (11, .int .i16 (ps.length : Int)), (12, S path), (470, .bool true)] fr' ∧ H' = (⟨vb, true, .row [(.slice none 0 0), (pV pb has), .bool false, (S [])] 114 (0, 0)⟩ :: ⟨pb, true, .row [.slice (some ⟨prb, 0, none⟩) ps.length cP] 96 (0, 0)⟩ :: ⟨prb, true, .row prow 100 (0, 0)⟩ :: ⟨qb, true, .row [.slice (some ⟨srb, 0, none⟩) (s :: sk2).length cS] 111 (0, 0)⟩ :: ⟨srb, true, .row srow 126 (0, 0)⟩ :: (Cs ++ Ht))) (fun J89 => ?_) ?_
 ·refine GC.reg ?_
  refine G.m1 ?_
  refine G.v (V.nc rfl) rfl ?_
  refine G.v (V.fa F107_6 rfl) rfl ?_
  refine G.v (V.ld (b := nb) (off := 0 + 6) (wf := true) (l := nodeR path idx wild nt pr (.slice ad kids.length cap) (.slice ad2 l2 c2) full) (T := 107) (fz := (0, 0)) (v := .slice ad2 l2 c2) Try.isAgg94 rfl (m5 hm) rfl) rfl ?_
  refine G.v (V.eqL Try.underlying94 rfl) rfl ?_
  refine G.m1 ?_
  refine G.bc 467 rfl (fun h467 => ?_) (fun h467 => ?_)
  ·refine G.m5 ?_
   refine G.vg rfl rfl (V.neS rfl rfl) rfl ?_
   refine G.m3 ?_
   refine G.nil ?_
   refine J89 _ _ ⟨?_, rfl⟩
   have e : (!decide (p = [47])) = true := by simpa using hp47
   rw [e]
   exact .of rfl
  ·refine G.s1 ?_
   refine G.s1 ?_
   refine G.m4 ?_
   refine G.nil ?_
   exact absurd h467 (by rw [hnn, hh0]; decide)
 rintro fr' H' ⟨hs89, rfl⟩
 refine GC.weak hs89 ?_
 clear hs89
 refine GC.condT rfl ?_
 refine GC.seq ?_
 refine GC.reg ?_
 refine G.m1 ?_
 refine G.v (V.nc rfl) rfl ?_
 refine G.v (V.ld (b := qb) (off := 0) (wf := true) (l := [.slice (some ⟨srb, 0, none⟩) (s :: sk2).length cS]) (T := 111) (fz := (0, 0)) (v := .slice (some ⟨srb, 0, none⟩) (s :: sk2).length cS) Try.isAgg111 rfl (m3 (.head _)) rfl) rfl ?_
 refine G.v (V.lenL Try.underlying111 rfl) rfl ?_
 refine G.m2 ?_
 refine G.nil ?_
 refine GC.block ?_
 refine GC.loop ?_
 refine GC.seq ?_
 refine GC.seq ?_
 refine GC.reg ?_
 refine G.m1 ?_
 refine G.v (V.gt rfl rfl) rfl ?_
 refine G.nil ?_
 refine GC.condD rfl (fun h476 => ?_) (fun h476 => absurd (by rw [List.length_cons]; omega) h476)
 refine GC.skip ?_
 refine GC.seq ?_
 refine GC.block ?_
 refine GC.seq ?_
 refine GC.reg ?_
 refine G.m1 ?_
 refine G.v (V.nc rfl) rfl ?_
 obtain ⟨ob2, hob, hrs⟩ := hsk.top
 refine G.v (V.ld (b := qb) (off := 0) (wf := true) (l := [.slice (some ⟨srb, 0, none⟩) (s :: sk2).length cS]) (T := 111) (fz := (0, 0)) (v := .slice (some ⟨srb, 0, none⟩) (s :: sk2).length cS) Try.isAgg111 rfl (m3 (.head _)) rfl) rfl ?_
 refine G.m1 ?_
 refine G.v (V.subI (r := ((sk2.length : Nat) : Int)) rfl rfl (by simp) (by omega) (by omega)) rfl ?_
 refine G.v (V.ia (i := sk2.length) Try.underlying111 Try.sizeOf126 rfl rfl (by simp)) rfl ?_
 refine G.v (V.ldA (b := srb) (off := 0 + sk2.length * 3) (s := 3) (wf := true) (l := srow) (T := 126) (fz := (0, 0)) (cs := [S s.path, Pt ob2 0, .int .i16 (s.cnt : Int)]) Try.isAgg126 Try.sizeOf126 rfl (m4 (.head _)) (by rw [show 0 + sk2.length * 3 = 3 * sk2.length by omega]; exact hob) rfl) rfl ?_
 refine G.al Try.zeroValue126 rfl rfl (fun ob hob3 => ?_)
 refine G.stA (cs := [S s.path, Pt ob2 0, .int .i16 (s.cnt : Int)]) Try.sizeOf126 rfl rfl (by simp [Value.oneCell']) .z rfl ?_
 refine G.nil ?_
 refine GC.turn (H' := ⟨ob, true, .row [S s.path, Pt ob2 0, .int .i16 (s.cnt : Int)] 126 (0, 0)⟩ :: (⟨vb, true, .row [(.slice none 0 0), (pV pb has), .bool false, (S [])] 114 (0, 0)⟩ :: ⟨pb, true, .row [.slice (some ⟨prb, 0, none⟩) ps.length cP] 96 (0, 0)⟩ :: ⟨prb, true, .row prow 100 (0, 0)⟩ :: ⟨qb, true, .row [.slice (some ⟨srb, 0, none⟩) (s :: sk2).length cS] 111 (0, 0)⟩ :: ⟨srb, true, .row srow 126 (0, 0)⟩ :: (Cs ++ Ht))) (fun w1 h1 => h1) ?_
 refine GC.seq ?_
 refine GC.reg ?_
 refine G.m1 ?_
 refine G.m1 ?_
 refine G.v (V.nc rfl) rfl ?_
 refine G.v (V.ld (b := qb) (off := 0) (wf := true) (l := [.slice (some ⟨srb, 0, none⟩) (s :: sk2).length cS]) (T := 111) (fz := (0, 0)) (v := .slice (some ⟨srb, 0, none⟩) (s :: sk2).length cS) Try.isAgg111 rfl (m4 (.head _)) rfl) rfl ?_
 refine G.m1 ?_
 refine G.v (V.subI (r := ((sk2.length : Nat) : Int)) rfl rfl (by simp) (by omega) (by omega)) rfl ?_
 refine G.v (V.slTH (i := sk2.length) Try.underlying111 Try.sizeOf126 rfl rfl (by simp at hsc; omega)) rfl ?_
 refine G.v (V.nc rfl) rfl ?_
 refine G.st (b := qb) (off := 0) (l := [.slice (some ⟨srb, 0, none⟩) (s :: sk2).length cS]) (T := 111) (fz := (0, 0)) (v := .slice (some ⟨srb, 0, none⟩) sk2.length cS) Try.sizeOf111 rfl rfl rfl (.s (.s (.s (.s .z)))) rfl rfl ?_
 refine G.nil ?_
 refine GC.turn (H' := ⟨ob, true, .row [S s.path, Pt ob2 0, .int .i16 (s.cnt : Int)] 126 (0, 0)⟩ :: (⟨vb, true, .row [(.slice none 0 0), (pV pb has), .bool false, (S [])] 114 (0, 0)⟩ :: ⟨pb, true, .row [.slice (some ⟨prb, 0, none⟩) ps.length cP] 96 (0, 0)⟩ :: ⟨prb, true, .row prow 100 (0, 0)⟩ :: ⟨qb, true, .row [.slice (some ⟨srb, 0, none⟩) sk2.length cS] 111 (0, 0)⟩ :: ⟨srb, true, .row srow 126 (0, 0)⟩ :: (Cs ++ Ht))) (fun w1 h1 => h1) ?_
 refine GC.seq ?_
 refine GC.reg ?_
 refine G.v (V.fa F126_0 rfl) rfl ?_
 refine G.v (V.ld (b := ob) (off := 0 + 0) (wf := true) (l := [S s.path, Pt ob2 0, .int .i16 (s.cnt : Int)]) (T := 126) (fz := (0, 0)) (v := S s.path) Try.isAgg9 rfl (.head _) rfl) rfl ?_
 refine G.m1 ?_
 refine G.callP (v := .bool true) Try.call50 rfl rfl (fun w1 hw1 => by have := f50_any w1 s.path p (by omega) (by omega); rw [decide_eq_true hsuf] at this; exact this) ?_
 refine G.nil ?_
 refine GC.condT rfl ?_
 refine GC.seq ?_
 refine GC.reg ?_
 refine G.v (V.fa F126_0 rfl) rfl ?_
 refine G.v (V.ld (b := ob) (off := 0 + 0) (wf := true) (l := [S s.path, Pt ob2 0, .int .i16 (s.cnt : Int)]) (T := 126) (fz := (0, 0)) (v := S s.path) Try.isAgg9 rfl (.head _) rfl) rfl ?_
 refine G.m2 ?_
 refine G.nil ?_
 refine GC.seq ?_
 refine GC.reg ?_
 refine G.v (V.fa F126_1 rfl) rfl ?_
 refine G.v (V.ld (b := ob) (off := 0 + 1) (wf := true) (l := [S s.path, Pt ob2 0, .int .i16 (s.cnt : Int)]) (T := 126) (fz := (0, 0)) (v := Pt ob2 0) Try.isAgg89 rfl (.head _) rfl) rfl ?_
 refine G.m2 ?_
 refine G.nil ?_
 refine GC.seq ?_
 refine GC.seq ?_
 refine GC.reg ?_
 refine G.v (V.fa F114_1 rfl) rfl ?_
 refine G.v (V.ld (b := vb) (off := 0 + 1) (wf := true) (l := [.slice none 0 0, pV pb has, .bool false, S []]) (T := 114) (fz := (0, 0)) (v := pV pb has) Try.isAgg112 rfl (.tail _ (.head _)) rfl) rfl ?_
 refine G.v (v := .bool has) (neP_pV Try.underlying112 rfl) rfl ?_
 refine G.nil ?_
 have hcnl : (ps.take s.cnt).length = s.cnt := by simp; omega
 refine GC.join (fun fr' H' => Sub [(0, Pt ob2 0), (1, S s.path), (2, Pt pb 0), (3, Pt qb 0), (4, .bool un), (10, Pt vb 0), (31, Pt ob 0)] fr' ∧ H' = ⟨ob, true, .row [S s.path, Pt ob2 0, .int .i16 (s.cnt : Int)] 126 (0, 0)⟩ :: (⟨vb, true, .row [(.slice none 0 0), (pV pb has), .bool false, (S [])] 114 (0, 0)⟩ :: ⟨pb, true, .row [.slice (some ⟨prb, 0, none⟩) (ps.take s.cnt).length cP] 96 (0, 0)⟩ :: ⟨prb, true, .row prow 100 (0, 0)⟩ :: ⟨qb, true, .row [.slice (some ⟨srb, 0, none⟩) sk2.length cS] 111 (0, 0)⟩ :: ⟨srb, true, .row srow 126 (0, 0)⟩ :: (Cs ++ Ht))) (fun JP => ?_) ?_
 ·refine GC.cond rfl (fun h504 => ?_) (fun h504 => ?_)
  ·have hht : has = true := by simpa using h504
   subst hht
   refine GC.regT 10 mixed (by kernel_rfl) rfl rfl ?_
   refine GS.v (V.fa F114_1 rfl) rfl ?_
   refine GS.v (V.ld (b := vb) (off := 0 + 1) (wf := true) (l := [.slice none 0 0, pV pb true, .bool false, S []]) (T := 114) (fz := (0, 0)) (v := Pt pb 0) Try.isAgg112 rfl (.tail _ (.head _)) rfl) rfl ?_
   refine GS.v (V.fa F114_1 rfl) rfl ?_
   refine GS.v (V.ld (b := vb) (off := 0 + 1) (wf := true) (l := [.slice none 0 0, pV pb true, .bool false, S []]) (T := 114) (fz := (0, 0)) (v := Pt pb 0) Try.isAgg112 rfl (.tail _ (.head _)) rfl) rfl ?_
   refine GS.v (V.nc rfl) rfl ?_
   refine GS.v (V.ld (b := pb) (off := 0) (wf := true) (l := [.slice (some ⟨prb, 0, none⟩) ps.length cP]) (T := 96) (fz := (0, 0)) (v := .slice (some ⟨prb, 0, none⟩) ps.length cP) Try.isAgg96 rfl (m2 (.head _)) rfl) rfl ?_
   refine GS.v (V.fa F126_2 rfl) rfl ?_
   refine GS.v (V.ld (b := ob) (off := 0 + 2) (wf := true) (l := [S s.path, Pt ob2 0, .int .i16 (s.cnt : Int)]) (T := 126) (fz := (0, 0)) (v := .int .i16 (s.cnt : Int)) Try.isAgg124 rfl (.head _) rfl) rfl ?_
   refine GS.v (V.slTH (i := s.cnt) Try.underlying96 Try.sizeOf100 rfl rfl (by omega)) rfl ?_
   refine GS.v (V.nc rfl) rfl ?_
   refine GS.nil ?_
   refine G.st (b := pb) (off := 0) (l := [.slice (some ⟨prb, 0, none⟩) ps.length cP]) (T := 96) (fz := (0, 0)) (v := .slice (some ⟨prb, 0, none⟩) s.cnt cP) Try.sizeOf96 rfl rfl rfl (.s (.s .z)) rfl rfl ?_
   refine G.nil ?_
   refine JP _ _ ⟨.of rfl, ?_⟩
   rw [hcnl]
   rfl
  refine GC.skip ?_
  have hhf : has = false := by simpa using h504
  have hp0 := hhas hhf
  subst hp0
  refine JP _ _ ⟨.of rfl, ?_⟩
  rw [List.take_nil]
 rintro fr' H' ⟨hsjp, rfl⟩
 refine GC.weak hsjp ?_
 clear hsjp
 refine GC.seq ?_
 refine GC.reg ?_
 refine G.v (V.fa F126_2 rfl) rfl ?_
 refine G.v (V.ld (b := ob) (off := 0 + 2) (wf := true) (l := [S s.path, Pt ob2 0, .int .i16 (s.cnt : Int)]) (T := 126) (fz := (0, 0)) (v := .int .i16 (s.cnt : Int)) Try.isAgg124 rfl (.head _) rfl) rfl ?_
 refine G.m2 ?_
 refine G.nil ?_
 refine GC.exit rfl ?_
 refine GC.inLoop ?_
 refine GC.turn (H' := (⟨vb, true, .row [(.slice none 0 0), (pV pb has), .bool false, (S [])] 114 (0, 0)⟩ :: ⟨pb, true, .row [.slice (some ⟨prb, 0, none⟩) (ps.take s.cnt).length cP] 96 (0, 0)⟩ :: ⟨prb, true, .row prow 100 (0, 0)⟩ :: ⟨qb, true, .row [.slice (some ⟨srb, 0, none⟩) sk2.length cS] 111 (0, 0)⟩ :: ⟨srb, true, .row srow 126 (0, 0)⟩ :: (Cs ++ Ht))) (fun w1 h1 => h1.sub (List.sublist_cons_self _ _)) ?_
 exact go ob2 has prow srow Cs _ hrs hpr (prt_take hprt hcn) hsr hsk.pop (fun h => by rw [hhas h]; simp) (by rw [hcnl]; exact .of rfl)
/-- .. what is recommended is known -/
noncomputable def K76x : List Item := mid7 K76m
theorem path_snoc {path p : List UInt8} (hl : path.length = p.length + 1) (hy : path[p.length]? = some 47) (hp : p = path.take p.length) : path = p ++ [47] := by
 have h1 := List.take_append_drop p.length path
 rw [← hp] at h1
 rw [← h1, drop_cons hy, List.drop_of_length_le (by omega)]
theorem g76_mis {R : Ending → World → Prop} {w : World} {D : Nat → Prop} {vb pb prb qb srb cP cS : Nat} {un : Bool} {Ht : SH} {n : T0} {p : List UInt8} {ps : List (List UInt8 × List UInt8)} {sk : List Sk} {nb : Nat} {has : Bool} {prow srow : List Value} {Cs : SH} {fr : SF} {_c : UInt8}
  (hn : Rd Ht Cs n nb) (_hpr : prow.length = 2 * cP) (_hprt : prow.take (2 * ps.length) = flatP ps) (_hsr : srow.length = 3 * cS) (_hsk : SkRow Ht Cs srow sk) (_hhas : has = false → ps = []) (hpl : p.length ≤ 100000) (_hpc : ps.length ≤ cP) (_hcP : cP ≤ 20000) (_hsc : sk.length ≤ cS) (_hcS : cS ≤ 20000) (hsub : Sub [(0, Pt nb 0), (1, S p), (2, Pt pb 0), (3, Pt qb 0), (4, .bool un), (10, Pt vb 0), (11, .int .i16 (ps.length : Int)), (12, S n.path)] fr) 
  (go : ∀ fr', Sub [(0, Pt nb 0), (1, S p), (2, Pt pb 0), (3, Pt qb 0), (4, .bool un), (10, Pt vb 0), (11, .int .i16 (ps.length : Int)), (12, S n.path)] fr' → GC Try.prog ⟨76, Try.f76, R, w, D⟩ 703 K76x fr' (⟨vb, true, .row [(.slice none 0 0), (pV pb has), .bool (decide (p = [47]) || (decide (n.path = p ++ [47]) && n.h.isSome)), (S [])] 114 (0, 0)⟩ :: ⟨pb, true, .row [.slice (some ⟨prb, 0, none⟩) ps.length cP] 96 (0, 0)⟩ :: ⟨prb, true, .row prow 100 (0, 0)⟩ :: ⟨qb, true, .row [.slice (some ⟨srb, 0, none⟩) sk.length cS] 111 (0, 0)⟩ :: ⟨srb, true, .row srow 126 (0, 0)⟩ :: (Cs ++ Ht))) :
  GC Try.prog ⟨76, Try.f76, R, w, D⟩ 703 K76m fr (⟨vb, true, .row [(.slice none 0 0), (pV pb has), .bool false, (S [])] 114 (0, 0)⟩ :: ⟨pb, true, .row [.slice (some ⟨prb, 0, none⟩) ps.length cP] 96 (0, 0)⟩ :: ⟨prb, true, .row prow 100 (0, 0)⟩ :: ⟨qb, true, .row [.slice (some ⟨srb, 0, none⟩) sk.length cS] 111 (0, 0)⟩ :: ⟨srb, true, .row srow 126 (0, 0)⟩ :: (Cs ++ Ht)) := by
 refine GC.weak hsub ?_
 clear hsub
 have hn0 := hn
 cases hn with
 | @mk path idx wild nt pr h full kids _ bs kv hv Hs hm hs hsm hbl hh hk =>
 simp only [n_path, n_h] at *
 obtain ⟨ad, cap, rfl⟩ := hs.slice
 obtain ⟨ad2, l2, c2, rfl, hnn⟩ := hh.slice
 refine GC.seq ?_
 refine GC.reg ?_
 refine G.m1 ?_
 refine G.v (V.eqS rfl rfl) rfl ?_
 refine G.m1 ?_
 refine G.bc 617 rfl (fun h617 => ?_) (fun h617 => ?_)
 ·refine G.s1 ?_
  refine G.s1 ?_
  refine G.s1 ?_
  refine G.s1 ?_
  refine G.s1 ?_
  refine G.s1 ?_
  refine G.s1 ?_
  refine G.sgU rfl rfl rfl rfl rfl ?_
  refine G.sgU rfl rfl rfl rfl rfl ?_
  refine G.sgU rfl rfl rfl rfl rfl ?_
  refine G.sgU rfl rfl rfl rfl rfl ?_
  refine G.sgU rfl rfl rfl rfl rfl ?_
  refine G.s1 ?_
  refine G.s1 ?_
  refine G.sgU rfl rfl rfl rfl rfl ?_
  refine G.sgU rfl rfl rfl rfl rfl ?_
  refine G.sgU rfl rfl rfl rfl rfl ?_
  refine G.sgU rfl rfl rfl rfl rfl ?_
  refine G.sgU rfl rfl rfl rfl rfl ?_
  refine G.sgU rfl rfl rfl rfl rfl ?_
  refine G.sgU rfl rfl rfl rfl rfl ?_
  refine G.s1 ?_
  refine G.s1 ?_
  refine G.sgU rfl rfl rfl rfl rfl ?_
  refine G.sgU rfl rfl rfl rfl rfl ?_
  refine G.sgU rfl rfl rfl rfl rfl ?_
  refine G.sgU rfl rfl rfl rfl rfl ?_
  refine G.sgU rfl rfl rfl rfl rfl ?_
  refine G.s1 ?_
  refine G.m3 ?_
  refine G.v (V.fa F114_2 rfl) rfl ?_
  have e : (decide (p = [47]) || (decide (path = p ++ [47]) && h.isSome)) = true := by rw [decide_eq_true (of_decide_eq_true h617)]; rfl
  refine G.st (b := vb) (off := 0 + 2) (l := [.slice none 0 0, pV pb has, .bool false, S []]) (T := 114) (fz := (0, 0)) (v := .bool (true)) Try.sizeOf4 rfl rfl rfl .z rfl rfl ?_
  refine G.nil ?_
  refine GC.turn (H' := (⟨vb, true, .row [(.slice none 0 0), (pV pb has), .bool (decide (p = [47]) || (decide (path = p ++ [47]) && h.isSome)), (S [])] 114 (0, 0)⟩ :: ⟨pb, true, .row [.slice (some ⟨prb, 0, none⟩) ps.length cP] 96 (0, 0)⟩ :: ⟨prb, true, .row prow 100 (0, 0)⟩ :: ⟨qb, true, .row [.slice (some ⟨srb, 0, none⟩) sk.length cS] 111 (0, 0)⟩ :: ⟨srb, true, .row srow 126 (0, 0)⟩ :: (Cs ++ Ht))) (fun w1 h1 => ?_) (go _ (.of rfl))
  rw [e]
  exact h1
 ·refine G.m5 ?_
  refine G.vg rfl rfl (V.lenS Try.underlying9 rfl) rfl ?_
  refine G.m5 ?_
  refine G.vg rfl rfl (V.lenS Try.underlying9 rfl) rfl ?_
  refine G.vg rfl rfl (V.addI (r := ((p.length + 1 : Nat) : Int)) rfl rfl (by omega) (by omega) (by omega)) rfl ?_
  refine G.vg rfl rfl (V.eqI rfl rfl) rfl ?_
  refine G.m5 ?_
  refine G.bc 624 rfl (fun h624 => ?_) (fun h624 => ?_)
  ·refine G.m5 ?_
   refine G.m5 ?_
   refine G.vg rfl rfl (V.lenS Try.underlying9 rfl) rfl ?_
   obtain ⟨y, hy⟩ : ∃ y, path[p.length]? = some y := ⟨_, List.getElem?_eq_getElem (by have := of_decide_eq_true h624; omega)⟩
   refine G.vg rfl rfl (V.idx (i := p.length) (b := y) Try.underlying9 rfl rfl hy) rfl ?_
   refine G.vg rfl rfl (V.eqI rfl rfl) rfl ?_
   refine G.vg rfl rfl (V.pickT rfl rfl) rfl ?_
   refine G.m5 ?_
   refine G.bc 631 rfl (fun h631 => ?_) (fun h631 => ?_)
   ·refine G.m5 ?_
    refine G.m5 ?_
    refine G.m5 ?_
    refine G.vg rfl rfl (V.lenS Try.underlying9 rfl) rfl ?_
    refine G.vg rfl rfl (V.subI (r := ((p.length : Nat) : Int)) rfl rfl (by have := of_decide_eq_true h624; omega) (by omega) (by omega)) rfl ?_
    refine G.vg rfl rfl (V.slH (j := p.length) Try.underlying9 rfl rfl (by have := of_decide_eq_true h624; omega)) rfl ?_
    refine G.vg rfl rfl (V.eqS rfl rfl) rfl ?_
    refine G.vg rfl rfl (V.pickT rfl rfl) rfl ?_
    refine G.m5 ?_
    refine G.bc 640 rfl (fun h640 => ?_) (fun h640 => ?_)
    ·refine G.m5 ?_
     refine G.vg rfl rfl (V.nc rfl) rfl ?_
     refine G.vg rfl rfl (V.fa F107_6 rfl) rfl ?_
     refine G.vg rfl rfl (V.ld (b := nb) (off := 0 + 6) (wf := true) (l := nodeR path idx wild nt pr (.slice ad kids.length cap) (.slice ad2 l2 c2) full) (T := 107) (fz := (0, 0)) (v := .slice ad2 l2 c2) Try.isAgg94 rfl (m5 hm) rfl) rfl ?_
     refine G.vg rfl rfl (V.neL Try.underlying94 rfl) rfl ?_
     refine G.vg rfl rfl (V.pickT rfl rfl) rfl ?_
     refine G.m4 ?_
     refine G.v (V.fa F114_2 rfl) rfl ?_
     have ep := path_snoc (by have := of_decide_eq_true h624; omega) (by rw [hy, u47 (of_decide_eq_true h631)]) (of_decide_eq_true h640)
     have e : (decide (p = [47]) || (decide (path = p ++ [47]) && h.isSome)) = (!ad2.isNone) := by rw [decide_eq_false (of_decide_eq_false h617), decide_eq_true ep, hnn, Bool.false_or, Bool.true_and, Option.not_isNone]
     refine G.st (b := vb) (off := 0 + 2) (l := [.slice none 0 0, pV pb has, .bool false, S []]) (T := 114) (fz := (0, 0)) (v := .bool (!ad2.isNone)) Try.sizeOf4 rfl rfl rfl .z rfl rfl ?_
     refine G.nil ?_
     refine GC.turn (H' := (⟨vb, true, .row [(.slice none 0 0), (pV pb has), .bool (decide (p = [47]) || (decide (path = p ++ [47]) && h.isSome)), (S [])] 114 (0, 0)⟩ :: ⟨pb, true, .row [.slice (some ⟨prb, 0, none⟩) ps.length cP] 96 (0, 0)⟩ :: ⟨prb, true, .row prow 100 (0, 0)⟩ :: ⟨qb, true, .row [.slice (some ⟨srb, 0, none⟩) sk.length cS] 111 (0, 0)⟩ :: ⟨srb, true, .row srow 126 (0, 0)⟩ :: (Cs ++ Ht))) (fun w1 h1 => ?_) (go _ (.of rfl))
     rw [e]
     exact h1
    ·refine G.s1 ?_
     refine G.s1 ?_
     refine G.s1 ?_
     refine G.s1 ?_
     refine G.s1 ?_
     refine G.vg rfl rfl (V.pickF rfl rfl) rfl ?_
     refine G.m4 ?_
     refine G.v (V.fa F114_2 rfl) rfl ?_
     have ep : path ≠ p ++ [47] := fun e2 => of_decide_eq_false h640 (by rw [e2]; simp)
     have e : (decide (p = [47]) || (decide (path = p ++ [47]) && h.isSome)) = false := by rw [decide_eq_false (of_decide_eq_false h617), decide_eq_false ep]; rfl
     refine G.st (b := vb) (off := 0 + 2) (l := [.slice none 0 0, pV pb has, .bool false, S []]) (T := 114) (fz := (0, 0)) (v := .bool (false)) Try.sizeOf4 rfl rfl rfl .z rfl rfl ?_
     refine G.nil ?_
     refine GC.turn (H' := (⟨vb, true, .row [(.slice none 0 0), (pV pb has), .bool (decide (p = [47]) || (decide (path = p ++ [47]) && h.isSome)), (S [])] 114 (0, 0)⟩ :: ⟨pb, true, .row [.slice (some ⟨prb, 0, none⟩) ps.length cP] 96 (0, 0)⟩ :: ⟨prb, true, .row prow 100 (0, 0)⟩ :: ⟨qb, true, .row [.slice (some ⟨srb, 0, none⟩) sk.length cS] 111 (0, 0)⟩ :: ⟨srb, true, .row srow 126 (0, 0)⟩ :: (Cs ++ Ht))) (fun w1 h1 => ?_) (go _ (.of rfl))
     rw [e]
     exact h1
   ·refine G.s1 ?_
    refine G.s1 ?_
    refine G.s1 ?_
    refine G.s1 ?_
    refine G.s1 ?_
    refine G.s1 ?_
    refine G.s1 ?_
    refine G.vg rfl rfl (V.pickF rfl rfl) rfl ?_
    refine G.m5 ?_
    refine G.s1 ?_
    refine G.s1 ?_
    refine G.s1 ?_
    refine G.s1 ?_
    refine G.s1 ?_
    refine G.vg rfl rfl (V.pickF rfl rfl) rfl ?_
    refine G.m4 ?_
    refine G.v (V.fa F114_2 rfl) rfl ?_
    have ep : path ≠ p ++ [47] := fun e2 => by rw [e2] at hy; simp at hy; exact of_decide_eq_false h631 (by rw [← hy]; rfl)
    have e : (decide (p = [47]) || (decide (path = p ++ [47]) && h.isSome)) = false := by rw [decide_eq_false (of_decide_eq_false h617), decide_eq_false ep]; rfl
    refine G.st (b := vb) (off := 0 + 2) (l := [.slice none 0 0, pV pb has, .bool false, S []]) (T := 114) (fz := (0, 0)) (v := .bool (false)) Try.sizeOf4 rfl rfl rfl .z rfl rfl ?_
    refine G.nil ?_
    refine GC.turn (H' := (⟨vb, true, .row [(.slice none 0 0), (pV pb has), .bool (decide (p = [47]) || (decide (path = p ++ [47]) && h.isSome)), (S [])] 114 (0, 0)⟩ :: ⟨pb, true, .row [.slice (some ⟨prb, 0, none⟩) ps.length cP] 96 (0, 0)⟩ :: ⟨prb, true, .row prow 100 (0, 0)⟩ :: ⟨qb, true, .row [.slice (some ⟨srb, 0, none⟩) sk.length cS] 111 (0, 0)⟩ :: ⟨srb, true, .row srow 126 (0, 0)⟩ :: (Cs ++ Ht))) (fun w1 h1 => ?_) (go _ (.of rfl))
    rw [e]
    exact h1
  ·refine G.s1 ?_
   refine G.s1 ?_
   refine G.s1 ?_
   refine G.s1 ?_
   refine G.s1 ?_
   refine G.vg rfl rfl (V.pickF rfl rfl) rfl ?_
   refine G.m5 ?_
   refine G.s1 ?_
   refine G.s1 ?_
   refine G.s1 ?_
   refine G.s1 ?_
   refine G.s1 ?_
   refine G.s1 ?_
   refine G.s1 ?_
   refine G.vg rfl rfl (V.pickF rfl rfl) rfl ?_
   refine G.m5 ?_
   refine G.s1 ?_
   refine G.s1 ?_
   refine G.s1 ?_
   refine G.s1 ?_
   refine G.s1 ?_
   refine G.vg rfl rfl (V.pickF rfl rfl) rfl ?_
   refine G.m4 ?_
   refine G.v (V.fa F114_2 rfl) rfl ?_
   have ep : path ≠ p ++ [47] := fun e2 => of_decide_eq_false h624 (by rw [e2]; simp)
   have e : (decide (p = [47]) || (decide (path = p ++ [47]) && h.isSome)) = false := by rw [decide_eq_false (of_decide_eq_false h617), decide_eq_false ep]; rfl
   refine G.st (b := vb) (off := 0 + 2) (l := [.slice none 0 0, pV pb has, .bool false, S []]) (T := 114) (fz := (0, 0)) (v := .bool (false)) Try.sizeOf4 rfl rfl rfl .z rfl rfl ?_
   refine G.nil ?_
   refine GC.turn (H' := (⟨vb, true, .row [(.slice none 0 0), (pV pb has), .bool (decide (p = [47]) || (decide (path = p ++ [47]) && h.isSome)), (S [])] 114 (0, 0)⟩ :: ⟨pb, true, .row [.slice (some ⟨prb, 0, none⟩) ps.length cP] 96 (0, 0)⟩ :: ⟨prb, true, .row prow 100 (0, 0)⟩ :: ⟨qb, true, .row [.slice (some ⟨srb, 0, none⟩) sk.length cS] 111 (0, 0)⟩ :: ⟨srb, true, .row srow 126 (0, 0)⟩ :: (Cs ++ Ht))) (fun w1 h1 => ?_) (go _ (.of rfl))
   rw [e]
   exact h1
theorem g76_popM {R : Ending → World → Prop} {w : World} {D : Nat → Prop} {vb pb prb qb srb cP cS : Nat} {un : Bool} {Ht : SH} {n : T0} {p : List UInt8} {ps : List (List UInt8 × List UInt8)} {sk : List Sk} {nb : Nat} {has : Bool} {prow srow : List Value} {Cs : SH} {fr : SF} {_c : UInt8}
  (hn : Rd Ht Cs n nb) (hpr : prow.length = 2 * cP) (hprt : prow.take (2 * ps.length) = flatP ps) (hsr : srow.length = 3 * cS) (hsk : SkRow Ht Cs srow sk) (hhas : has = false → ps = []) (hpl : p.length ≤ 100000) (hpc : ps.length ≤ cP) (_hcP : cP ≤ 20000) (hsc : sk.length ≤ cS) (hcS : cS ≤ 20000) (hsub : Sub [(0, Pt nb 0), (1, S p), (2, Pt pb 0), (3, Pt qb 0), (4, .bool un), (10, Pt vb 0), (11, .int .i16 (ps.length : Int)), (12, S n.path)] fr) {s : Sk} {sk2 : List Sk} (hss : sk = s :: sk2) (hsuf : p <:+ s.path) (hcn : s.cnt ≤ ps.length) (hspl : s.path.length ≤ 100000) (hp47 : p ≠ [47])
  (go : Lp R w D vb pb prb qb srb cP cS un Ht s.node s.path (ps.take s.cnt) sk2) :
  GC Try.prog ⟨76, Try.f76, R, w, D⟩ 703 K76x fr (⟨vb, true, .row [(.slice none 0 0), (pV pb has), .bool false, (S [])] 114 (0, 0)⟩ :: ⟨pb, true, .row [.slice (some ⟨prb, 0, none⟩) ps.length cP] 96 (0, 0)⟩ :: ⟨prb, true, .row prow 100 (0, 0)⟩ :: ⟨qb, true, .row [.slice (some ⟨srb, 0, none⟩) sk.length cS] 111 (0, 0)⟩ :: ⟨srb, true, .row srow 126 (0, 0)⟩ :: (Cs ++ Ht)) := by
 refine GC.weak hsub ?_
 clear hsub
 have hn0 := hn
 cases hn with
 | @mk path idx wild nt pr h full kids _ bs kv hv Hs hm hs hsm hbl hh hk =>
 simp only [n_path] at *
 obtain ⟨ad, cap, rfl⟩ := hs.slice
 obtain ⟨ad2, l2, c2, rfl, hnn⟩ := hh.slice
 subst hss
 have hsc2 : sk2.length + 1 ≤ cS := by simpa using hsc
 refine GC.seq ?_
 refine GC.seq ?_
 refine GC.join (fun fr' H' => Sub [(0, Pt nb 0), (1, S p), (2, Pt pb 0), (3, Pt qb 0), (4, .bool un), (10, Pt vb 0), (11, .int .i16 (ps.length : Int)), (12, S path), (655, .bool true)] fr' ∧ H' = (⟨vb, true, .row [(.slice none 0 0), (pV pb has), .bool false, (S [])] 114 (0, 0)⟩ :: ⟨pb, true, .row [.slice (some ⟨prb, 0, none⟩) ps.length cP] 96 (0, 0)⟩ :: ⟨prb, true, .row prow 100 (0, 0)⟩ :: ⟨qb, true, .row [.slice (some ⟨srb, 0, none⟩) (s :: sk2).length cS] 111 (0, 0)⟩ :: ⟨srb, true, .row srow 126 (0, 0)⟩ :: (Cs ++ Ht))) (fun J121 => ?_) ?_
 ·refine GC.reg ?_
  refine G.v (V.fa F114_2 rfl) rfl ?_
  refine G.v (V.ld (b := vb) (off := 0 + 2) (wf := true) (l := [.slice none 0 0, pV pb has, .bool false, S []]) (T := 114) (fz := (0, 0)) (v := .bool false) Try.isAgg4 rfl (.head _) rfl) rfl ?_
  refine G.v (V.not rfl) rfl ?_
  refine G.m1 ?_
  refine G.bc 652 rfl (fun h652 => ?_) (fun h652 => ?_)
  ·refine G.m5 ?_
   refine G.vg rfl rfl (V.neS rfl rfl) rfl ?_
   refine G.m3 ?_
   refine G.nil ?_
   refine J121 _ _ ⟨?_, rfl⟩
   have e : (!decide (p = [47])) = true := by simpa using hp47
   rw [e]
   exact .of rfl
  ·refine G.s1 ?_
   refine G.s1 ?_
   refine G.m4 ?_
   refine G.nil ?_
   exact absurd h652 (by decide)
 rintro fr' H' ⟨hs121, rfl⟩
 refine GC.weak hs121 ?_
 clear hs121
 refine GC.condT rfl ?_
 refine GC.seq ?_
 refine GC.reg ?_
 refine G.m1 ?_
 refine G.v (V.nc rfl) rfl ?_
 refine G.v (V.ld (b := qb) (off := 0) (wf := true) (l := [.slice (some ⟨srb, 0, none⟩) (s :: sk2).length cS]) (T := 111) (fz := (0, 0)) (v := .slice (some ⟨srb, 0, none⟩) (s :: sk2).length cS) Try.isAgg111 rfl (m3 (.head _)) rfl) rfl ?_
 refine G.v (V.lenL Try.underlying111 rfl) rfl ?_
 refine G.m2 ?_
 refine G.nil ?_
 refine GC.block ?_
 refine GC.loop ?_
 refine GC.seq ?_
 refine GC.seq ?_
 refine GC.reg ?_
 refine G.m1 ?_
 refine G.v (V.gt rfl rfl) rfl ?_
 refine G.nil ?_
 refine GC.condD rfl (fun h661 => ?_) (fun h661 => absurd (by rw [List.length_cons]; omega) h661)
 refine GC.skip ?_
 refine GC.seq ?_
 refine GC.block ?_
 refine GC.seq ?_
 refine GC.reg ?_
 refine G.m1 ?_
 refine G.v (V.nc rfl) rfl ?_
 obtain ⟨ob2, hob, hrs⟩ := hsk.top
 refine G.v (V.ld (b := qb) (off := 0) (wf := true) (l := [.slice (some ⟨srb, 0, none⟩) (s :: sk2).length cS]) (T := 111) (fz := (0, 0)) (v := .slice (some ⟨srb, 0, none⟩) (s :: sk2).length cS) Try.isAgg111 rfl (m3 (.head _)) rfl) rfl ?_
 refine G.m1 ?_
 refine G.v (V.subI (r := ((sk2.length : Nat) : Int)) rfl rfl (by simp) (by omega) (by omega)) rfl ?_
 refine G.v (V.ia (i := sk2.length) Try.underlying111 Try.sizeOf126 rfl rfl (by simp)) rfl ?_
 refine G.v (V.ldA (b := srb) (off := 0 + sk2.length * 3) (s := 3) (wf := true) (l := srow) (T := 126) (fz := (0, 0)) (cs := [S s.path, Pt ob2 0, .int .i16 (s.cnt : Int)]) Try.isAgg126 Try.sizeOf126 rfl (m4 (.head _)) (by rw [show 0 + sk2.length * 3 = 3 * sk2.length by omega]; exact hob) rfl) rfl ?_
 refine G.al Try.zeroValue126 rfl rfl (fun ob hob3 => ?_)
 refine G.stA (cs := [S s.path, Pt ob2 0, .int .i16 (s.cnt : Int)]) Try.sizeOf126 rfl rfl (by simp [Value.oneCell']) .z rfl ?_
 refine G.nil ?_
 refine GC.turn (H' := ⟨ob, true, .row [S s.path, Pt ob2 0, .int .i16 (s.cnt : Int)] 126 (0, 0)⟩ :: (⟨vb, true, .row [(.slice none 0 0), (pV pb has), .bool false, (S [])] 114 (0, 0)⟩ :: ⟨pb, true, .row [.slice (some ⟨prb, 0, none⟩) ps.length cP] 96 (0, 0)⟩ :: ⟨prb, true, .row prow 100 (0, 0)⟩ :: ⟨qb, true, .row [.slice (some ⟨srb, 0, none⟩) (s :: sk2).length cS] 111 (0, 0)⟩ :: ⟨srb, true, .row srow 126 (0, 0)⟩ :: (Cs ++ Ht))) (fun w1 h1 => h1) ?_
 refine GC.seq ?_
 refine GC.reg ?_
 refine G.m1 ?_
 refine G.m1 ?_
 refine G.v (V.nc rfl) rfl ?_
 refine G.v (V.ld (b := qb) (off := 0) (wf := true) (l := [.slice (some ⟨srb, 0, none⟩) (s :: sk2).length cS]) (T := 111) (fz := (0, 0)) (v := .slice (some ⟨srb, 0, none⟩) (s :: sk2).length cS) Try.isAgg111 rfl (m4 (.head _)) rfl) rfl ?_
 refine G.m1 ?_
 refine G.v (V.subI (r := ((sk2.length : Nat) : Int)) rfl rfl (by simp) (by omega) (by omega)) rfl ?_
 refine G.v (V.slTH (i := sk2.length) Try.underlying111 Try.sizeOf126 rfl rfl (by simp at hsc; omega)) rfl ?_
 refine G.v (V.nc rfl) rfl ?_
 refine G.st (b := qb) (off := 0) (l := [.slice (some ⟨srb, 0, none⟩) (s :: sk2).length cS]) (T := 111) (fz := (0, 0)) (v := .slice (some ⟨srb, 0, none⟩) sk2.length cS) Try.sizeOf111 rfl rfl rfl (.s (.s (.s (.s .z)))) rfl rfl ?_
 refine G.nil ?_
 refine GC.turn (H' := ⟨ob, true, .row [S s.path, Pt ob2 0, .int .i16 (s.cnt : Int)] 126 (0, 0)⟩ :: (⟨vb, true, .row [(.slice none 0 0), (pV pb has), .bool false, (S [])] 114 (0, 0)⟩ :: ⟨pb, true, .row [.slice (some ⟨prb, 0, none⟩) ps.length cP] 96 (0, 0)⟩ :: ⟨prb, true, .row prow 100 (0, 0)⟩ :: ⟨qb, true, .row [.slice (some ⟨srb, 0, none⟩) sk2.length cS] 111 (0, 0)⟩ :: ⟨srb, true, .row srow 126 (0, 0)⟩ :: (Cs ++ Ht))) (fun w1 h1 => h1) ?_
 refine GC.seq ?_
 refine GC.reg ?_
 refine G.v (V.fa F126_0 rfl) rfl ?_
 refine G.v (V.ld (b := ob) (off := 0 + 0) (wf := true) (l := [S s.path, Pt ob2 0, .int .i16 (s.cnt : Int)]) (T := 126) (fz := (0, 0)) (v := S s.path) Try.isAgg9 rfl (.head _) rfl) rfl ?_
 refine G.m1 ?_
 refine G.callP (v := .bool true) Try.call50 rfl rfl (fun w1 hw1 => by have := f50_any w1 s.path p (by omega) (by omega); rw [decide_eq_true hsuf] at this; exact this) ?_
 refine G.nil ?_
 refine GC.condT rfl ?_
 refine GC.seq ?_
 refine GC.reg ?_
 refine G.v (V.fa F126_0 rfl) rfl ?_
 refine G.v (V.ld (b := ob) (off := 0 + 0) (wf := true) (l := [S s.path, Pt ob2 0, .int .i16 (s.cnt : Int)]) (T := 126) (fz := (0, 0)) (v := S s.path) Try.isAgg9 rfl (.head _) rfl) rfl ?_
 refine G.m2 ?_
 refine G.nil ?_
 refine GC.seq ?_
 refine GC.reg ?_
 refine G.v (V.fa F126_1 rfl) rfl ?_
 refine G.v (V.ld (b := ob) (off := 0 + 1) (wf := true) (l := [S s.path, Pt ob2 0, .int .i16 (s.cnt : Int)]) (T := 126) (fz := (0, 0)) (v := Pt ob2 0) Try.isAgg89 rfl (.head _) rfl) rfl ?_
 refine G.m2 ?_
 refine G.nil ?_
 refine GC.seq ?_
 refine GC.seq ?_
 refine GC.reg ?_
 refine G.v (V.fa F114_1 rfl) rfl ?_
 refine G.v (V.ld (b := vb) (off := 0 + 1) (wf := true) (l := [.slice none 0 0, pV pb has, .bool false, S []]) (T := 114) (fz := (0, 0)) (v := pV pb has) Try.isAgg112 rfl (.tail _ (.head _)) rfl) rfl ?_
 refine G.v (v := .bool has) (neP_pV Try.underlying112 rfl) rfl ?_
 refine G.nil ?_
 have hcnl : (ps.take s.cnt).length = s.cnt := by simp; omega
 refine GC.join (fun fr' H' => Sub [(0, Pt ob2 0), (1, S s.path), (2, Pt pb 0), (3, Pt qb 0), (4, .bool un), (10, Pt vb 0), (35, Pt ob 0)] fr' ∧ H' = ⟨ob, true, .row [S s.path, Pt ob2 0, .int .i16 (s.cnt : Int)] 126 (0, 0)⟩ :: (⟨vb, true, .row [(.slice none 0 0), (pV pb has), .bool false, (S [])] 114 (0, 0)⟩ :: ⟨pb, true, .row [.slice (some ⟨prb, 0, none⟩) (ps.take s.cnt).length cP] 96 (0, 0)⟩ :: ⟨prb, true, .row prow 100 (0, 0)⟩ :: ⟨qb, true, .row [.slice (some ⟨srb, 0, none⟩) sk2.length cS] 111 (0, 0)⟩ :: ⟨srb, true, .row srow 126 (0, 0)⟩ :: (Cs ++ Ht))) (fun JP => ?_) ?_
 ·refine GC.cond rfl (fun h689 => ?_) (fun h689 => ?_)
  ·have hht : has = true := by simpa using h689
   subst hht
   refine GC.regT 10 mixed (by kernel_rfl) rfl rfl ?_
   refine GS.v (V.fa F114_1 rfl) rfl ?_
   refine GS.v (V.ld (b := vb) (off := 0 + 1) (wf := true) (l := [.slice none 0 0, pV pb true, .bool false, S []]) (T := 114) (fz := (0, 0)) (v := Pt pb 0) Try.isAgg112 rfl (.tail _ (.head _)) rfl) rfl ?_
   refine GS.v (V.fa F114_1 rfl) rfl ?_
   refine GS.v (V.ld (b := vb) (off := 0 + 1) (wf := true) (l := [.slice none 0 0, pV pb true, .bool false, S []]) (T := 114) (fz := (0, 0)) (v := Pt pb 0) Try.isAgg112 rfl (.tail _ (.head _)) rfl) rfl ?_
   refine GS.v (V.nc rfl) rfl ?_
   refine GS.v (V.ld (b := pb) (off := 0) (wf := true) (l := [.slice (some ⟨prb, 0, none⟩) ps.length cP]) (T := 96) (fz := (0, 0)) (v := .slice (some ⟨prb, 0, none⟩) ps.length cP) Try.isAgg96 rfl (m2 (.head _)) rfl) rfl ?_
   refine GS.v (V.fa F126_2 rfl) rfl ?_
   refine GS.v (V.ld (b := ob) (off := 0 + 2) (wf := true) (l := [S s.path, Pt ob2 0, .int .i16 (s.cnt : Int)]) (T := 126) (fz := (0, 0)) (v := .int .i16 (s.cnt : Int)) Try.isAgg124 rfl (.head _) rfl) rfl ?_
   refine GS.v (V.slTH (i := s.cnt) Try.underlying96 Try.sizeOf100 rfl rfl (by omega)) rfl ?_
   refine GS.v (V.nc rfl) rfl ?_
   refine GS.nil ?_
   refine G.st (b := pb) (off := 0) (l := [.slice (some ⟨prb, 0, none⟩) ps.length cP]) (T := 96) (fz := (0, 0)) (v := .slice (some ⟨prb, 0, none⟩) s.cnt cP) Try.sizeOf96 rfl rfl rfl (.s (.s .z)) rfl rfl ?_
   refine G.nil ?_
   refine JP _ _ ⟨.of rfl, ?_⟩
   rw [hcnl]
   rfl
  refine GC.skip ?_
  have hhf : has = false := by simpa using h689
  have hp0 := hhas hhf
  subst hp0
  refine JP _ _ ⟨.of rfl, ?_⟩
  rw [List.take_nil]
 rintro fr' H' ⟨hsjp, rfl⟩
 refine GC.weak hsjp ?_
 clear hsjp
 refine GC.seq ?_
 refine GC.reg ?_
 refine G.v (V.fa F126_2 rfl) rfl ?_
 refine G.v (V.ld (b := ob) (off := 0 + 2) (wf := true) (l := [S s.path, Pt ob2 0, .int .i16 (s.cnt : Int)]) (T := 126) (fz := (0, 0)) (v := .int .i16 (s.cnt : Int)) Try.isAgg124 rfl (.head _) rfl) rfl ?_
 refine G.m2 ?_
 refine G.nil ?_
 refine GC.exit rfl ?_
 refine GC.inLoop ?_
 refine GC.turn (H' := (⟨vb, true, .row [(.slice none 0 0), (pV pb has), .bool false, (S [])] 114 (0, 0)⟩ :: ⟨pb, true, .row [.slice (some ⟨prb, 0, none⟩) (ps.take s.cnt).length cP] 96 (0, 0)⟩ :: ⟨prb, true, .row prow 100 (0, 0)⟩ :: ⟨qb, true, .row [.slice (some ⟨srb, 0, none⟩) sk2.length cS] 111 (0, 0)⟩ :: ⟨srb, true, .row srow 126 (0, 0)⟩ :: (Cs ++ Ht))) (fun w1 h1 => h1.sub (List.sublist_cons_self _ _)) ?_
 exact go ob2 has prow srow Cs _ hrs hpr (prt_take hprt hcn) hsr hsk.pop (fun h => by rw [hhas h]; simp) (by rw [hcnl]; exact .of rfl)
end Go.Proofs
