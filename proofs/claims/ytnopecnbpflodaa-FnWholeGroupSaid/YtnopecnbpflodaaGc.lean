/- One path and many paths by a tree; that the laws are awake. -/
import Derived.Test.YtnopecnbpflodaaEc
import Derived.Test.YtnopecnbpflodaaKa
import Derived.Test.YtnopecnbpflodaaGb
import Derived.Laws.StructEq
/- More rules: an empty row, an append of nothing, four results. No program in sight. -/
set_option maxRecDepth 20000
namespace Bw
open Go Go.Proofs
variable {P : Program} {c : Cx} {n : Nat} {k : List Item} {fr : SF} {H : SH} {ops : Array Oper} {rest : List Oper} {ty t : TypeId} {pos : String} {aft : Array Edge}
theorem GC.ret4 {t u s r : Nat} {v x y z : Value} (hr : c.fn.results = #[.tmp t, .tmp u, .tmp s, .tmp r]) (hv : look t fr = some v) (hx : look u fr = some x) (hy : look s fr = some y) (hz : look r fr = some z) (hR : ∀ w, HF c.w0 c.D H w → c.R (.returned (.tuple #[v, x, y, z])) w) : GC P c n (.code .ret :: k) fr H :=
 GC.retR (fun a w ha _ => by
  have h1 := ha.at_ t v hv
  have h2 := ha.at_ u x hx
  have h3 := ha.at_ s y hy
  have h4 := ha.at_ r z hz
  simp [results, hr, h1, h2, h3, h4]) hR
/-- []T{} -/
theorem G.bs0 {T e s d : Nat} {z : Value} (hT : P.underlying T = some (.slice e)) (hs : ∀ w, (Go.sizeOf e).run P w = .ok s w) (_hz : ∀ w, (zeroValue e).run P w = .ok z w) (hd : Nat.blt d n = true)
  (hk : ∀ b, c.w0.heap.size ≤ b → G P c n k ops rest ((d, .slice (some ⟨b, 0, none⟩) 0 0) :: fr) (⟨b, true, .row [] e (0, 0)⟩ :: H)) :
  G P c n k ops (⟨some d, .buildSlice T 0 #[], ty, pos, aft, none⟩ :: rest) fr H := by
 intro hf a w ha hw
 refine wpList_step fun K hK => ?_
 have hex : (execOp a.eval ⟨some d, .buildSlice T 0 #[], ty, pos, aft, none⟩).run P w = .ok (.value (.slice (some ⟨w.heap.size, 0, none⟩) 0 0)) { w with heap := w.heap.push (Blk.row [] e (0, 0)).den } := by
  have h0 : Array.range 0 = #[] := rfl
  simp [execOp, Instr.buildSlice, underlying, hT, hs, Instr.fill, newRow, Blk.den, h0]
 simp only [Region.wanted, if_true, Oper.wp, hex, Oper.upon]
 exact hK _ _ (hk w.heap.size hw.size hf _ _ (ha.put hd _) (hw.push (.row [] e (0, 0))))
/-- append(xs, ys...) where ys is empty -/
theorem G.app0 {T e : TypeId} {i : TypeInfo} {z : Value} {x y : Operand} {d n0 cap m2 : Nat} {ad ad2 : Option Addr} (hT : P.underlying T = some (.slice e)) (hi : P.info? e = some i) (hz : i.zero = some z)
  (hx : ev fr x = some (.slice ad n0 cap)) (hy : ev fr y = some (.slice ad2 0 m2)) (hle : n0 ≤ cap) (_h63 : n0 ≤ 9223372036854775807) (hd : Nat.blt d n = true)
  (hk : G P c n k ops rest ((d, .slice ad n0 cap) :: fr) H) :
  G P c n k ops (⟨some d, .call ⟨.builtin .append, #[x, y], #[T, T]⟩, ty, pos, aft, none⟩ :: rest) fr H := by
 intro hf a w ha hw
 refine wpList_step fun K hK => ?_
 have hr : (Builtin.append_ #[T, T] ty #[.slice ad n0 cap, .slice ad2 0 m2]).run P w = .ok (.slice ad n0 cap) w := by
  have hf : (Builtin.firstCells i.size 0 (.slice ad2 0 m2)).run P w = .ok #[] w := by
   cases ad2 with
   | none => exact run_firstCells_none (P := P) w _ _ _ _
   | some b => exact run_firstCells_some (P := P) w i.size 0 b 0 m2 [] (by simp) (fun j v hj => by simp at hj)
  cases ad <;> simp [Builtin.append_, run_underlying hT, Go.sizeOf, typeInfo, zeroValue, hi, hz, Builtin.lenOf, hle, hf, storeCells]
 have hex : (execOp a.eval ⟨some d, .call ⟨.builtin .append, #[x, y], #[T, T]⟩, ty, pos, aft, none⟩).run P w = .ok (.value (.slice ad n0 cap)) w := by
  simp [execOp, resolve, invoke, builtin, ha.eval hx, ha.eval hy, hr]
 simp only [Region.wanted, if_true, Oper.wp, hex, Oper.upon]
 exact hK _ _ (hk hf _ _ (ha.put hd _) hw)
theorem BS.two {T e : Nat} {z a b : Value} (hT : P.underlying T = some (.slice e)) (hs : ∀ w, (Go.sizeOf e).run P w = .ok 2 w) (hz : ∀ w, (zeroValue e).run P w = .ok z w) : BS P T e (.agg #[a, b]) [a, b] := by
 intro w
 have h1 : Array.range 2 = #[0, 1] := rfl
 simp [Instr.buildSlice, underlying, hT, hs, hz, Instr.fill, newRow, Value.cells, h1]
theorem BS.four {T e : Nat} {z a b c d : Value} (hT : P.underlying T = some (.slice e)) (hs : ∀ w, (Go.sizeOf e).run P w = .ok 4 w) (hz : ∀ w, (zeroValue e).run P w = .ok z w) : BS P T e (.agg #[a, b, c, d]) [a, b, c, d] := by
 intro w
 have h1 : Array.range 4 = #[0, 1, 2, 3] := rfl
 simp [Instr.buildSlice, underlying, hT, hs, hz, Instr.fill, newRow, Value.cells, h1]
end Bw

/- Clone, Get. Printed by wip/mk_gh1.py. -/
set_option maxRecDepth 20000
namespace Go.Proofs
open Go Bw
open Gt
theorem f77_any (w : World) (b n cp : Nat) (vs : List Value) (hvl : vs.length = n * 2) (h1 : ∀ u ∈ vs, u.oneCell' = true) (hn : n ≤ 100000) (hc : ∀ (j : Nat) u, vs[j]? = some u → w.cell? ⟨b, j, none⟩ = some u) : Calls Try.prog 77 #[.slice (some ⟨b, 0, none⟩) n cp] w fun e w' => ∃ sv Hs, e = .returned sv ∧ Own 100 2 sv n vs Hs ∧ HF w (fun _ => False) Hs w' := by
 refine enter (fun _ => False) [] Try.func77 rfl Try.ntmps77 rfl rfl (HF.start w _) fun c hc => ?_
 subst hc
 by_cases hn0 : n = 0
 ·subst hn0
  have hv0 : vs = [] := List.length_eq_zero_iff.1 (by omega)
  subst hv0
  refine GC.seq ?_
  refine GC.reg ?_
  refine G.m2 ?_
  refine G.nil ?_
  refine GC.seq ?_
  refine GC.seq ?_
  refine GC.reg ?_
  refine G.m1 ?_
  refine G.v (V.eqL Try.underlying96 rfl) rfl ?_
  refine G.nil ?_
  refine GC.cond rfl (fun h4 => absurd h4 (by simp)) (fun h4 => ?_)
  refine GC.skip ?_
  refine GC.seq ?_
  refine GC.reg ?_
  refine G.bs0 Try.underlying96 Try.sizeOf100 Try.zeroValue100 rfl (fun eb heb => ?_)
  refine G.m1 ?_
  refine G.app0 (i := Try.t100) Try.underlying96 rfl rfl rfl rfl (by omega) (by omega) rfl ?_
  refine G.m2 ?_
  refine G.nil ?_
  exact GC.ret1 rfl rfl fun w' hw' => ⟨_, _, rfl, Own.row (xs := []) (spare := []) rfl rfl (Nat.le_refl _), hw'⟩
 ·refine GC.seq ?_
  refine GC.reg ?_
  refine G.m2 ?_
  refine G.nil ?_
  refine GC.seq ?_
  refine GC.seq ?_
  refine GC.reg ?_
  refine G.m1 ?_
  refine G.v (V.eqL Try.underlying96 rfl) rfl ?_
  refine G.nil ?_
  refine GC.cond rfl (fun h4 => absurd h4 (by simp)) (fun h4 => ?_)
  refine GC.skip ?_
  refine GC.seq ?_
  refine GC.reg ?_
  refine G.bs0 Try.underlying96 Try.sizeOf100 Try.zeroValue100 rfl (fun eb heb => ?_)
  refine G.m1 ?_
  refine G.app (i := Try.t100) (sz := 2) (by_ := 32) Try.underlying96 rfl rfl rfl rfl rfl rfl rfl (Own.row (b := eb) (cap := 0) (xs := []) (spare := []) rfl rfl (Nat.le_refl _)) (H' := []) (.of_eq rfl) (fun w1 h2 j u hj => by have := h2.cellOld (hc j u hj) id; by_cases h0 : j = 0 <;> simpa [Addr.add, h0] using this) hvl h1 (by omega) (by omega) (by omega) rfl (fun kv2 Hs2 hown2 => ?_)
  refine G.m2 ?_
  refine G.nil ?_
  rw [Nat.zero_add] at hown2
  exact GC.ret1 rfl rfl fun w' hw' => ⟨_, _, rfl, hown2, hw'⟩
theorem flatP_one : ∀ (l : List (List UInt8 × List UInt8)), ∀ u ∈ flatP l, u.oneCell' = true
 | [], u, h => by cases h
 | (k, v) :: l, u, h => by
  simp only [flatP, List.mem_cons] at h
  rcases h with rfl | rfl | h
  ·rfl
  ·rfl
  ·exact flatP_one l u h
theorem f68_any (w : World) (D : Nat → Prop) {tb nb m s : Nat} {un : Bool} {Ht : SH} {t : T0} {p : List UInt8} {g : Nat} {r : Res} (ht : HT t nb Ht) (hl : Ln t) (hpl : p.length ≤ 100000) (hm : m ≤ 20000) (hs : s ≤ 20000) (hrm : r.ps.length ≤ m) (hres : getC (unV un) m s g t p [] [] = some r) (hH : HF w D (⟨tb, true, .row (treeR nb m s) 92 (0, 0)⟩ :: Ht) w) :
  Calls Try.prog 68 #[Pt tb 0, S p, .bool un] w fun e w' => ∃ hv pv Hp, e = .returned (.tuple #[hv, pv, .bool r.tsr, S r.full]) ∧ HVX Ht r.h hv ∧ Own 100 2 pv r.ps.length (flatP r.ps) Hp ∧ HF w D (⟨tb, true, .row (treeR nb m s) 92 (0, 0)⟩ :: (Ht ++ Hp)) w' := by
 refine enter D (⟨tb, true, .row (treeR nb m s) 92 (0, 0)⟩ :: Ht) Try.func68 rfl Try.ntmps68 rfl rfl hH fun c hc => ?_
 subst hc
 refine GC.seq ?_
 refine GC.reg ?_
 refine G.m2 ?_
 refine G.m2 ?_
 refine G.m2 ?_
 refine G.m2 ?_
 refine G.nil ?_
 refine GC.seq ?_
 refine GC.reg ?_
 refine G.m1 ?_
 refine G.v (V.nc rfl) rfl ?_
 refine G.v (V.fa F92_1 rfl) rfl ?_
 refine G.v (V.ld (b := tb) (off := 0 + 1) (wf := true) (l := treeR nb m s) (T := 92) (fz := (0, 0)) (v := .int .u16 (m : Int)) Try.isAgg90 rfl (.head _) rfl) rfl ?_
 refine G.ms (l := 0) (i := Try.t100) (s := 2) (by_ := 32) Try.underlying96 rfl rfl rfl rfl rfl rfl (Nat.zero_le _) (by omega) (by omega) rfl (fun prb prow hprb hprow => ?_)
 refine G.al Try.zeroValue96 rfl rfl (fun pb hpb => ?_)
 refine G.st Try.sizeOf96 rfl rfl rfl .z rfl rfl ?_
 refine G.nil ?_
 refine GC.turn (H' := ⟨pb, true, .row [.slice (some ⟨prb, 0, none⟩) 0 m] 96 (0, 0)⟩ :: ⟨prb, true, .row prow 100 (0, 0)⟩ :: ⟨tb, true, .row (treeR nb m s) 92 (0, 0)⟩ :: Ht) (fun w1 h1 => h1) ?_
 refine GC.seq ?_
 refine GC.reg ?_
 refine G.m1 ?_
 refine G.v (V.nc rfl) rfl ?_
 refine G.v (V.fa F92_2 rfl) rfl ?_
 refine G.v (V.ld (b := tb) (off := 0 + 2) (wf := true) (l := treeR nb m s) (T := 92) (fz := (0, 0)) (v := .int .u16 (s : Int)) Try.isAgg90 rfl (m2 (.head _)) rfl) rfl ?_
 refine G.ms (l := 0) (i := Try.t126) (s := 3) (by_ := 32) Try.underlying111 rfl rfl rfl rfl rfl rfl (Nat.zero_le _) (by omega) (by omega) rfl (fun srb srow hsrb hsrow => ?_)
 refine G.al Try.zeroValue111 rfl rfl (fun qb hqb => ?_)
 refine G.st Try.sizeOf111 rfl rfl rfl .z rfl rfl ?_
 refine G.nil ?_
 refine GC.turn (H' := ⟨qb, true, .row [.slice (some ⟨srb, 0, none⟩) 0 s] 111 (0, 0)⟩ :: ⟨srb, true, .row srow 126 (0, 0)⟩ :: ⟨pb, true, .row [.slice (some ⟨prb, 0, none⟩) 0 m] 96 (0, 0)⟩ :: ⟨prb, true, .row prow 100 (0, 0)⟩ :: ⟨tb, true, .row (treeR nb m s) 92 (0, 0)⟩ :: Ht) (fun w1 h1 => h1) ?_
 refine GC.seq ?_
 refine GC.reg ?_
 refine G.m1 ?_
 refine G.v (V.nc rfl) rfl ?_
 refine G.v (V.fa F92_0 rfl) rfl ?_
 refine G.v (V.ld (b := tb) (off := 0 + 0) (wf := true) (l := treeR nb m s) (T := 92) (fz := (0, 0)) (v := Pt nb 0) Try.isAgg89 rfl (m4 (.head _)) rfl) rfl ?_
 refine G.m1 ?_
 refine G.m1 ?_
 refine G.callL (H1 := ⟨pb, true, .row [.slice (some ⟨prb, 0, none⟩) 0 m] 96 (0, 0)⟩ :: ⟨prb, true, .row prow 100 (0, 0)⟩ :: ⟨qb, true, .row [.slice (some ⟨srb, 0, none⟩) 0 s] 111 (0, 0)⟩ :: ⟨srb, true, .row srow 126 (0, 0)⟩ :: Ht) (Hk := [⟨tb, true, .row (treeR nb m s) 92 (0, 0)⟩]) (fun v H1' => ∃ has prow' hv, v = .agg #[hv, pV pb has, .bool r.tsr, S r.full] ∧ prow'.length = 2 * m ∧ prow'.take (2 * r.ps.length) = flatP r.ps ∧ (has = false → r.ps = []) ∧ HVX Ht r.h hv ∧ H1' = ⟨pb, true, .row [.slice (some ⟨prb, 0, none⟩) r.ps.length m] 96 (0, 0)⟩ :: ⟨prb, true, .row prow' 100 (0, 0)⟩ :: Ht) ?_ (fun e0 he0 => ?_) Try.call76 rfl rfl (fun w1 hw1 _ => ?_) ?_
 ·have p1 := perm_idx [[⟨qb, true, .row [.slice (some ⟨srb, 0, none⟩) 0 s] 111 (0, 0)⟩], [⟨srb, true, .row srow 126 (0, 0)⟩], [⟨pb, true, .row [.slice (some ⟨prb, 0, none⟩) 0 m] 96 (0, 0)⟩], [⟨prb, true, .row prow 100 (0, 0)⟩], [⟨tb, true, .row (treeR nb m s) 92 (0, 0)⟩], Ht] [0, 1, 2, 3, 4, 5] [2, 3, 0, 1, 5, 4] (by decide)
  simpa using p1
 ·simp only [List.mem_cons] at he0
  rcases he0 with rfl | rfl | rfl | rfl | he0
  ·rfl
  ·rfl
  ·rfl
  ·rfl
  ·exact ht.w e0 he0
 ·refine (f76_any w1 _ ht hl hpl hm hs (by rw [hprow, Nat.mul_comm]) (by rw [hsrow, Nat.mul_comm]) hres hw1).mono fun e w' ⟨has, prow', hv, h1, h2, h3, h4, h5, h6⟩ => ⟨_, _, h1, fun e0 he0 => ?_, h6, has, prow', hv, rfl, h2, h3, h4, h5, rfl⟩
  simp only [List.mem_cons] at he0
  rcases he0 with rfl | rfl | he0
  ·rfl
  ·rfl
  ·exact ht.w e0 he0
 rintro v H1' ⟨has, prow', hv, rfl, hp1, hp2, hp3, hp4, rfl⟩
 obtain ⟨ha1, ha2, ha3, rfl, _⟩ := hp4.slice
 refine G.al Try.zeroValue114 rfl rfl (fun vb hvb => ?_)
 refine G.stA (cs := [.slice ha1 ha2 ha3, pV pb has, .bool r.tsr, S r.full]) Try.sizeOf114 rfl rfl (by intro v hv; simp only [List.mem_cons, List.not_mem_nil, or_false] at hv; rcases hv with rfl | rfl | rfl | rfl <;> first | rfl | exact pV_one _ _) .z rfl ?_
 refine G.nil ?_
 refine GC.turn (H' := ⟨vb, true, .row [.slice ha1 ha2 ha3, pV pb has, .bool r.tsr, S r.full] 114 (0, 0)⟩ :: ⟨pb, true, .row [.slice (some ⟨prb, 0, none⟩) r.ps.length m] 96 (0, 0)⟩ :: ⟨prb, true, .row prow' 100 (0, 0)⟩ :: (Ht ++ [⟨tb, true, .row (treeR nb m s) 92 (0, 0)⟩])) (fun w1 h1 => ?_) ?_
 ·exact h1
 refine GC.seq ?_
 refine GC.seq ?_
 refine GC.reg ?_
 refine G.v (V.fa F114_1 rfl) rfl ?_
 refine G.v (V.ld (b := vb) (off := 0 + 1) (wf := true) (l := [.slice ha1 ha2 ha3, pV pb has, .bool r.tsr, S r.full]) (T := 114) (fz := (0, 0)) (v := pV pb has) Try.isAgg112 rfl (.head _) rfl) rfl ?_
 refine G.v (v := .bool has) (neP_pV Try.underlying112 rfl) rfl ?_
 refine G.nil ?_
 refine GC.join (fun fr' H' => ∃ pv Hp, Own 100 2 pv r.ps.length (flatP r.ps) Hp ∧ Sub [(12, Pt vb 0), (7, pv)] fr' ∧ H' = Hp ++ (⟨vb, true, .row [.slice ha1 ha2 ha3, pV pb has, .bool r.tsr, S r.full] 114 (0, 0)⟩ :: ⟨pb, true, .row [.slice (some ⟨prb, 0, none⟩) r.ps.length m] 96 (0, 0)⟩ :: ⟨prb, true, .row prow' 100 (0, 0)⟩ :: (Ht ++ [⟨tb, true, .row (treeR nb m s) 92 (0, 0)⟩]))) (fun J32 => ?_) ?_
 ·refine GC.cond rfl (fun h32 => ?_) (fun h32 => ?_)
  ·have hht : has = true := h32
   subst hht
   refine GC.reg ?_
   refine G.v (V.fa F114_1 rfl) rfl ?_
   refine G.v (V.ld (b := vb) (off := 0 + 1) (wf := true) (l := [.slice ha1 ha2 ha3, pV pb true, .bool r.tsr, S r.full]) (T := 114) (fz := (0, 0)) (v := Pt pb 0) Try.isAgg112 rfl (.head _) rfl) rfl ?_
   refine G.v (V.nc rfl) rfl ?_
   refine G.v (V.ld (b := pb) (off := 0) (wf := true) (l := [.slice (some ⟨prb, 0, none⟩) r.ps.length m]) (T := 96) (fz := (0, 0)) (v := .slice (some ⟨prb, 0, none⟩) r.ps.length m) Try.isAgg96 rfl (.tail _ (.head _)) rfl) rfl ?_
   refine G.callW (fun v H2 => ∃ Hp, Own 100 2 v r.ps.length (flatP r.ps) Hp ∧ H2 = Hp ++ (⟨vb, true, .row [.slice ha1 ha2 ha3, pV pb true, .bool r.tsr, S r.full] 114 (0, 0)⟩ :: ⟨pb, true, .row [.slice (some ⟨prb, 0, none⟩) r.ps.length m] 96 (0, 0)⟩ :: ⟨prb, true, .row prow' 100 (0, 0)⟩ :: (Ht ++ [⟨tb, true, .row (treeR nb m s) 92 (0, 0)⟩]))) Try.call77 rfl rfl (fun w1 hw1 => ?_) ?_
   ·refine (f77_any w1 prb r.ps.length m (flatP r.ps) (by rw [flatP_len, Nat.mul_comm]) (flatP_one _) (by omega) (fun j u hj => ?_)).mono fun e w' ⟨sv, Hs, h1, h2, h3⟩ => ⟨_, _, h1, hw1.after0 h3 h2.w, Hs, h2, rfl⟩
    refine cell_row (b := prb) (off := j) hw1 (m2 (.head _)) (by rw [nth_eq, ← hj, ← hp2]; rw [List.getElem?_take_of_lt]; have := (List.getElem?_eq_some_iff.1 hj).1; rw [flatP_len] at this; exact this)
   rintro v H2 ⟨Hp, hown, rfl⟩
   refine G.m2 ?_
   refine G.nil ?_
   exact J32 _ _ ⟨_, Hp, hown, .of rfl, rfl⟩
  refine GC.skip ?_
  have hhf : has = false := by simpa using h32
  have hp0 := hp3 hhf
  exact J32 _ _ ⟨.slice none 0 0, [], by rw [hp0]; exact Own.nil, .of rfl, rfl⟩
 rintro fr' H' ⟨pv, Hp, hown, hs32, rfl⟩
 refine GC.weak hs32 ?_
 clear hs32
 refine GC.turn (H' := ⟨vb, true, .row [.slice ha1 ha2 ha3, pV pb has, .bool r.tsr, S r.full] 114 (0, 0)⟩ :: (Hp ++ (Ht ++ [⟨tb, true, .row (treeR nb m s) 92 (0, 0)⟩]))) (fun w1 h1 => ?_) ?_
 ·have p1 := perm_idx [Hp, [⟨vb, true, .row [.slice ha1 ha2 ha3, pV pb has, .bool r.tsr, S r.full] 114 (0, 0)⟩], [⟨pb, true, .row [.slice (some ⟨prb, 0, none⟩) r.ps.length m] 96 (0, 0)⟩], [⟨prb, true, .row prow' 100 (0, 0)⟩], Ht, [⟨tb, true, .row (treeR nb m s) 92 (0, 0)⟩]] [0, 1, 2, 3, 4, 5] [2, 3, 1, 0, 4, 5] (by decide)
  have h2 := h1.perm (H' := [⟨pb, true, .row [.slice (some ⟨prb, 0, none⟩) r.ps.length m] 96 (0, 0)⟩, ⟨prb, true, .row prow' 100 (0, 0)⟩] ++ (⟨vb, true, .row [.slice ha1 ha2 ha3, pV pb has, .bool r.tsr, S r.full] 114 (0, 0)⟩ :: (Hp ++ (Ht ++ [⟨tb, true, .row (treeR nb m s) 92 (0, 0)⟩])))) (by simpa using p1)
  exact h2.sub (List.sublist_append_right _ _)
 refine GC.seq ?_
 refine GC.regQ mixed (by kernel_rfl) ?_
 refine GQ.v (V.fa F114_0 rfl) rfl ?_
 refine GQ.v (V.ld (b := vb) (off := 0 + 0) (wf := true) (l := [.slice ha1 ha2 ha3, pV pb has, .bool r.tsr, S r.full]) (T := 114) (fz := (0, 0)) (v := .slice ha1 ha2 ha3) Try.isAgg94 rfl (.head _) rfl) rfl ?_
 refine GQ.v (V.mv rfl) rfl ?_
 refine GQ.v (V.fa F114_2 rfl) rfl ?_
 refine GQ.v (V.ld (b := vb) (off := 0 + 2) (wf := true) (l := [.slice ha1 ha2 ha3, pV pb has, .bool r.tsr, S r.full]) (T := 114) (fz := (0, 0)) (v := .bool r.tsr) Try.isAgg4 rfl (.head _) rfl) rfl ?_
 refine GQ.v (V.fa F114_3 rfl) rfl ?_
 refine GQ.v (V.ld (b := vb) (off := 0 + 3) (wf := true) (l := [.slice ha1 ha2 ha3, pV pb has, .bool r.tsr, S r.full]) (T := 114) (fz := (0, 0)) (v := S r.full) Try.isAgg9 rfl (.head _) rfl) rfl ?_
 refine GQ.v (V.asg rfl) rfl ?_
 refine GQ.v (V.asg rfl) rfl ?_
 refine GQ.v (V.asg rfl) rfl ?_
 refine GQ.v (V.asg rfl) rfl ?_
 refine GQ.nil ?_
 refine GC.ret4 rfl rfl rfl rfl rfl fun w' hw' => ⟨_, pv, Hp, rfl, hp4, hown, ?_⟩
 have p1 := perm_idx [[⟨vb, true, .row [.slice ha1 ha2 ha3, pV pb has, .bool r.tsr, S r.full] 114 (0, 0)⟩], Hp, Ht, [⟨tb, true, .row (treeR nb m s) 92 (0, 0)⟩]] [0, 1, 2, 3] [0, 3, 2, 1] (by decide)
 have h2 := hw'.perm (H' := ⟨vb, true, .row [.slice ha1 ha2 ha3, pV pb has, .bool r.tsr, S r.full] 114 (0, 0)⟩ :: (⟨tb, true, .row (treeR nb m s) 92 (0, 0)⟩ :: (Ht ++ Hp))) (by simpa using p1)
 exact h2.sub (List.sublist_cons_self _ _)
end Go.Proofs

/- ginGet. Printed by wip/mk_gh2.py. -/
set_option maxRecDepth 20000
namespace Go.Proofs
open Go Bw
open Gt
/-- what is told of a search -/
def fndV (r : Res) (pv : Value) : List Value := [I (r.h.getD 0 : Nat), pv, S r.full, .bool r.tsr]
theorem flatP_at {ps : List (List UInt8 × List UInt8)} {j : Nat} {k v : List UInt8} (h : ps[j]? = some (k, v)) (l : List Value) : ((flatP ps ++ l).drop (0 + j * 2)).take 2 = [S k, S v] := by
 induction ps generalizing j with
 | nil => simp at h
 | cons a ps ih =>
  obtain ⟨a, b⟩ := a
  cases j with
  | zero => simp at h; obtain ⟨rfl, rfl⟩ := h; simp [flatP]
  | succ j =>
   have e : 0 + (j + 1) * 2 = (0 + j * 2) + 1 + 1 := by omega
   rw [e]
   simp only [flatP, List.cons_append, List.drop_succ_cons]
   exact ih (by simpa using h)
theorem flatP_snoc {ps : List (List UInt8 × List UInt8)} {j : Nat} {k v : List UInt8} (h : ps[j]? = some (k, v)) : flatP (ps.take (j + 1)) = flatP (ps.take j) ++ [S k, S v] := by
 rw [take_snoc h, flatP_app]; rfl
theorem bd_fnd (f : List UInt8) (b : Bool) (w : World) : (Instr.build 30 #[(2, S f), (3, .bool b)]).run Try.prog w = .ok (.agg #[I 0, .slice none 0 0, S f, .bool b]) w := by
 simp [Instr.build, Try.zeroValue30, Try.runUnderlying30, Try.sizeOf9, Try.sizeOf4, Try.sizeOf3, Try.sizeOf28, cells_agg, Instr.fill, cells_str, cells_bool]
theorem bd_ip (a b : List UInt8) (w : World) : (Instr.build 32 #[(0, S a), (1, S b)]).run Try.prog w = .ok (.agg #[S a, S b]) w := by
 simp [Instr.build, Try.zeroValue32, Try.runUnderlying32, Try.sizeOf9, cells_agg, Instr.fill, cells_str]
theorem f44_any (w : World) (D : Nat → Prop) {tb nb m s : Nat} {un : Bool} {Ht : SH} {t : T0} {p : List UInt8} {g : Nat} {r : Res} (ht : HT t nb Ht) (hl : Ln t) (hpl : p.length ≤ 100000) (hm : m ≤ 20000) (hs : s ≤ 20000) (hrm : r.ps.length ≤ m) (hres : getC (unV un) m s g t p [] [] = some r) (hH : HF w D (⟨tb, true, .row (treeR nb m s) 92 (0, 0)⟩ :: Ht) w) :
  Calls Try.prog 44 #[Pt tb 0, S p, .bool un] w fun e w' => ∃ pv Hq, e = .returned (.agg (fndV r pv).toArray) ∧ Own 32 2 pv r.ps.length (flatP r.ps) Hq ∧ HF w D (⟨tb, true, .row (treeR nb m s) 92 (0, 0)⟩ :: (Ht ++ Hq)) w' := by
 refine enter D (⟨tb, true, .row (treeR nb m s) 92 (0, 0)⟩ :: Ht) Try.func44 rfl Try.ntmps44 rfl rfl hH fun c hc => ?_
 subst hc
 refine GC.seq ?_
 refine GC.reg ?_
 refine G.al (l := [I 0, .slice none 0 0, S [], .bool false]) Try.zeroValue30 rfl rfl (fun rb hrb => ?_)
 refine G.nil ?_
 refine GC.seq ?_
 refine GC.reg ?_
 refine G.m1 ?_
 refine G.m1 ?_
 refine G.m1 ?_
 refine G.callL (H1 := ⟨tb, true, .row (treeR nb m s) 92 (0, 0)⟩ :: Ht) (Hk := [⟨rb, true, .row [I 0, .slice none 0 0, S [], .bool false] 30 (0, 0)⟩]) (fun v H1' => ∃ hv pv Hp, v = .tuple #[hv, pv, .bool r.tsr, S r.full] ∧ HVX Ht r.h hv ∧ Own 100 2 pv r.ps.length (flatP r.ps) Hp ∧ H1' = ⟨tb, true, .row (treeR nb m s) 92 (0, 0)⟩ :: (Ht ++ Hp)) (List.perm_append_comm (l₁ := ([⟨rb, true, .row [I 0, .slice none 0 0, S [], .bool false] 30 (0, 0)⟩] : SH))) (fun e0 he0 => ?_) Try.call68 rfl rfl (fun w1 hw1 _ => ?_) ?_
 ·rcases List.mem_cons.1 he0 with rfl | he0
  ·rfl
  ·exact ht.w e0 he0
 ·refine (f68_any w1 _ ht hl hpl hm hs hrm hres hw1).mono fun e w' ⟨hv, pv, Hp, h1, h2, h3, h4⟩ => ⟨_, _, h1, fun e0 he0 => ?_, h4, hv, pv, Hp, rfl, h2, h3, rfl⟩
  rcases List.mem_cons.1 he0 with rfl | he0
  ·rfl
  ·rcases List.mem_append.1 he0 with he0 | he0
   ·exact ht.w e0 he0
   ·exact h3.w e0 he0
 rintro v H1' ⟨hv, pv, Hp, rfl, hhv, hown, rfl⟩
 obtain ⟨ha1, ha2, ha3, rfl, hnn⟩ := hhv.slice
 obtain ⟨pad, pcap, rfl⟩ := hown.slice
 have hlen := hown.len
 refine G.m1 ?_
 refine G.v (V.ex rfl rfl) rfl ?_
 refine G.v (V.ex rfl rfl) rfl ?_
 refine G.v (V.ex rfl rfl) rfl ?_
 refine G.v (V.ex rfl rfl) rfl ?_
 refine G.m2 ?_
 refine G.m2 ?_
 refine G.m2 ?_
 refine G.m2 ?_
 refine G.nil ?_
 refine GC.seq ?_
 refine GC.reg ?_
 refine G.m1 ?_
 refine G.m1 ?_
 refine G.v (V.bd (vs := [(2, S r.full), (3, .bool r.tsr)]) rfl (fun w1 => bd_fnd _ _ w1)) rfl ?_
 refine G.al (l := [I 0, .slice none 0 0, S [], .bool false]) Try.zeroValue30 rfl rfl (fun fb hfb => ?_)
 refine G.stA (cs := [I 0, .slice none 0 0, S r.full, .bool r.tsr]) Try.sizeOf30 rfl rfl (by simp [Value.oneCell']) .z rfl ?_
 refine G.nil ?_
 refine GC.turn (H' := ⟨fb, true, .row [I 0, .slice none 0 0, S r.full, .bool r.tsr] 30 (0, 0)⟩ :: ⟨rb, true, .row [I 0, .slice none 0 0, S [], .bool false] 30 (0, 0)⟩ :: ([] ++ (⟨tb, true, .row (treeR nb m s) 92 (0, 0)⟩ :: (Ht ++ Hp)))) (fun w1 h1 => ?_) ?_
 ·have p1 := perm_idx [[⟨fb, true, .row [I 0, .slice none 0 0, S r.full, .bool r.tsr] 30 (0, 0)⟩], [⟨tb, true, .row (treeR nb m s) 92 (0, 0)⟩], Ht, Hp, [⟨rb, true, .row [I 0, .slice none 0 0, S [], .bool false] 30 (0, 0)⟩]] [0, 1, 2, 3, 4] [0, 4, 1, 2, 3] (by decide)
  have h2 : HF w D (⟨fb, true, .row [I 0, .slice none 0 0, S r.full, .bool r.tsr] 30 (0, 0)⟩ :: ((⟨tb, true, .row (treeR nb m s) 92 (0, 0)⟩ :: (Ht ++ Hp)) ++ [⟨rb, true, .row [I 0, .slice none 0 0, S [], .bool false] 30 (0, 0)⟩])) w1 := h1
  exact h2.perm (by simpa using p1)
 refine GC.seq ?_
 refine GC.seq ?_
 refine GC.reg ?_
 refine G.m1 ?_
 refine G.v (V.lenL Try.underlying94 rfl) rfl ?_
 refine G.v (V.gt rfl rfl) rfl ?_
 refine G.nil ?_
 refine GC.join (fun fr' H' => Sub [(6, Pt rb 0), (11, Pt fb 0), (8, .slice pad r.ps.length pcap)] fr' ∧ H' = ⟨fb, true, .row [I (r.h.getD 0 : Nat), .slice none 0 0, S r.full, .bool r.tsr] 30 (0, 0)⟩ :: ⟨rb, true, .row [I 0, .slice none 0 0, S [], .bool false] 30 (0, 0)⟩ :: ([] ++ (⟨tb, true, .row (treeR nb m s) 92 (0, 0)⟩ :: (Ht ++ Hp)))) (fun J28 => ?_) ?_
 ·refine GC.cond rfl (fun h28 => ?_) (fun h28 => ?_)
  ·obtain ⟨k, hb, hrh, e1, hbm⟩ : ∃ k hb, r.h = some k ∧ (Value.slice ha1 ha2 ha3) = .slice (some ⟨hb, 0, none⟩) 1 1 ∧ (⟨hb, true, .row [I (k : Int)] 3 (0, 0)⟩ : Ent) ∈ Ht := by
    rcases hhv with ⟨_, h2⟩ | h2
    ·cases h2; simp at h28
    ·exact h2
   cases e1
   refine GC.reg ?_
   refine G.m1 ?_
   refine G.v (V.ia (i := 0) Try.underlying94 Try.sizeOf3 rfl rfl (by omega)) rfl ?_
   refine G.v (V.ld (b := hb) (off := 0 + 0 * 1) (wf := true) (l := [I (k : Int)]) (T := 3) (fz := (0, 0)) (v := I (k : Int)) Try.isAgg3 rfl (.tail _ (.tail _ (.tail _ (List.mem_append_left _ hbm)))) rfl) rfl ?_
   refine G.v (V.fa F30_0 rfl) rfl ?_
   refine G.st (b := fb) (off := 0 + 0) (l := [I 0, .slice none 0 0, S r.full, .bool r.tsr]) (T := 30) (fz := (0, 0)) (v := I (k : Int)) Try.sizeOf3 rfl rfl rfl .z rfl rfl ?_
   refine G.nil ?_
   refine J28 _ _ ⟨.of rfl, ?_⟩
   rw [hrh]
   rfl
  refine GC.skip ?_
  have hrh : r.h = none := by
   rcases hhv with ⟨h1, _⟩ | ⟨k, hb, _, h2, _⟩
   ·exact h1
   ·cases h2; simp at h28
  refine J28 _ _ ⟨.of rfl, ?_⟩
  rw [hrh]
  rfl
 rintro fr' H' ⟨hs28, rfl⟩
 refine GC.weak hs28 ?_
 clear hs28
 refine GC.seq ?_
 refine GC.seq ?_
 refine GC.reg ?_
 refine G.m1 ?_
 refine G.v (V.lenL Try.underlying96 rfl) rfl ?_
 refine G.m1 ?_
 refine G.nil ?_
 refine GC.block ?_
 refine GC.loopJ (fun N fr' H' => ∃ j kv Hq, j + N = r.ps.length ∧ Own 32 2 kv j (flatP (r.ps.take j)) Hq ∧ Sub [(6, Pt rb 0), (11, Pt fb 0), (33, .slice pad r.ps.length pcap), (34, I (r.ps.length : Nat)), (35, I (j : Nat))] fr' ∧ H' = ⟨fb, true, .row [I (r.h.getD 0 : Nat), kv, S r.full, .bool r.tsr] 30 (0, 0)⟩ :: ⟨rb, true, .row [I 0, .slice none 0 0, S [], .bool false] 30 (0, 0)⟩ :: (Hq ++ (⟨tb, true, .row (treeR nb m s) 92 (0, 0)⟩ :: (Ht ++ Hp)))) r.ps.length
  ⟨0, .slice none 0 0, [], by omega, Own.nil, .of rfl, rfl⟩ ?_
 rintro N fr' H' ⟨j, kv, Hq, hj, hownq, hs2, rfl⟩ ih
 refine GC.weak hs2 ?_
 clear hs2
 refine GC.seq ?_
 refine GC.reg ?_
 refine G.v (V.lt rfl rfl) rfl ?_
 refine G.nil ?_
 refine GC.seq ?_
 refine GC.condD rfl (fun h36 => ?_) (fun h36 => ?_)
 ·refine GC.skip ?_
  refine GC.seq ?_
  refine GC.block ?_
  refine GC.seq ?_
  have hjl : j < r.ps.length := by omega
  obtain ⟨⟨pk, pvv⟩, hpj⟩ : ∃ x, r.ps[j]? = some x := ⟨_, List.getElem?_eq_getElem hjl⟩
  obtain ⟨rb2, cap2, spare, e1, rfl⟩ := hown.at hjl
  cases e1
  obtain ⟨kad, kcap, rfl⟩ := hownq.slice
  refine GC.reg ?_
  refine G.v (V.ia (i := j) Try.underlying96 Try.sizeOf100 rfl rfl hjl) rfl ?_
  refine G.v (V.ldA (b := rb2) (off := 0 + j * 2) (s := 2) (wf := true) (l := flatP r.ps ++ spare) (T := 100) (fz := (0, 0)) (cs := [S pk, S pvv]) Try.isAgg100 Try.sizeOf100 rfl (.tail _ (.tail _ (List.mem_append_right _ (.tail _ (List.mem_append_right _ (.head _)))))) (flatP_at hpj _) rfl) rfl ?_
  refine G.al Try.zeroValue100 rfl rfl (fun xb hxb => ?_)
  refine G.stA (cs := [S pk, S pvv]) Try.sizeOf100 rfl rfl (by simp [Value.oneCell']) .z rfl ?_
  refine G.nil ?_
  refine GC.turn (H' := ⟨xb, true, .row [S pk, S pvv] 100 (0, 0)⟩ :: ⟨fb, true, .row [I (r.h.getD 0 : Nat), .slice kad j kcap, S r.full, .bool r.tsr] 30 (0, 0)⟩ :: ⟨rb, true, .row [I 0, .slice none 0 0, S [], .bool false] 30 (0, 0)⟩ :: (Hq ++ (⟨tb, true, .row (treeR nb m s) 92 (0, 0)⟩ :: (Ht ++ [⟨rb2, true, .row (flatP r.ps ++ spare) 100 (0, 0)⟩])))) (fun w1 h1 => ?_) ?_
  ·exact h1
  refine GC.reg ?_
  refine G.v (V.fa F30_1 rfl) rfl ?_
  refine G.v (V.ld (b := fb) (off := 0 + 1) (wf := true) (l := [I (r.h.getD 0 : Nat), .slice kad j kcap, S r.full, .bool r.tsr]) (T := 30) (fz := (0, 0)) (v := .slice kad j kcap) Try.isAgg28 rfl (.tail _ (.head _)) rfl) rfl ?_
  refine G.v (V.fa F100_0 rfl) rfl ?_
  refine G.v (V.ld (b := xb) (off := 0 + 0) (wf := true) (l := [S pk, S pvv]) (T := 100) (fz := (0, 0)) (v := S pk) Try.isAgg9 rfl (.head _) rfl) rfl ?_
  refine G.v (V.fa F100_1 rfl) rfl ?_
  refine G.v (V.ld (b := xb) (off := 0 + 1) (wf := true) (l := [S pk, S pvv]) (T := 100) (fz := (0, 0)) (v := S pvv) Try.isAgg9 rfl (.head _) rfl) rfl ?_
  refine G.v (V.bd (vs := [(0, S pk), (1, S pvv)]) rfl (fun w1 => bd_ip _ _ w1)) rfl ?_
  refine G.bs (BS.two (a := S pk) (b := S pvv) Try.underlying28 Try.sizeOf32 Try.zeroValue32) rfl rfl (fun sb hsb => ?_)
  refine G.app (i := Try.t32) (sz := 2) (by_ := 32) Try.underlying28 rfl rfl rfl rfl rfl rfl rfl hownq (H' := ⟨sb, true, .row [S pk, S pvv] 32 (0, 0)⟩ :: ⟨xb, true, .row [S pk, S pvv] 100 (0, 0)⟩ :: ⟨fb, true, .row [I (r.h.getD 0 : Nat), .slice kad j kcap, S r.full, .bool r.tsr] 30 (0, 0)⟩ :: ⟨rb, true, .row [I 0, .slice none 0 0, S [], .bool false] 30 (0, 0)⟩ :: (⟨tb, true, .row (treeR nb m s) 92 (0, 0)⟩ :: (Ht ++ [⟨rb2, true, .row (flatP r.ps ++ spare) 100 (0, 0)⟩]))) ?_ (src_row (vs := [S pk, S pvv]) (r := []) (.head _)) rfl (by simp [Value.oneCell']) (by omega) (by omega) (by omega) rfl (fun kv2 Hq2 hown2 => ?_)
  ·have p1 := perm_idx [[⟨sb, true, .row [S pk, S pvv] 32 (0, 0)⟩], [⟨xb, true, .row [S pk, S pvv] 100 (0, 0)⟩], [⟨fb, true, .row [I (r.h.getD 0 : Nat), .slice kad j kcap, S r.full, .bool r.tsr] 30 (0, 0)⟩], [⟨rb, true, .row [I 0, .slice none 0 0, S [], .bool false] 30 (0, 0)⟩], Hq, (⟨tb, true, .row (treeR nb m s) 92 (0, 0)⟩ :: (Ht ++ [⟨rb2, true, .row (flatP r.ps ++ spare) 100 (0, 0)⟩]))] [0, 1, 2, 3, 4, 5] [4, 0, 1, 2, 3, 5] (by decide)
   simpa using p1
  refine G.v (V.fa F30_1 rfl) rfl ?_
  refine G.st (b := fb) (off := 0 + 1) (l := [I (r.h.getD 0 : Nat), .slice kad j kcap, S r.full, .bool r.tsr]) (T := 30) (fz := (0, 0)) (v := kv2) Try.sizeOf28 rfl rfl (Own.slice1 hown2) (.s (.s .z)) rfl rfl ?_
  refine G.nil ?_
  refine GC.inBlock ?_
  refine GC.reg ?_
  refine G.v (V.addI (r := ((j + 1 : Nat) : Int)) rfl rfl rfl (by omega) (by omega)) rfl ?_
  refine G.m1 ?_
  refine G.nil ?_
  refine GC.turn (H' := ⟨fb, true, .row [I (r.h.getD 0 : Nat), kv2, S r.full, .bool r.tsr] 30 (0, 0)⟩ :: ⟨rb, true, .row [I 0, .slice none 0 0, S [], .bool false] 30 (0, 0)⟩ :: (Hq2 ++ (⟨tb, true, .row (treeR nb m s) 92 (0, 0)⟩ :: (Ht ++ [⟨rb2, true, .row (flatP r.ps ++ spare) 100 (0, 0)⟩])))) (fun w1 h1 => ?_) (ih (N - 1) _ _ (by omega) ⟨j + 1, kv2, Hq2, by omega, by rw [flatP_snoc hpj]; exact hown2, .of rfl, rfl⟩)
  have h2 : HF w D ((⟨sb, true, .row [S pk, S pvv] 32 (0, 0)⟩ :: ⟨xb, true, .row [S pk, S pvv] 100 (0, 0)⟩ :: ⟨fb, true, .row [I (r.h.getD 0 : Nat), kv2, S r.full, .bool r.tsr] 30 (0, 0)⟩ :: ⟨rb, true, .row [I 0, .slice none 0 0, S [], .bool false] 30 (0, 0)⟩ :: (⟨tb, true, .row (treeR nb m s) 92 (0, 0)⟩ :: (Ht ++ [⟨rb2, true, .row (flatP r.ps ++ spare) 100 (0, 0)⟩]))) ++ Hq2) w1 := h1
  have p1 := perm_idx [[⟨sb, true, .row [S pk, S pvv] 32 (0, 0)⟩], [⟨xb, true, .row [S pk, S pvv] 100 (0, 0)⟩], [⟨fb, true, .row [I (r.h.getD 0 : Nat), kv2, S r.full, .bool r.tsr] 30 (0, 0)⟩], [⟨rb, true, .row [I 0, .slice none 0 0, S [], .bool false] 30 (0, 0)⟩], (⟨tb, true, .row (treeR nb m s) 92 (0, 0)⟩ :: (Ht ++ [⟨rb2, true, .row (flatP r.ps ++ spare) 100 (0, 0)⟩])), Hq2] [0, 1, 2, 3, 4, 5] [0, 1, 2, 3, 5, 4] (by decide)
  have h3 := h2.perm (H' := [⟨sb, true, .row [S pk, S pvv] 32 (0, 0)⟩, ⟨xb, true, .row [S pk, S pvv] 100 (0, 0)⟩] ++ (⟨fb, true, .row [I (r.h.getD 0 : Nat), kv2, S r.full, .bool r.tsr] 30 (0, 0)⟩ :: ⟨rb, true, .row [I 0, .slice none 0 0, S [], .bool false] 30 (0, 0)⟩ :: (Hq2 ++ (⟨tb, true, .row (treeR nb m s) 92 (0, 0)⟩ :: (Ht ++ [⟨rb2, true, .row (flatP r.ps ++ spare) 100 (0, 0)⟩]))))) (by simpa using p1)
  exact h3.sub (List.sublist_append_right _ _)
 refine GC.exit rfl ?_
 refine GC.seq ?_
 have hje : j = r.ps.length := by omega
 subst hje
 rw [List.take_length] at hownq
 obtain ⟨kad, kcap, rfl⟩ := hownq.slice
 refine GC.reg ?_
 refine G.v (V.ldA (b := fb) (off := 0) (s := 4) (wf := true) (l := [I (r.h.getD 0 : Nat), .slice kad r.ps.length kcap, S r.full, .bool r.tsr]) (T := 30) (fz := (0, 0)) (cs := [I (r.h.getD 0 : Nat), .slice kad r.ps.length kcap, S r.full, .bool r.tsr]) Try.isAgg30 Try.sizeOf30 rfl (.head _) rfl rfl) rfl ?_
 refine G.stA (cs := [I (r.h.getD 0 : Nat), .slice kad r.ps.length kcap, S r.full, .bool r.tsr]) Try.sizeOf30 rfl rfl (by simp [Value.oneCell']) (.s .z) rfl ?_
 refine G.nil ?_
 refine GC.retC (cs := [I (r.h.getD 0 : Nat), .slice kad r.ps.length kcap, S r.full, .bool r.tsr]) rfl Try.isAgg30 Try.sizeOf30 rfl (.tail _ (.head _)) rfl fun w' hw' => ⟨.slice kad r.ps.length kcap, Hq, rfl, hownq, ?_⟩
 have h1 : HF w D (⟨fb, true, .row [I (r.h.getD 0 : Nat), .slice kad r.ps.length kcap, S r.full, .bool r.tsr] 30 (0, 0)⟩ :: ⟨rb, true, .row [I (r.h.getD 0 : Nat), .slice kad r.ps.length kcap, S r.full, .bool r.tsr] 30 (0, 0)⟩ :: (Hq ++ (⟨tb, true, .row (treeR nb m s) 92 (0, 0)⟩ :: (Ht ++ Hp)))) w' := hw'
 have p1 := perm_idx [[⟨fb, true, .row [I (r.h.getD 0 : Nat), .slice kad r.ps.length kcap, S r.full, .bool r.tsr] 30 (0, 0)⟩], [⟨rb, true, .row [I (r.h.getD 0 : Nat), .slice kad r.ps.length kcap, S r.full, .bool r.tsr] 30 (0, 0)⟩], Hq, [⟨tb, true, .row (treeR nb m s) 92 (0, 0)⟩], Ht, Hp] [0, 1, 2, 3, 4, 5] [0, 1, 5, 3, 4, 2] (by decide)
 have h2 := h1.perm (H' := (⟨fb, true, .row [I (r.h.getD 0 : Nat), .slice kad r.ps.length kcap, S r.full, .bool r.tsr] 30 (0, 0)⟩ :: ⟨rb, true, .row [I (r.h.getD 0 : Nat), .slice kad r.ps.length kcap, S r.full, .bool r.tsr] 30 (0, 0)⟩ :: Hp) ++ (⟨tb, true, .row (treeR nb m s) 92 (0, 0)⟩ :: (Ht ++ Hq))) (by simpa using p1)
 exact h2.sub (List.sublist_append_right _ _)
theorem f43_any (w : World) (D : Nat → Prop) {tb nb m s c1 c2 c3 c4 : Nat} {un : Bool} {Ht : SH} {t : T0} {p : List UInt8} {g : Nat} {r : Res} {z4 : List Value} (ht : HT t nb Ht) (hl : Ln t) (hpl : p.length ≤ 100000) (hm : m ≤ 20000) (hs : s ≤ 20000) (hrm : r.ps.length ≤ m) (hz : z4.length = 4) (hres : getC (unV un) m s g t p [] [] = some r) (hH : HF w D (⟨c1, true, .row [Pt tb 0] 63 (0, 0)⟩ :: ⟨c2, true, .row [S p] 9 (0, 0)⟩ :: ⟨c3, true, .row [.bool un] 4 (0, 0)⟩ :: ⟨c4, true, .row z4 30 (0, 0)⟩ :: ⟨tb, true, .row (treeR nb m s) 92 (0, 0)⟩ :: Ht) w) :
  Calls Try.prog 43 #[Pt c1 0, Pt c2 0, Pt c3 0, Pt c4 0] w fun e w' => ∃ pv Hq, e = .returned (.tuple #[]) ∧ Own 32 2 pv r.ps.length (flatP r.ps) Hq ∧ HF w D (⟨c1, true, .row [Pt tb 0] 63 (0, 0)⟩ :: ⟨c2, true, .row [S p] 9 (0, 0)⟩ :: ⟨c3, true, .row [.bool un] 4 (0, 0)⟩ :: ⟨c4, true, .row (fndV r pv) 30 (0, 0)⟩ :: ⟨tb, true, .row (treeR nb m s) 92 (0, 0)⟩ :: (Ht ++ Hq)) w' := by
 refine enter D (⟨c1, true, .row [Pt tb 0] 63 (0, 0)⟩ :: ⟨c2, true, .row [S p] 9 (0, 0)⟩ :: ⟨c3, true, .row [.bool un] 4 (0, 0)⟩ :: ⟨c4, true, .row z4 30 (0, 0)⟩ :: ⟨tb, true, .row (treeR nb m s) 92 (0, 0)⟩ :: Ht) Try.func43 rfl Try.ntmps43 rfl rfl hH fun c hc => ?_
 subst hc
 refine GC.reg ?_
 refine G.v (V.ld (b := c1) (off := 0) (wf := true) (l := [Pt tb 0]) (T := 63) (fz := (0, 0)) (v := Pt tb 0) Try.isAgg63 rfl (.head _) rfl) rfl ?_
 refine G.v (V.ld (b := c2) (off := 0) (wf := true) (l := [S p]) (T := 9) (fz := (0, 0)) (v := S p) Try.isAgg9 rfl (.tail _ (.head _)) rfl) rfl ?_
 refine G.v (V.ld (b := c3) (off := 0) (wf := true) (l := [.bool un]) (T := 4) (fz := (0, 0)) (v := .bool un) Try.isAgg4 rfl (m2 (.head _)) rfl) rfl ?_
 refine G.callL (H1 := ⟨tb, true, .row (treeR nb m s) 92 (0, 0)⟩ :: Ht) (Hk := [⟨c1, true, .row [Pt tb 0] 63 (0, 0)⟩, ⟨c2, true, .row [S p] 9 (0, 0)⟩, ⟨c3, true, .row [.bool un] 4 (0, 0)⟩, ⟨c4, true, .row z4 30 (0, 0)⟩]) (fun v H1' => ∃ pv Hq, v = .agg (fndV r pv).toArray ∧ Own 32 2 pv r.ps.length (flatP r.ps) Hq ∧ H1' = ⟨tb, true, .row (treeR nb m s) 92 (0, 0)⟩ :: (Ht ++ Hq)) (List.perm_append_comm (l₁ := ([⟨c1, true, .row [Pt tb 0] 63 (0, 0)⟩, ⟨c2, true, .row [S p] 9 (0, 0)⟩, ⟨c3, true, .row [.bool un] 4 (0, 0)⟩, ⟨c4, true, .row z4 30 (0, 0)⟩] : SH))) (fun e0 he0 => ?_) Try.call44 rfl rfl (fun w1 hw1 _ => ?_) ?_
 ·rcases List.mem_cons.1 he0 with rfl | he0
  ·rfl
  ·exact ht.w e0 he0
 ·refine (f44_any w1 _ ht hl hpl hm hs hrm hres hw1).mono fun e w' ⟨pv, Hq, h1, h2, h3⟩ => ⟨_, _, h1, fun e0 he0 => ?_, h3, pv, Hq, rfl, h2, rfl⟩
  rcases List.mem_cons.1 he0 with rfl | he0
  ·rfl
  ·rcases List.mem_append.1 he0 with he0 | he0
   ·exact ht.w e0 he0
   ·exact h2.w e0 he0
 rintro v H1' ⟨pv, Hq, rfl, hown, rfl⟩
 refine G.turn (H' := ⟨c1, true, .row [Pt tb 0] 63 (0, 0)⟩ :: ⟨c2, true, .row [S p] 9 (0, 0)⟩ :: ⟨c3, true, .row [.bool un] 4 (0, 0)⟩ :: ⟨c4, true, .row z4 30 (0, 0)⟩ :: ⟨tb, true, .row (treeR nb m s) 92 (0, 0)⟩ :: (Ht ++ Hq)) (fun w1 h1 => h1.perm (List.perm_append_comm (l₂ := ([⟨c1, true, .row [Pt tb 0] 63 (0, 0)⟩, ⟨c2, true, .row [S p] 9 (0, 0)⟩, ⟨c3, true, .row [.bool un] 4 (0, 0)⟩, ⟨c4, true, .row z4 30 (0, 0)⟩] : SH)))) ?_
 refine G.stA (cs := fndV r pv) Try.sizeOf30 rfl rfl (by intro v hv; simp only [fndV, List.mem_cons, List.not_mem_nil, or_false] at hv; rcases hv with rfl | rfl | rfl | rfl <;> first | rfl | exact Own.slice1 hown) (.s (.s (.s .z))) (by rw [hz]; rfl) ?_
 refine G.nil ?_
 exact GC.end0 rfl fun w' hw' => ⟨pv, Hq, rfl, hown, hw'⟩
end Go.Proofs

/- GinFind. Printed by wip/mk_gh3.py. -/
set_option maxRecDepth 20000
namespace Go.Proofs
open Go Bw
open Gt
/-- results in a row; their parameters lie in H -/
inductive Fnds : List Res → List Value → SH → Prop
 | nil : Fnds [] [] []
 | snoc {rs : List Res} {cells : List Value} {H Hq : SH} {r : Res} {pv : Value} (h : Fnds rs cells H) (ho : Own 32 2 pv r.ps.length (flatP r.ps) Hq) : Fnds (rs ++ [r]) (cells ++ fndV r pv) (H ++ Hq)
theorem Fnds.w {rs cells H} (h : Fnds rs cells H) : ∀ e ∈ H, e.w = true := by
 induction h with
 | nil => intro e he; cases he
 | snoc h ho ih =>
  intro e he
  rcases List.mem_append.1 he with he | he
  ·exact ih e he
  ·exact ho.w e he
theorem addAll_TS : ∀ (rs : List (List Tok)) (t t' : T0) (f : F) (k : Nat), TS t f → (∀ r ∈ rs, Gt.Good r) → addAll t (rs.map txt) k = .inl t' → ∃ f', TS t' f'
 | [], t, t', f, k, h, _, e => by cases e; exact ⟨f, h⟩
 | r :: rs, t, t', f, k, h, hg, e => by
  simp only [List.map_cons, addAll] at e
  by_cases ha : Ap f r
  ·obtain ⟨t2, h1, h2⟩ := (add_ok h (hg r (.head _)) (k + 1)).1 ha
   rw [h1] at e
   exact addAll_TS rs t2 t' _ (k + 1) h2 (fun x hx => hg x (.tail _ hx)) e
  ·rw [(add_ok h (hg r (.head _)) (k + 1)).2 ha] at e; cases e
theorem mxP_le {l : List (List Tok)} (h : ∀ r ∈ l, (txt r).length ≤ 20000) : mxP l ≤ 20000 := by
 have key : ∀ (l : List (List Tok)) (m : Nat), m ≤ 20000 → (∀ r ∈ l, (txt r).length ≤ 20000) → l.foldl (fun m r => max m ((txt r).count 58 + (txt r).count 42)) m ≤ 20000 := by
  intro l
  induction l with
  | nil => intro m hm _; exact hm
  | cons r l ih =>
   intro m hm hl
   refine ih _ (Nat.max_le.2 ⟨hm, ?_⟩) fun x hx => hl x (.tail _ hx)
   have h1 := hl r (.head _)
   have h2 : ∀ s : List UInt8, s.count 58 + s.count 42 ≤ s.length := by
    intro s
    induction s with
    | nil => simp
    | cons a s ih2 =>
     rw [List.count_cons, List.count_cons, List.length_cons]
     by_cases e1 : a = 58
     ·subst e1; simp; omega
     ·by_cases e2 : a = 42
      ·subst e2; simp; omega
      ·simp [e1, e2]; omega
   have := h2 (txt r)
   omega
 exact key l 0 (by omega) h
theorem mxS_le {l : List (List Tok)} (h : ∀ r ∈ l, (txt r).length ≤ 20000) : mxS l ≤ 20000 := by
 have key : ∀ (l : List (List Tok)) (m : Nat), m ≤ 20000 → (∀ r ∈ l, (txt r).length ≤ 20000) → l.foldl (fun m r => max m ((txt r).count 47)) m ≤ 20000 := by
  intro l
  induction l with
  | nil => intro m hm _; exact hm
  | cons r l ih =>
   intro m hm hl
   refine ih _ (Nat.max_le.2 ⟨hm, ?_⟩) fun x hx => hl x (.tail _ hx)
   have h1 := hl r (.head _)
   have := List.count_le_length (a := (47 : UInt8)) (l := txt r)
   omega
 exact key l 0 (by omega) h
theorem f15_any (w : World) (rs : List (List Tok)) (sv : Value) (hg : ∀ r ∈ rs, Gt.Good r) (hl : ∀ r ∈ rs, (txt r).length ≤ 20000) (h92 : ∀ r ∈ rs, ∀ c ∈ txt r, c ≠ 92) (hn : rs.length ≤ 1000000) (hsv : Txts w sv (rs.map txt)) (ps : List (List UInt8)) (pv : Value) (hpv : Txts w pv ps) (hpl : ∀ p ∈ ps, p.length ≤ 100000) (hpn : ps.length ≤ 100000) (un : Bool) (hget : ∀ t, addAll new (rs.map txt) 0 = .inl t → ∀ p ∈ ps, ∃ g r, getC (unV un) (mxP rs) (mxS rs) g t p [] [] = some r ∧ r.ps.length ≤ mxP rs) : Calls Try.prog 15 #[sv, pv, .bool un] w fun e w' => (∃ j, addAll new (rs.map txt) 0 = .inr j ∧ e = .returned (.tuple #[.slice none 0 0, .bool false]) ∧ HF w (fun _ => False) [] w') ∨ (∃ t rr fv cells Hf Hq, addAll new (rs.map txt) 0 = .inl t ∧ rr.length = ps.length ∧ (∀ (i : Nat) p r, ps[i]? = some p → rr[i]? = some r → ∃ g, getC (unV un) (mxP rs) (mxS rs) g t p [] [] = some r) ∧ e = .returned (.tuple #[fv, .bool true]) ∧ Own 30 4 fv rr.length cells Hf ∧ Fnds rr cells Hq ∧ HF w (fun _ => False) (Hf ++ Hq) w') := by
 refine enter (fun _ => False) [] Try.func15 rfl Try.ntmps15 rfl rfl (HF.start w _) fun c hc => ?_
 subst hc
 have hmP := mxP_le hl
 have hmS := mxS_le hl
 refine GC.seq ?_
 refine GC.reg ?_
 refine G.bx (l := [.bool un]) rfl rfl rfl (fun c3 hc3 => ?_)
 refine G.m2 ?_
 refine G.m2 ?_
 refine G.nil ?_
 refine GC.seq ?_
 refine GC.reg ?_
 refine G.m1 ?_
 refine G.callW (fun v H2 => ∃ (tb1 : Nat) (rf : Int), v = .tuple #[Pt tb1 0, I rf] ∧ ((∃ t nb Hn, addAll new (rs.map txt) 0 = .inl t ∧ rf = -1 ∧ HT t nb Hn ∧ H2 = (⟨tb1, true, .row (treeR nb (mxP rs) (mxS rs)) 92 (0, 0)⟩ :: Hn) ++ [⟨c3, true, .row [.bool un] 4 (0, 0)⟩]) ∨ (∃ j : Nat, addAll new (rs.map txt) 0 = .inr j ∧ rf = j ∧ H2 = [⟨c3, true, .row [.bool un] 4 (0, 0)⟩]))) Try.call40 rfl rfl (fun w1 hw1 => (f40_any w1 rs sv hg hl h92 hn (hsv.old hw1)).mono fun e w' h => ?_) ?_
 ·rcases h with ⟨t, tb, nb, Hn, h1, h2, h3, h4⟩ | ⟨j, tb, h1, h2, h3⟩
  ·refine ⟨_, _, h2, hw1.after0 h4 (fun e0 he0 => ?_), tb, -1, rfl, .inl ⟨t, nb, Hn, h1, rfl, h3, rfl⟩⟩
   rcases List.mem_cons.1 he0 with rfl | he0
   ·rfl
   ·exact h3.w e0 he0
  ·exact ⟨_, _, h2, hw1.after0 h3 (by simp), tb, (j : Int), rfl, .inr ⟨j, h1, rfl, rfl⟩⟩
 rintro v H2 ⟨tb, rf, rfl, hJ⟩
 refine G.m1 ?_
 refine G.v (V.ex rfl rfl) rfl ?_
 refine G.v (V.ex rfl rfl) rfl ?_
 refine G.al Try.zeroValue63 rfl rfl (fun c1 hc1 => ?_)
 refine G.st Try.sizeOf63 rfl rfl rfl .z rfl rfl ?_
 refine G.m2 ?_
 refine G.nil ?_
 refine GC.turn (H' := ⟨c1, true, .row [Pt tb 0] 63 (0, 0)⟩ :: H2) (fun w1 h1 => h1) ?_
 refine GC.seq ?_
 refine GC.seq ?_
 refine GC.reg ?_
 refine G.m1 ?_
 refine G.v (V.ge rfl rfl) rfl ?_
 refine G.nil ?_
 refine GC.condD rfl (fun h19 => ?_) (fun h19 => ?_)
 ·refine GC.seq ?_
  obtain ⟨j, hadd, rfl, rfl⟩ : ∃ j : Nat, addAll new (rs.map txt) 0 = .inr j ∧ rf = j ∧ H2 = [⟨c3, true, .row [.bool un] 4 (0, 0)⟩] := by
   rcases hJ with ⟨t, nb, Hn, h1, h2, _⟩ | h
   ·omega
   ·exact h
  refine GC.reg ?_
  refine G.m2 ?_
  refine G.m2 ?_
  refine G.nil ?_
  exact GC.ret2 rfl rfl rfl fun w' hw' => .inl ⟨j, hadd, rfl, hw'.sub (List.nil_sublist _)⟩
 refine GC.skip ?_
 refine GC.seq ?_
 obtain ⟨t, nb, Hn, hadd, rfl, ht0, rfl⟩ : ∃ t nb Hn, addAll new (rs.map txt) 0 = .inl t ∧ rf = -1 ∧ HT t nb Hn ∧ H2 = (⟨tb, true, .row (treeR nb (mxP rs) (mxS rs)) 92 (0, 0)⟩ :: Hn) ++ [⟨c3, true, .row [.bool un] 4 (0, 0)⟩] := by
  rcases hJ with h | ⟨j, h1, h2, _⟩
  ·exact h
  ·omega
 obtain ⟨f0, hts⟩ := addAll_TS rs new t _ 0 (.inl ⟨rfl, rfl⟩) hg hadd
 have hnb := NB.all (rs.map txt) new 0 t NB.new (fun r hr => by obtain ⟨x, hx, rfl⟩ := List.mem_map.1 hr; exact ⟨hl x hx, h92 x hx⟩) hadd
 have hln := Ln.of hts hnb
 refine GC.turn (H' := ⟨c1, true, .row [Pt tb 0] 63 (0, 0)⟩ :: ⟨c3, true, .row [.bool un] 4 (0, 0)⟩ :: ⟨tb, true, .row (treeR nb (mxP rs) (mxS rs)) 92 (0, 0)⟩ :: Hn) (fun w1 h1 => h1.perm ?_) ?_
 ·have p1 := perm_idx [[⟨c1, true, .row [Pt tb 0] 63 (0, 0)⟩], [⟨tb, true, .row (treeR nb (mxP rs) (mxS rs)) 92 (0, 0)⟩], Hn, [⟨c3, true, .row [.bool un] 4 (0, 0)⟩]] [0, 1, 2, 3] [0, 3, 1, 2] (by decide)
  simpa using p1
 refine GC.reg ?_
 refine G.v (V.ld (b := c1) (off := 0) (wf := true) (l := [Pt tb 0]) (T := 63) (fz := (0, 0)) (v := Pt tb 0) Try.isAgg63 rfl (.head _) rfl) rfl ?_
 refine G.callL (H1 := ⟨tb, true, .row (treeR nb (mxP rs) (mxS rs)) 92 (0, 0)⟩ :: Hn) (Hk := [⟨c1, true, .row [Pt tb 0] 63 (0, 0)⟩, ⟨c3, true, .row [.bool un] 4 (0, 0)⟩]) (fun v H1' => v = .tuple #[] ∧ ∃ Hn', HT t nb Hn' ∧ H1' = ⟨tb, true, .row (treeR nb (mxP rs) (mxS rs)) 92 (0, 0)⟩ :: Hn') (List.perm_append_comm (l₁ := ([⟨c1, true, .row [Pt tb 0] 63 (0, 0)⟩, ⟨c3, true, .row [.bool un] 4 (0, 0)⟩] : SH))) (fun e0 he0 => ?_) Try.call41 rfl rfl (fun w1 hw1 _ => ?_) ?_
 ·rcases List.mem_cons.1 he0 with rfl | he0
  ·rfl
  ·exact ht0.w e0 he0
 ·refine (f41_any w1 _ hln hnb ht0 hw1).mono fun e w' ⟨h1, Hn', h2, h3⟩ => ⟨_, _, h1, fun e0 he0 => ?_, h3, rfl, Hn', h2, rfl⟩
  rcases List.mem_cons.1 he0 with rfl | he0
  ·rfl
  ·exact h2.w e0 he0
 rintro v H1' ⟨rfl, Hn1, ht1, rfl⟩
 refine G.nil ?_
 refine GC.seq ?_
 refine GC.seq ?_
 refine GC.turn (H' := ⟨c1, true, .row [Pt tb 0] 63 (0, 0)⟩ :: ⟨c3, true, .row [.bool un] 4 (0, 0)⟩ :: ⟨tb, true, .row (treeR nb (mxP rs) (mxS rs)) 92 (0, 0)⟩ :: (Hn1 ++ ([] ++ []))) (fun w1 h1 => h1.perm ?_) ?_
 ·have p1 := perm_idx [[⟨tb, true, .row (treeR nb (mxP rs) (mxS rs)) 92 (0, 0)⟩], Hn1, [⟨c1, true, .row [Pt tb 0] 63 (0, 0)⟩], [⟨c3, true, .row [.bool un] 4 (0, 0)⟩]] [0, 1, 2, 3] [2, 3, 0, 1] (by decide)
  simpa using p1
 obtain ⟨pad, pcap, rfl, hpcell⟩ := hpv
 refine GC.reg ?_
 refine G.m1 ?_
 refine G.v (V.lenL Try.underlying26 rfl) rfl ?_
 refine G.m1 ?_
 refine G.nil ?_
 refine GC.block ?_
 refine GC.loopJ (fun N fr' H' => ∃ (j : Nat) (rr : List Res) (fv : Value) (cells : List Value) (Ht Hf Hq : SH), j + N = ps.length ∧ rr.length = j ∧ (∀ (i : Nat) p r, ps[i]? = some p → rr[i]? = some r → ∃ g, getC (unV un) (mxP rs) (mxS rs) g t p [] [] = some r) ∧ HT t nb Ht ∧ Own 30 4 fv j cells Hf ∧ Fnds rr cells Hq ∧ Sub [(8, Pt c1 0), (5, Pt c3 0), (6, fv), (22, .slice pad ps.length pcap), (23, I (ps.length : Nat)), (24, I (j : Nat))] fr' ∧ H' = ⟨c1, true, .row [Pt tb 0] 63 (0, 0)⟩ :: ⟨c3, true, .row [.bool un] 4 (0, 0)⟩ :: ⟨tb, true, .row (treeR nb (mxP rs) (mxS rs)) 92 (0, 0)⟩ :: (Ht ++ (Hf ++ Hq))) ps.length
  ⟨0, [], .slice none 0 0, [], Hn1, [], [], by omega, rfl, fun i p r _ h => by simp at h, ht1, Own.nil, .nil, .of rfl, rfl⟩ ?_
 rintro N fr' H' ⟨j, rr, fv, cells, Ht, Hf, Hq, hj, hrr, hres, ht, hown, hfn, hs2, rfl⟩ ih
 refine GC.weak hs2 ?_
 clear hs2
 refine GC.seq ?_
 refine GC.reg ?_
 refine G.v (V.lt rfl rfl) rfl ?_
 refine G.nil ?_
 refine GC.seq ?_
 refine GC.condD rfl (fun h25 => ?_) (fun h25 => ?_)
 ·refine GC.skip ?_
  refine GC.seq ?_
  refine GC.block ?_
  refine GC.seq ?_
  have hjl : j < ps.length := by omega
  obtain ⟨p, hpj⟩ : ∃ p, ps[j]? = some p := ⟨_, List.getElem?_eq_getElem hjl⟩
  have hpm := List.mem_of_getElem? hpj
  obtain ⟨lb, lo, rfl, hcr⟩ := hpcell j p hpj
  obtain ⟨g, r, hgr, hrm⟩ := hget t hadd p hpm
  refine GC.reg ?_
  refine G.v (V.ia (i := j) Try.underlying26 Try.sizeOf9 rfl rfl hjl) rfl ?_
  rw [Nat.mul_one]
  refine G.v (V.ldC (v := S p) Try.isAgg9 rfl hcr id) rfl ?_
  refine G.al Try.zeroValue9 rfl rfl (fun c2 hc2 => ?_)
  refine G.st Try.sizeOf9 rfl rfl rfl .z rfl rfl ?_
  refine G.nil ?_
  refine GC.seq ?_
  refine GC.reg ?_
  refine G.al (l := [I 0, .slice none 0 0, S [], .bool false]) Try.zeroValue30 rfl rfl (fun c4 hc4 => ?_)
  refine G.nil ?_
  refine GC.seq ?_
  refine GC.seq ?_
  refine GC.turn (H' := (⟨c1, true, .row [Pt tb 0] 63 (0, 0)⟩ :: ⟨c2, true, .row [S p] 9 (0, 0)⟩ :: ⟨c3, true, .row [.bool un] 4 (0, 0)⟩ :: ⟨c4, true, .row [I 0, .slice none 0 0, S [], .bool false] 30 (0, 0)⟩ :: ⟨tb, true, .row (treeR nb (mxP rs) (mxS rs)) 92 (0, 0)⟩ :: Ht) ++ (Hf ++ Hq)) (fun w1 h1 => ?_) ?_
  ·have h2 : HF w (fun _ => False) (⟨c4, true, .row [I 0, .slice none 0 0, S [], .bool false] 30 (0, 0)⟩ :: ⟨c2, true, .row [S p] 9 (0, 0)⟩ :: ⟨c1, true, .row [Pt tb 0] 63 (0, 0)⟩ :: ⟨c3, true, .row [.bool un] 4 (0, 0)⟩ :: ⟨tb, true, .row (treeR nb (mxP rs) (mxS rs)) 92 (0, 0)⟩ :: (Ht ++ (Hf ++ Hq))) w1 := h1
   have p1 := perm_idx [[⟨c4, true, .row [I 0, .slice none 0 0, S [], .bool false] 30 (0, 0)⟩], [⟨c2, true, .row [S p] 9 (0, 0)⟩], [⟨c1, true, .row [Pt tb 0] 63 (0, 0)⟩], [⟨c3, true, .row [.bool un] 4 (0, 0)⟩], [⟨tb, true, .row (treeR nb (mxP rs) (mxS rs)) 92 (0, 0)⟩], Ht, Hf, Hq] [0, 1, 2, 3, 4, 5, 6, 7] [2, 1, 3, 0, 4, 5, 6, 7] (by decide)
   exact h2.perm (by simpa using p1)
  refine GC.reg ?_
  refine G.v (V.mkF (vs := [Pt c1 0, Pt c2 0, Pt c3 0, Pt c4 0]) rfl) rfl ?_
  refine G.callW (fun v H2 => ∃ t1, v = .bool t1 ∧ (t1 = false ∧ ∃ pv1 Hq1, Own 32 2 pv1 r.ps.length (flatP r.ps) Hq1 ∧ H2 = (⟨c1, true, .row [Pt tb 0] 63 (0, 0)⟩ :: ⟨c2, true, .row [S p] 9 (0, 0)⟩ :: ⟨c3, true, .row [.bool un] 4 (0, 0)⟩ :: ⟨c4, true, .row (fndV r pv1) 30 (0, 0)⟩ :: ⟨tb, true, .row (treeR nb (mxP rs) (mxS rs)) 92 (0, 0)⟩ :: (Ht ++ Hq1)) ++ (Hf ++ Hq))) Try.call42 rfl rfl (fun w1 hw1 => ?_) ?_
  ·refine (f42_any 43 #[Pt c1 0, Pt c2 0, Pt c3 0, Pt c4 0] Try.call43 w1 w (fun _ => False) _ hw1 (fun t1 H2 => (t1 = false ∧ ∃ pv1 Hq1, Own 32 2 pv1 r.ps.length (flatP r.ps) Hq1 ∧ H2 = (⟨c1, true, .row [Pt tb 0] 63 (0, 0)⟩ :: ⟨c2, true, .row [S p] 9 (0, 0)⟩ :: ⟨c3, true, .row [.bool un] 4 (0, 0)⟩ :: ⟨c4, true, .row (fndV r pv1) 30 (0, 0)⟩ :: ⟨tb, true, .row (treeR nb (mxP rs) (mxS rs)) 92 (0, 0)⟩ :: (Ht ++ Hq1)) ++ (Hf ++ Hq))) (fun b w2 hb0 hw2 => ?_)).mono fun e w' ⟨t1, H2, h1, h2, h3⟩ => ⟨_, _, h1, h3, t1, rfl, h2⟩
   have hp2 : List.Perm (⟨b, true, .row [.bool false] 4 (0, 0)⟩ :: ((⟨c1, true, .row [Pt tb 0] 63 (0, 0)⟩ :: ⟨c2, true, .row [S p] 9 (0, 0)⟩ :: ⟨c3, true, .row [.bool un] 4 (0, 0)⟩ :: ⟨c4, true, .row [I 0, .slice none 0 0, S [], .bool false] 30 (0, 0)⟩ :: ⟨tb, true, .row (treeR nb (mxP rs) (mxS rs)) 92 (0, 0)⟩ :: Ht) ++ (Hf ++ Hq)) : SH) ((⟨c1, true, .row [Pt tb 0] 63 (0, 0)⟩ :: ⟨c2, true, .row [S p] 9 (0, 0)⟩ :: ⟨c3, true, .row [.bool un] 4 (0, 0)⟩ :: ⟨c4, true, .row [I 0, .slice none 0 0, S [], .bool false] 30 (0, 0)⟩ :: ⟨tb, true, .row (treeR nb (mxP rs) (mxS rs)) 92 (0, 0)⟩ :: Ht) ++ (⟨b, true, .row [.bool false] 4 (0, 0)⟩ :: (Hf ++ Hq))) := (List.perm_middle (l₁ := (⟨c1, true, .row [Pt tb 0] 63 (0, 0)⟩ :: ⟨c2, true, .row [S p] 9 (0, 0)⟩ :: ⟨c3, true, .row [.bool un] 4 (0, 0)⟩ :: ⟨c4, true, .row [I 0, .slice none 0 0, S [], .bool false] 30 (0, 0)⟩ :: ⟨tb, true, .row (treeR nb (mxP rs) (mxS rs)) 92 (0, 0)⟩ :: Ht))).symm
   have hh := hw2.perm hp2
   have hnd := List.pairwise_append.1 hh.nd
   have hww : ∀ e0 ∈ ((⟨c1, true, .row [Pt tb 0] 63 (0, 0)⟩ :: ⟨c2, true, .row [S p] 9 (0, 0)⟩ :: ⟨c3, true, .row [.bool un] 4 (0, 0)⟩ :: ⟨c4, true, .row [I 0, .slice none 0 0, S [], .bool false] 30 (0, 0)⟩ :: ⟨tb, true, .row (treeR nb (mxP rs) (mxS rs)) 92 (0, 0)⟩ :: Ht) : SH), e0.w = true := fun e0 he0 => by
    simp only [List.mem_cons] at he0
    rcases he0 with rfl | rfl | rfl | rfl | rfl | he0 <;> first | rfl | exact ht.w e0 he0
   refine (f43_any w2 (fun b => ∃ e ∈ ((⟨c1, true, .row [Pt tb 0] 63 (0, 0)⟩ :: ⟨c2, true, .row [S p] 9 (0, 0)⟩ :: ⟨c3, true, .row [.bool un] 4 (0, 0)⟩ :: ⟨c4, true, .row [I 0, .slice none 0 0, S [], .bool false] 30 (0, 0)⟩ :: ⟨tb, true, .row (treeR nb (mxP rs) (mxS rs)) 92 (0, 0)⟩ :: Ht) : SH), e.b = b) ht hln (hpl p hpm) hmP hmS hrm rfl hgr (hh.loc (fun e he => List.mem_append_left _ he) hnd.1)).mono fun e w' ⟨pv1, Hq1, h1, h2, h3⟩ => ?_
   refine ⟨_, ?_, .inl ⟨_, h1, rfl, pv1, Hq1, h2, rfl⟩⟩
   have h5 := hw2.back hp2 hww (fun e0 he0 => by
    simp only [List.mem_cons, List.mem_append] at he0
    rcases he0 with rfl | rfl | rfl | rfl | rfl | he0 | he0 <;> first | rfl | exact ht.w e0 he0 | exact h2.w e0 he0) h3
   exact h5.perm (List.perm_middle (l₁ := (⟨c1, true, .row [Pt tb 0] 63 (0, 0)⟩ :: ⟨c2, true, .row [S p] 9 (0, 0)⟩ :: ⟨c3, true, .row [.bool un] 4 (0, 0)⟩ :: ⟨c4, true, .row (fndV r pv1) 30 (0, 0)⟩ :: ⟨tb, true, .row (treeR nb (mxP rs) (mxS rs)) 92 (0, 0)⟩ :: (Ht ++ Hq1))))
  rintro v H2 ⟨t1, rfl, rfl, pv1, Hq1, hown1, rfl⟩
  refine G.nil ?_
  refine GC.condF rfl ?_
  refine GC.skip ?_
  refine GC.reg ?_
  refine G.m1 ?_
  refine G.v (V.ldA (b := c4) (off := 0) (s := 4) (wf := true) (l := fndV r pv1) (T := 30) (fz := (0, 0)) (cs := fndV r pv1) Try.isAgg30 Try.sizeOf30 rfl (by simp) rfl rfl) rfl ?_
  refine G.bs (BS.four (a := I (r.h.getD 0 : Nat)) (b := pv1) (c := S r.full) (d := .bool r.tsr) Try.underlying23 Try.sizeOf30 Try.zeroValue30) rfl rfl (fun sb hsb => ?_)
  refine G.app (i := Try.t30) (sz := 4) (by_ := 56) Try.underlying23 rfl rfl rfl rfl rfl rfl rfl hown (H' := (⟨sb, true, .row (fndV r pv1) 30 (0, 0)⟩ :: ⟨c1, true, .row [Pt tb 0] 63 (0, 0)⟩ :: ⟨c2, true, .row [S p] 9 (0, 0)⟩ :: ⟨c3, true, .row [.bool un] 4 (0, 0)⟩ :: ⟨c4, true, .row (fndV r pv1) 30 (0, 0)⟩ :: ⟨tb, true, .row (treeR nb (mxP rs) (mxS rs)) 92 (0, 0)⟩ :: (Ht ++ (Hq1 ++ Hq)))) ?_ (src_row (vs := fndV r pv1) (r := []) (.head _)) rfl (by intro u hu; simp only [fndV, List.mem_cons, List.not_mem_nil, or_false] at hu; rcases hu with rfl | rfl | rfl | rfl <;> first | rfl | exact Own.slice1 hown1) (by omega) (by omega) (by omega) rfl (fun fv2 Hf2 hown2 => ?_)
  ·have p1 := perm_idx [[⟨sb, true, .row (fndV r pv1) 30 (0, 0)⟩], [⟨c1, true, .row [Pt tb 0] 63 (0, 0)⟩], [⟨c2, true, .row [S p] 9 (0, 0)⟩], [⟨c3, true, .row [.bool un] 4 (0, 0)⟩], [⟨c4, true, .row (fndV r pv1) 30 (0, 0)⟩], [⟨tb, true, .row (treeR nb (mxP rs) (mxS rs)) 92 (0, 0)⟩], Ht, Hq1, Hf, Hq] [0, 1, 2, 3, 4, 5, 6, 7, 8, 9] [8, 0, 1, 2, 3, 4, 5, 6, 7, 9] (by decide)
   have p2 : List.Perm (⟨sb, true, .row (fndV r pv1) 30 (0, 0)⟩ :: ((⟨c1, true, .row [Pt tb 0] 63 (0, 0)⟩ :: ⟨c2, true, .row [S p] 9 (0, 0)⟩ :: ⟨c3, true, .row [.bool un] 4 (0, 0)⟩ :: ⟨c4, true, .row (fndV r pv1) 30 (0, 0)⟩ :: ⟨tb, true, .row (treeR nb (mxP rs) (mxS rs)) 92 (0, 0)⟩ :: (Ht ++ Hq1)) ++ (Hf ++ Hq))) (Hf ++ (⟨sb, true, .row (fndV r pv1) 30 (0, 0)⟩ :: ⟨c1, true, .row [Pt tb 0] 63 (0, 0)⟩ :: ⟨c2, true, .row [S p] 9 (0, 0)⟩ :: ⟨c3, true, .row [.bool un] 4 (0, 0)⟩ :: ⟨c4, true, .row (fndV r pv1) 30 (0, 0)⟩ :: ⟨tb, true, .row (treeR nb (mxP rs) (mxS rs)) 92 (0, 0)⟩ :: (Ht ++ (Hq1 ++ Hq)))) := by simpa using p1
   exact p2
  refine G.m2 ?_
  refine G.nil ?_
  refine GC.inBlock ?_
  refine GC.reg ?_
  refine G.v (V.addI (r := ((j + 1 : Nat) : Int)) rfl rfl rfl (by omega) (by omega)) rfl ?_
  refine G.m1 ?_
  refine G.nil ?_
  refine GC.turn (H' := ⟨c1, true, .row [Pt tb 0] 63 (0, 0)⟩ :: ⟨c3, true, .row [.bool un] 4 (0, 0)⟩ :: ⟨tb, true, .row (treeR nb (mxP rs) (mxS rs)) 92 (0, 0)⟩ :: (Ht ++ (Hf2 ++ (Hq ++ Hq1)))) (fun w1 h1 => ?_) (ih (N - 1) _ _ (by omega) ⟨j + 1, rr ++ [r], fv2, cells ++ fndV r pv1, Ht, Hf2, Hq ++ Hq1, by omega, by simp; omega, fun i p2 r2 hi hr2 => ?_, ht, hown2, .snoc hfn hown1, .of rfl, rfl⟩)
  ·have h2 : HF w (fun _ => False) ((⟨sb, true, .row (fndV r pv1) 30 (0, 0)⟩ :: ⟨c1, true, .row [Pt tb 0] 63 (0, 0)⟩ :: ⟨c2, true, .row [S p] 9 (0, 0)⟩ :: ⟨c3, true, .row [.bool un] 4 (0, 0)⟩ :: ⟨c4, true, .row (fndV r pv1) 30 (0, 0)⟩ :: ⟨tb, true, .row (treeR nb (mxP rs) (mxS rs)) 92 (0, 0)⟩ :: (Ht ++ (Hq1 ++ Hq))) ++ Hf2) w1 := h1
   have p1 := perm_idx [[⟨sb, true, .row (fndV r pv1) 30 (0, 0)⟩], [⟨c1, true, .row [Pt tb 0] 63 (0, 0)⟩], [⟨c2, true, .row [S p] 9 (0, 0)⟩], [⟨c3, true, .row [.bool un] 4 (0, 0)⟩], [⟨c4, true, .row (fndV r pv1) 30 (0, 0)⟩], [⟨tb, true, .row (treeR nb (mxP rs) (mxS rs)) 92 (0, 0)⟩], Ht, Hq1, Hq, Hf2] [0, 1, 2, 3, 4, 5, 6, 7, 8, 9] [0, 2, 4, 1, 3, 5, 6, 9, 8, 7] (by decide)
   have h3 := h2.perm (H' := [⟨sb, true, .row (fndV r pv1) 30 (0, 0)⟩, ⟨c2, true, .row [S p] 9 (0, 0)⟩, ⟨c4, true, .row (fndV r pv1) 30 (0, 0)⟩] ++ (⟨c1, true, .row [Pt tb 0] 63 (0, 0)⟩ :: ⟨c3, true, .row [.bool un] 4 (0, 0)⟩ :: ⟨tb, true, .row (treeR nb (mxP rs) (mxS rs)) 92 (0, 0)⟩ :: (Ht ++ (Hf2 ++ (Hq ++ Hq1))))) (by simpa using p1)
   exact h3.sub (List.sublist_append_right _ _)
  ·rcases Nat.lt_or_ge i rr.length with h | h
   ·rw [List.getElem?_append_left h] at hr2
    exact hres i p2 r2 hi hr2
   ·have hl2 := (List.getElem?_eq_some_iff.1 hr2).1
    simp at hl2
    have hij : i = j := by omega
    subst hij
    rw [List.getElem?_append_right h] at hr2
    have e0 : i - rr.length = 0 := by omega
    rw [e0] at hr2
    simp at hr2
    subst hr2
    rw [hpj] at hi
    cases hi
    exact ⟨g, hgr⟩
 refine GC.exit rfl ?_
 refine GC.seq ?_
 refine GC.reg ?_
 refine G.m1 ?_
 refine G.m2 ?_
 refine G.m2 ?_
 refine G.nil ?_
 have hje : j = ps.length := by omega
 refine GC.ret2 rfl rfl rfl fun w' hw' => .inr ⟨t, rr, fv, cells, Hf, Hq, hadd, by omega, hres, rfl, by rw [hrr]; exact hown, hfn, ?_⟩
 exact hw'.sub (.cons _ (.cons _ (.cons _ (List.sublist_append_right _ _))))
end Go.Proofs

/- Structs of two texts compared. -/
set_option maxRecDepth 20000
namespace Go.Proofs
open Go Bw
theorem eqIn9d (d : Nat) (a c : List UInt8) (w : World) : (Op.equalIn (d + 1) 9 (S a) (S c)).run Try.prog w = .ok (decide (a = c)) w := by
 simp [Op.equalIn, underlying, Try.underlying9]
 rw [Bool.eq_iff_iff, decide_eq_true_iff]
 show (a.toArray == c.toArray) = true ↔ a = c
 simp
theorem eqIn9 (a c : List UInt8) (w : World) : (Op.equalIn 9999 9 (S a) (S c)).run Try.prog w = .ok (decide (a = c)) w := eqIn9d 9998 a c w
theorem eqIn32 (a b c d : List UInt8) (w : World) : (Op.equalIn 10000 32 (.agg #[S a, S b]) (.agg #[S c, S d])).run Try.prog w = .ok (decide (a = c) && decide (b = d)) w := by
 have e : Try.prog.underlying 32 = some (.struct (Try.prog.fieldsOf 32)) := by kernel_rfl
 rw [show (10000 : Nat) = 9999 + 1 from rfl, run_equalIn_agg w 9999 32 _ _ e (by kernel_rfl)]
 have hf : Try.prog.fieldsOf 32 = #[{ name := "Name", type := 9, offset := 0, embedded := false, tag := "", pkgPath := "", byteOffset := 0 }, { name := "Value", type := 9, offset := 1, embedded := false, tag := "", pkgPath := "", byteOffset := 16 }] := by kernel_rfl
 have hp : ∀ (xs : Array Value) (i : Nat) (v : Value) (w : World), xs[i]? = some v → (part 9 xs i).run Try.prog w = .ok v w := fun xs i v w h => by
  simp [part, Try.isAgg9, h]
 rw [hf]
 simp only [Op.eqFields]
 simp [hp _ _ _ _ (show (#[S a, S b] : Array Value)[0]? = some (S a) from rfl), hp _ _ _ _ (show (#[S c, S d] : Array Value)[0]? = some (S c) from rfl), hp _ _ _ _ (show (#[S a, S b] : Array Value)[1]? = some (S b) from rfl), hp _ _ _ _ (show (#[S c, S d] : Array Value)[1]? = some (S d) from rfl), eqIn9]
 by_cases h1 : a = c <;> by_cases h2 : b = d <;> simp [h1, h2]
variable {c : Cx} {n : Nat} {fr : SF} {H : SH} {ty t u : TypeId} {x y : Operand}
theorem V.ne32 {a b d e : List UInt8} (hx : ev fr x = some (.agg #[S a, S b])) (hy : ev fr y = some (.agg #[S d, S e])) : Val Try.prog c n (.binOp .neq 32 x y u) ty fr H (.bool (!(decide (a = d) && decide (b = e)))) := by
 intro a1 w ha hw dst pos aft g
 simp [execOp, ha.eval hx, ha.eval hy, run_eqGuard_agg (P := Try.prog) w .neq 32 x y _ _ (by kernel_rfl), run_neq_struct, eqIn32]
end Go.Proofs

/- slices.Equal of parameters, ginAwake. Printed by wip/mk_gl1.py. -/
set_option maxRecDepth 20000
namespace Go.Proofs
open Go Bw
open Gt
/-- parameters that lie in memory -/
def Prms (w : World) (sv : Value) (l : List (List UInt8 × List UInt8)) : Prop := ∃ ad cp, sv = .slice ad l.length cp ∧ ∀ (j : Nat) x, l[j]? = some x → ∃ b o, ad = some ⟨b, o, none⟩ ∧ w.cell? ⟨b, o + j * 2, none⟩ = some (S x.1) ∧ w.cell? ⟨b, o + j * 2 + 1, none⟩ = some (S x.2)
theorem Prms.old {w w1 : World} {sv : Value} {l : List (List UInt8 × List UInt8)} {H : SH} (h : Prms w sv l) (hw : HF w (fun _ => False) H w1) : Prms w1 sv l := by
 obtain ⟨ad, cp, rfl, hc⟩ := h
 refine ⟨ad, cp, rfl, fun j p hj => ?_⟩
 obtain ⟨b, o, e, h1, h2⟩ := hc j p hj
 exact ⟨b, o, e, hw.cellOld h1 id, hw.cellOld h2 id⟩
theorem flatP_get1 : ∀ {l : List (List UInt8 × List UInt8)} {j : Nat} {x}, l[j]? = some x → (flatP l)[j * 2]? = some (S x.1) ∧ (flatP l)[j * 2 + 1]? = some (S x.2)
 | [], j, x, h => by simp at h
 | (k, v) :: l, 0, x, h => by simp at h; subst h; simp [flatP]
 | (k, v) :: l, j + 1, x, h => by
  have := flatP_get1 (l := l) (j := j) (by simpa using h)
  have e1 : (j + 1) * 2 = j * 2 + 1 + 1 := by omega
  rw [e1]
  simpa [flatP] using this
/-- owned parameters can be read -/
theorem Own.prms {w0 w : World} {D : Nat → Prop} {H Hs : SH} {sv : Value} {e : Nat} {l : List (List UInt8 × List UInt8)} (ho : Own e 2 sv l.length (flatP l) Hs) (hw : HF w0 D H w) (hsub : ∀ x ∈ Hs, x ∈ H) : Prms w sv l := by
 generalize hn : l.length = n at ho
 generalize hx : flatP l = xs at ho
 cases ho with
 | nil => exact ⟨none, 0, by rw [hn], fun j x hj => by have := (List.getElem?_eq_some_iff.1 hj).1; omega⟩
 | @row b n cap xs spare h1 h2 h3 =>
  subst hx
  refine ⟨some ⟨b, 0, none⟩, cap, by rw [hn], fun j x hj => ⟨b, 0, rfl, ?_, ?_⟩⟩
  ·have := (flatP_get1 hj).1
   exact cell_row hw (hsub _ (.head _)) (by rw [nth_eq, Nat.zero_add, List.getElem?_append_left (List.getElem?_eq_some_iff.1 this).1]; exact this)
  ·have := (flatP_get1 hj).2
   exact cell_row hw (hsub _ (.head _)) (by rw [nth_eq, Nat.zero_add, List.getElem?_append_left (List.getElem?_eq_some_iff.1 this).1]; exact this)
theorem cells2 {w : World} {b o : Nat} {x y : Value} (h1 : w.cell? ⟨b, o, none⟩ = some x) (h2 : w.cell? ⟨b, o + 1, none⟩ = some y) : ∀ (j : Nat) v, [x, y][j]? = some v → w.cell? ⟨b, o + j, none⟩ = some v := fun j v hj => by
 match j, hj with
 | 0, hj => simp at hj; subst hj; exact h1
 | 1, hj => simp at hj; subst hj; exact h2
 | j + 2, hj => simp at hj
theorem f27_any (w : World) (la lb : List (List UInt8 × List UInt8)) (a b : Value) (ha : Prms w a la) (hb : Prms w b lb) (hla : la.length ≤ 1000000) (hlb : lb.length ≤ 1000000) : Calls Try.prog 27 #[a, b] w fun e w' => e = .returned (.bool (decide (la = lb))) ∧ HF w (fun _ => False) [] w' := by
 refine enter (fun _ => False) [] Try.func27 rfl Try.ntmps27 rfl rfl (HF.start w _) fun c hc => ?_
 subst hc
 obtain ⟨ada, cpa, rfl, hca⟩ := ha
 obtain ⟨adb, cpb, rfl, hcb⟩ := hb
 refine GC.seq ?_
 refine GC.reg ?_
 refine G.m2 ?_
 refine G.nil ?_
 refine GC.seq ?_
 refine GC.seq ?_
 refine GC.reg ?_
 refine G.m1 ?_
 refine G.v (V.lenL Try.underlying28 rfl) rfl ?_
 refine G.m1 ?_
 refine G.v (V.lenL Try.underlying28 rfl) rfl ?_
 refine G.v (V.neI rfl rfl) rfl ?_
 refine G.nil ?_
 refine GC.cond rfl (fun h10 => ?_) (fun h10 => ?_)
 ·refine GC.seq ?_
  refine GC.reg ?_
  refine G.m2 ?_
  refine G.nil ?_
  refine GC.ret1 rfl rfl fun w' hw' => ⟨?_, hw'⟩
  have hne : la.length ≠ lb.length := by simp at h10; omega
  rw [decide_eq_false fun e => hne (by rw [e])]
 refine GC.skip ?_
 refine GC.seq ?_
 refine GC.seq ?_
 have hll : la.length = lb.length := by simp at h10; omega
 refine GC.reg ?_
 refine G.m1 ?_
 refine G.v (V.lenL Try.underlying28 rfl) rfl ?_
 refine G.m1 ?_
 refine G.nil ?_
 refine GC.block ?_
 refine GC.loopJ (fun N fr' H' => ∃ j, j + N = la.length ∧ la.take j = lb.take j ∧ Sub [(0, .slice ada la.length cpa), (1, .slice adb lb.length cpb), (12, I (la.length : Nat)), (13, I (j : Nat))] fr' ∧ H' = []) la.length
  ⟨0, by omega, rfl, .of rfl, rfl⟩ ?_
 rintro N fr' H' ⟨j, hj, htk, hs2, rfl⟩ ih
 refine GC.weak hs2 ?_
 clear hs2
 refine GC.seq ?_
 refine GC.reg ?_
 refine G.v (V.lt rfl rfl) rfl ?_
 refine G.nil ?_
 refine GC.seq ?_
 refine GC.condD rfl (fun h14 => ?_) (fun h14 => ?_)
 ·refine GC.skip ?_
  refine GC.seq ?_
  refine GC.block ?_
  refine GC.seq ?_
  refine GC.reg ?_
  refine G.m1 ?_
  refine G.m2 ?_
  refine G.nil ?_
  refine GC.seq ?_
  have hja : j < la.length := by omega
  obtain ⟨⟨ka, va⟩, hxa⟩ : ∃ x, la[j]? = some x := ⟨_, List.getElem?_eq_getElem hja⟩
  obtain ⟨⟨kb, vb⟩, hxb⟩ : ∃ x, lb[j]? = some x := ⟨_, List.getElem?_eq_getElem (by omega)⟩
  obtain ⟨ba, oa, rfl, ha1, ha2⟩ := hca j _ hxa
  obtain ⟨bb, ob, rfl, hb1, hb2⟩ := hcb j _ hxb
  refine GC.regQ mixed (by kernel_rfl) ?_
  refine GQ.v (V.mv rfl) rfl ?_
  refine GQ.v (V.mv rfl) rfl ?_
  refine GQ.v (V.ia (i := j) Try.underlying28 Try.sizeOf32 rfl rfl hja) rfl ?_
  refine GQ.v (V.ldAC (s := 2) (cs := [S ka, S va]) Try.isAgg32 Try.sizeOf32 rfl (cells2 ha1 ha2) rfl id) rfl ?_
  refine GQ.v (V.mv rfl) rfl ?_
  refine GQ.v (V.mv rfl) rfl ?_
  refine GQ.v (V.ia (i := j) Try.underlying28 Try.sizeOf32 rfl rfl (by omega)) rfl ?_
  refine GQ.v (V.ldAC (s := 2) (cs := [S kb, S vb]) Try.isAgg32 Try.sizeOf32 rfl (cells2 hb1 hb2) rfl id) rfl ?_
  refine GQ.v (V.ne32 rfl rfl) rfl ?_
  refine GQ.nil ?_
  refine GC.cond rfl (fun h24 => ?_) (fun h24 => ?_)
  ·refine GC.seq ?_
   refine GC.reg ?_
   refine G.m2 ?_
   refine G.nil ?_
   refine GC.ret1 rfl rfl fun w' hw' => ⟨?_, hw'⟩
   have hne : ¬ la = lb := fun e => by
    subst e
    rw [hxa] at hxb
    cases hxb
    simp at h24
   rw [decide_eq_false hne]
  refine GC.skip ?_
  refine GC.inBlock ?_
  refine GC.reg ?_
  refine G.v (V.addI (r := ((j + 1 : Nat) : Int)) rfl rfl rfl (by omega) (by omega)) rfl ?_
  refine G.m1 ?_
  refine G.nil ?_
  have hxx : ka = kb ∧ va = vb := by simpa using h24
  refine ih (N - 1) _ _ (by omega) ⟨j + 1, by omega, ?_, .of rfl, rfl⟩
  rw [take_snoc hxa, take_snoc hxb, htk, hxx.1, hxx.2]
 refine GC.exit rfl ?_
 refine GC.seq ?_
 refine GC.reg ?_
 refine G.m2 ?_
 refine G.nil ?_
 have hje : j = la.length := by omega
 refine GC.ret1 rfl rfl fun w' hw' => ⟨?_, hw'⟩
 have he : la = lb := by
  rw [hje, List.take_length, hll, List.take_length] at htk
  exact htk
 rw [decide_eq_true he]
end Go.Proofs

/- getC and more fuel. No program in sight. -/
namespace Gt
open Gs Tr
theorem getC_succ (u : List UInt8 → List UInt8) (cP cS : Nat) : ∀ (f : Nat) (n : T0) (p : List UInt8) (ps : List (List UInt8 × List UInt8)) (sk : List Sk) (r : Res), getC u cP cS f n p ps sk = some r → getC u cP cS (f + 1) n p ps sk = some r
  | 0, _, _, _, _, _, h => by cases h
  | f + 1, n, p, ps, sk, r, h => by
    have ih := getC_succ u cP cS f
    unfold getC at h
    unfold getC
    split at h
    · rename_i h1
      rw [if_pos h1]
      split at h
      · rename_i i hi
        try simp only [hi]
        split at h
        · rename_i k hk
          try simp only [hk]
          split at h
          · rename_i hw
            rw [if_pos hw]
            split at h
            · rename_i hr
              rw [if_pos hr]; exact ih _ _ _ _ _ h
            · cases h
          · rename_i hw
            rw [if_neg hw]; exact ih _ _ _ _ _ h
        · cases h
      · rename_i hi
        try simp only [hi]
        split at h
        · rename_i hw
          rw [if_pos hw]
          split at h
          · rename_i hp
            try simp only [hp]
            exact ih _ _ _ _ _ h
          · rename_i hp
            try simp only [hp]
            exact h
          · cases h
        · rename_i hw
          rw [if_neg hw]
          split at h
          · cases h
          · rename_i k hk
            try simp only [hk]
            split at h
            · cases h
            · rename_i hr
              rw [if_neg hr]
              split at h
              · rename_i h2
                rw [if_pos h2]
                split at h
                · rename_i hlt
                  rw [if_pos hlt]
                  split at h
                  · rename_i c cr hks
                    try simp only [hks]
                    exact ih _ _ _ _ _ h
                  · rename_i hks
                    try simp only [hks]
                    exact h
                · rename_i hlt
                  rw [if_neg hlt]; exact h
              · rename_i h2
                rw [if_neg h2]; exact h
    · rename_i h1
      rw [if_neg h1]
      split at h
      · rename_i h2
        rw [if_pos h2]
        split at h
        · rename_i hp
          try simp only [hp]
          exact ih _ _ _ _ _ h
        · cases h
        · rename_i hp
          try simp only [hp]
          exact h
      · rename_i h2
        rw [if_neg h2]
        split at h
        · rename_i hp
          try simp only [hp]
          exact ih _ _ _ _ _ h
        · rename_i hp
          try simp only [hp]
          exact h
        · cases h
theorem getC_mono {u : List UInt8 → List UInt8} {cP cS f : Nat} (g : Nat) {n p ps sk r} (h : getC u cP cS f n p ps sk = some r) : getC u cP cS (f + g) n p ps sk = some r := by
  induction g with
  | zero => exact h
  | succ g ih => exact getC_succ u cP cS _ _ _ _ _ _ ih
theorem getC_det {u : List UInt8 → List UInt8} {cP cS f g : Nat} {n p ps sk r r'} (h : getC u cP cS f n p ps sk = some r) (h' : getC u cP cS g n p ps sk = some r') : r = r' := by
  have h1 := getC_mono g h
  have h2 := getC_mono f h'
  rw [Nat.add_comm] at h2
  rw [h1] at h2
  exact Option.some.inj h2
end Gt

/- ginAwake is true. Printed by wip/mk_gl2.py. -/
set_option maxRecDepth 20000
namespace Go.Proofs
open Go Bw
open Gt
/-- a slice literal -/
theorem _root_.Bw.G.bsl {P : Program} {c : Cx} {n : Nat} {k : List Item} {fr : SF} {H : SH} {ops : Array Oper} {rest : List Oper} {ty : TypeId} {pos : String} {aft : Array Edge} {T e d z : Nat} {xs : List (Nat × Operand)} {vl : List (Nat × Value)} {vs : List Value} (hb : ∀ w, (Instr.buildSlice T z vl.toArray).run P w = .ok (.slice (some ⟨w.heap.size, 0, none⟩) z z) { w with heap := w.heap.push (.cells vs.toArray e) })
  (hx : evp fr xs = some vl) (hd : Nat.blt d n = true) (hk : ∀ b, c.w0.heap.size ≤ b → G P c n k ops rest ((d, .slice (some ⟨b, 0, none⟩) z z) :: fr) (⟨b, true, .row vs e (0, 0)⟩ :: H)) :
  G P c n k ops (⟨some d, .buildSlice T z xs.toArray, ty, pos, aft, none⟩ :: rest) fr H := by
 refine G.new (kb := .row vs e (0, 0)) (v := fun b => .slice (some ⟨b, 0, none⟩) z z) (fun a w ha hw => ?_) hd hk
 have h1 := ha.evps hx
 have h2 := hb w
 simp only [execOp]
 have e2 : (xs.toArray.map fun p => (p.1, a.eval p.2)) = vl.toArray := by rw [← h1]; simp
 simp [Blk.den] at *
 simp [h1, h2]
/-- texts in a row that is known -/
theorem Txts.row {w0 w : World} {D : Nat → Prop} {H : SH} (hw : HF w0 D H w) {b cp : Nat} {l : List (List UInt8)} {e : TypeId} {fz : Nat × Nat} {wf : Bool} {z : List Value} (hm : (⟨b, wf, .row (l.map S ++ z) e fz⟩ : Ent) ∈ H) : Txts w (.slice (some ⟨b, 0, none⟩) l.length cp) l :=
 ⟨_, cp, rfl, fun j p hj => ⟨b, 0, rfl, cell_row hw hm (by
  have hl := (List.getElem?_eq_some_iff.1 hj).1
  rw [nth_eq, Nat.zero_add, List.getElem?_append_left (by simpa using hl), List.getElem?_map, hj]; rfl)⟩⟩
def awR : List (List Tok) := [[.b 47, .b 97], [.b 47, .b 98, .b 47, .P [120]]]
def awP : List (List UInt8) := [[47, 98, 47, 99], [47, 99]]
def awT : T0 := match addAll new (awR.map txt) 0 with
 | .inl t => t
 | .inr _ => new
def aw1 : Res := ⟨some 2, [([120], [99])], false, [47, 98, 47, 58, 120]⟩
def aw2 : Res := ⟨none, [], false, []⟩
theorem awT_eq : addAll new (awR.map txt) 0 = .inl awT := by rfl
theorem aw1_eq : getC (unV false) (mxP awR) (mxS awR) 9 awT [47, 98, 47, 99] [] [] = some aw1 := by rfl
theorem aw2_eq : getC (unV false) (mxP awR) (mxS awR) 9 awT [47, 99] [] [] = some aw2 := by rfl
theorem awR_good : ∀ r ∈ awR, Gt.Good r := by
 intro r hr
 simp only [awR, List.mem_cons, List.not_mem_nil, or_false] at hr
 rcases hr with rfl | rfl
 ·exact ⟨by simp [Ok, plainB], _, rfl⟩
 ·exact ⟨by simp [Ok, plainB, word], _, rfl⟩
theorem Fnds.two {a b : Res} {cells : List Value} {H : SH} (h : Fnds [a, b] cells H) : ∃ pa pb Ha Hb, cells = fndV a pa ++ fndV b pb ∧ H = Ha ++ Hb ∧ Own 32 2 pa a.ps.length (flatP a.ps) Ha ∧ Own 32 2 pb b.ps.length (flatP b.ps) Hb := by
 generalize hl : [a, b] = l at h
 cases h with
 | nil => cases hl
 | @snoc rs c2 H2 Hb r pb h ho =>
  obtain ⟨rfl, rfl⟩ : rs = [a] ∧ r = b := by
   rcases rs with _ | ⟨x, _ | ⟨y, rs⟩⟩
   ·simp at hl
   ·simp at hl; exact ⟨by rw [hl.1], hl.2.symm⟩
   ·simp at hl
  generalize hl2 : [a] = l2 at h
  cases h with
  | nil => cases hl2
  | @snoc rs c3 H3 Ha r2 pa h ho2 =>
   obtain ⟨rfl, rfl⟩ : rs = [] ∧ r2 = a := by
    rcases rs with _ | ⟨x, rs⟩
    ·simp at hl2; exact ⟨rfl, hl2.symm⟩
    ·simp at hl2
   generalize hl3 : ([] : List Res) = l3 at h
   cases h with
   | nil => exact ⟨pa, pb, Ha, Hb, rfl, rfl, ho2, ho⟩
   | snoc h ho => simp at hl3
theorem f14_any (w : World)  : Calls Try.prog 14 #[] w fun e w' => e = .returned (.bool true) ∧ HF w (fun _ => False) [] w' := by
 refine enter (fun _ => False) [] Try.func14 rfl Try.ntmps14 rfl rfl (HF.start w _) fun c hc => ?_
 subst hc
 refine GC.seq ?_
 refine GC.reg ?_
 refine G.m2 ?_
 refine G.nil ?_
 refine GC.seq ?_
 refine GC.reg ?_
 refine G.bsl (vs := [S [47, 97], S [47, 98, 47, 58, 120]]) (BS2 Try.underlying26 Try.sizeOf9 Try.zeroValue9 rfl rfl) rfl rfl (fun ab hab => ?_)
 refine G.bsl (vs := [S [47, 98, 47, 99], S [47, 99]]) (BS2 Try.underlying26 Try.sizeOf9 Try.zeroValue9 rfl rfl) rfl rfl (fun pb hpb => ?_)
 refine G.callW (fun v H2 => ∃ fv cells Hf Hq, v = .tuple #[fv, .bool true] ∧ Own 30 4 fv 2 cells Hf ∧ Fnds [aw1, aw2] cells Hq ∧ H2 = (Hf ++ Hq) ++ [⟨pb, true, .row [S [47, 98, 47, 99], S [47, 99]] 9 (0, 0)⟩, ⟨ab, true, .row [S [47, 97], S [47, 98, 47, 58, 120]] 9 (0, 0)⟩]) Try.call15 rfl rfl (fun w1 hw1 => ?_) ?_
 ·refine (f15_any w1 awR _ awR_good (by decide) (by decide) (by decide) (Txts.row (l := awR.map txt) (z := []) (e := 9) (wf := true) (fz := (0, 0)) hw1 (.tail _ (.head _))) awP _ (Txts.row (l := awP) (z := []) (e := 9) (wf := true) (fz := (0, 0)) hw1 (.head _)) (by decide) (by decide) false (fun t ht p hp => ?_)).mono fun e w' h => ?_
  ·rw [awT_eq] at ht
   cases ht
   simp only [awP, List.mem_cons, List.not_mem_nil, or_false] at hp
   rcases hp with rfl | rfl
   ·exact ⟨_, _, aw1_eq, by decide⟩
   ·exact ⟨_, _, aw2_eq, by decide⟩
  ·rcases h with ⟨j, h1, _⟩ | ⟨t, rr, fv, cells, Hf, Hq, h1, h2, h3, h4, h5, h6, h7⟩
   ·rw [awT_eq] at h1; cases h1
   ·rw [awT_eq] at h1
    cases h1
    obtain ⟨r1, r2, rfl⟩ : ∃ r1 r2, rr = [r1, r2] := by
     match rr, h2 with
     | [r1, r2], _ => exact ⟨r1, r2, rfl⟩
    obtain ⟨g1, hg1⟩ := h3 0 _ r1 rfl rfl
    obtain ⟨g2, hg2⟩ := h3 1 _ r2 rfl rfl
    have e1 := getC_det hg1 aw1_eq
    have e2 := getC_det hg2 aw2_eq
    subst e1 e2
    refine ⟨_, _, h4, hw1.after0 h7 (fun e0 he0 => ?_), fv, cells, Hf, Hq, rfl, h5, h6, rfl⟩
    rcases List.mem_append.1 he0 with he0 | he0
    ·exact h5.w e0 he0
    ·exact h6.w e0 he0
 rintro v H2 ⟨fv, cells, Hf, Hq, rfl, hown, hfn, rfl⟩
 obtain ⟨pa, pb2, Ha, Hb, rfl, rfl, ho1, ho2⟩ := hfn.two
 obtain ⟨rb, cap, spare, rfl, rfl⟩ := hown.at (i := 0) (by omega)
 refine G.m1 ?_
 refine G.v (V.ex rfl rfl) rfl ?_
 refine G.v (V.ex rfl rfl) rfl ?_
 refine G.m2 ?_
 refine G.m2 ?_
 refine G.nil ?_
 refine GC.seq ?_
 refine GC.reg ?_
 refine G.m1 ?_
 refine G.m1 ?_
 refine G.bc 10 rfl (fun h10 => ?_) (fun h10 => ?_)
 ·refine G.m5 ?_
  refine G.vg rfl rfl (V.lenL Try.underlying23 rfl) rfl ?_
  refine G.vg rfl rfl (V.eqI rfl rfl) rfl ?_
  refine G.m3 ?_
  refine G.m1 ?_
  refine G.bc 15 rfl (fun h15 => ?_) (fun h15 => ?_)
  ·refine G.m5 ?_
   refine G.vg rfl rfl (V.ia (i := 0) Try.underlying23 Try.sizeOf30 rfl rfl (by omega)) rfl ?_
   refine G.vg rfl rfl (V.fa F30_0 rfl) rfl ?_
   refine G.vg rfl rfl (V.ld (b := rb) (off := 0 + 0 * 4 + 0) (wf := true) (l := ((fndV aw1 pa ++ fndV aw2 pb2) ++ spare)) (T := 30) (fz := (0, 0)) (v := I 2) Try.isAgg3 rfl (.head _) rfl) rfl ?_
   refine G.vg rfl rfl (V.eqI rfl rfl) rfl ?_
   refine G.m3 ?_
   refine G.m1 ?_
   refine G.bc 22 rfl (fun h22 => ?_) (fun h22 => ?_)
   ·refine G.m5 ?_
    refine G.vg rfl rfl (V.ia (i := 0) Try.underlying23 Try.sizeOf30 rfl rfl (by omega)) rfl ?_
    refine G.vg rfl rfl (V.fa F30_2 rfl) rfl ?_
    refine G.vg rfl rfl (V.ld (b := rb) (off := 0 + 0 * 4 + 2) (wf := true) (l := ((fndV aw1 pa ++ fndV aw2 pb2) ++ spare)) (T := 30) (fz := (0, 0)) (v := S [47, 98, 47, 58, 120]) Try.isAgg9 rfl (.head _) rfl) rfl ?_
    refine G.vg rfl rfl (V.eqS rfl rfl) rfl ?_
    refine G.m3 ?_
    refine G.m1 ?_
    refine G.bc 29 rfl (fun h29 => ?_) (fun h29 => ?_)
    ·refine G.m5 ?_
     refine G.vg rfl rfl (V.ia (i := 0) Try.underlying23 Try.sizeOf30 rfl rfl (by omega)) rfl ?_
     refine G.vg rfl rfl (V.fa F30_1 rfl) rfl ?_
     refine G.vg rfl rfl (V.ld (b := rb) (off := 0 + 0 * 4 + 1) (wf := true) (l := ((fndV aw1 pa ++ fndV aw2 pb2) ++ spare)) (T := 30) (fz := (0, 0)) (v := pa) Try.isAgg28 rfl (.head _) rfl) rfl ?_
     refine G.vg rfl rfl (V.bd (vs := [(0, S [120]), (1, S [99])]) rfl (fun w1 => bd_ip _ _ w1)) rfl ?_
     refine G.gd rfl rfl ?_
     refine G.bs (BS.two (a := S [120]) (b := S [99]) Try.underlying28 Try.sizeOf32 Try.zeroValue32) rfl rfl (fun sb hsb => ?_)
     refine G.gd rfl rfl ?_
     refine G.callP (v := .bool true) Try.call27 rfl rfl (fun w1 hw1 => ?_) ?_
     ·exact f27_any w1 aw1.ps [([120], [99])] _ _ (Own.prms ho1 hw1 (fun x hx => by simp [hx])) (Own.prms (l := [([120], [99])]) (e := 32) (Own.row (b := sb) (n := 1) (cap := 1) (xs := [S [120], S [99]]) (spare := []) rfl rfl (Nat.le_refl _)) hw1 (fun x hx => by rw [List.mem_singleton.1 hx]; exact .head _)) (by decide) (by decide)
     refine G.m3 ?_
     refine G.m1 ?_
     refine G.bc 38 rfl (fun h38 => ?_) (fun h38 => ?_)
     ·refine G.m5 ?_
      refine G.vg rfl rfl (V.ia (i := 1) Try.underlying23 Try.sizeOf30 rfl rfl (by omega)) rfl ?_
      refine G.vg rfl rfl (V.fa F30_0 rfl) rfl ?_
      refine G.vg rfl rfl (V.ld (b := rb) (off := 0 + 1 * 4 + 0) (wf := true) (l := ((fndV aw1 pa ++ fndV aw2 pb2) ++ spare)) (T := 30) (fz := (0, 0)) (v := I 0) Try.isAgg3 rfl (.tail _ (.head _)) rfl) rfl ?_
      refine G.vg rfl rfl (V.eqI rfl rfl) rfl ?_
      refine G.m3 ?_
      refine G.m1 ?_
      refine G.bc 45 rfl (fun h45 => ?_) (fun h45 => ?_)
      ·refine G.gd rfl rfl ?_
       refine G.bsl (vs := [S [47, 97], S [47, 97]]) (BS2 Try.underlying26 Try.sizeOf9 Try.zeroValue9 rfl rfl) rfl rfl (fun db hdb => ?_)
       refine G.gd rfl rfl ?_
       refine G.callP (v := I 1) Try.call22 rfl rfl (fun w1 hw1 => ?_) ?_
       ·exact f22_any w1 [[.b 47, .b 97], [.b 47, .b 97]] _ (by intro r hr; simp only [List.mem_cons, List.not_mem_nil, or_false, or_self] at hr; subst hr; exact ⟨by simp [Ok, plainB], _, rfl⟩) (by decide) (by decide) (by decide) (Txts.row (l := [[47, 97], [47, 97]]) (z := []) (e := 9) (wf := true) (fz := (0, 0)) hw1 (.head _))
       refine G.vg rfl rfl (V.eqI rfl rfl) rfl ?_
       refine G.m3 ?_
       refine G.m2 ?_
       refine G.nil ?_
       exact GC.ret1 rfl rfl fun w' hw' => ⟨rfl, hw'.sub (List.nil_sublist _)⟩
      ·exact absurd h45 (by decide)
     ·exact absurd h38 (by decide)
    ·exact absurd h29 (by decide)
   ·exact absurd h22 (by decide)
  ·exact absurd h15 (by decide)
 ·exact absurd h10 (by decide)
end Go.Proofs
