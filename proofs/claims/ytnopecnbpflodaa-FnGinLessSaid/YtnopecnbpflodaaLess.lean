/- The law FnGinLess holds for every input: a route that a path does not find may go: without it the path finds what it found. -/
import Derived.Test.YtnopecnbpflodaaSa
import Derived.Test.YtnopecnbpflodaaKa
import Derived.Test.YtnopecnbpflodaaPq
import Derived.Test.YtnopecnbpflodaaRowb
/- FnGinFind. Printed by wip/mk_gs2x.py. -/
set_option maxRecDepth 20000
namespace Go.Proofs
open Go Bw
open Gt
theorem Prms.none (w : World) : Prms w (.slice none 0 0) [] := ⟨_, _, rfl, fun j x h => by simp at h⟩
theorem cells_of {w0 w : World} {D : Nat → Prop} {H : SH} (hw : HF w0 D H w) {b : Nat} {wf : Bool} {l : List Value} {T : TypeId} {fz : Nat × Nat} (off : Nat) (cs : List Value) (hm : (⟨b, wf, .row l T fz⟩ : Ent) ∈ H) (hc : ∀ (j : Nat) v, cs[j]? = some v → l[off + j]? = some v) : ∀ (j : Nat) v, cs[j]? = some v → w.cell? ⟨b, off + j, none⟩ = some v := fun j v hj =>
 cell_row hw hm (by rw [nth_eq]; exact hc j v hj)
theorem fnd_at (r : Res) (pa : Value) (sp : List Value) (j : Nat) (v : Value) (h : (fndV r pa)[j]? = some v) : (fndV r pa ++ sp)[0 + 0 * 4 + j]? = some v := by
 have hl := (List.getElem?_eq_some_iff.1 h).1
 have e : 0 + 0 * 4 + j = j := by omega
 rw [e, List.getElem?_append_left hl]; exact h
end Go.Proofs

/- FnGinMany. Printed by wip/mk_gs3x.py. -/
set_option maxRecDepth 20000
namespace Go.Proofs
open Go Bw
open Gt
theorem Fnds.at {rr : List Res} {cells : List Value} {Hq : SH} (h : Fnds rr cells Hq) : cells.length = rr.length * 4 ∧ ∀ (j : Nat) r, rr[j]? = some r → ∃ pa Ha, Own 32 2 pa r.ps.length (flatP r.ps) Ha ∧ (∀ x ∈ Ha, x ∈ Hq) ∧ ∀ (k : Nat) v, (fndV r pa)[k]? = some v → cells[j * 4 + k]? = some v := by
 induction h with
 | nil => exact ⟨rfl, fun j r hj => by simp at hj⟩
 | @snoc rs cells H Hq r pv h ho ih =>
  obtain ⟨h1, h2⟩ := ih
  have hf : (fndV r pv).length = 4 := rfl
  refine ⟨by rw [List.length_append, List.length_append, h1, hf, List.length_singleton]; omega, fun j x hj => ?_⟩
  by_cases hl : j < rs.length
  ·rw [List.getElem?_append_left hl] at hj
   obtain ⟨pa, Ha, h3, h4, h5⟩ := h2 j x hj
   refine ⟨pa, Ha, h3, fun y hy => List.mem_append_left _ (h4 y hy), fun k v hk => ?_⟩
   have h6 := h5 k v hk
   rw [List.getElem?_append_left (List.getElem?_eq_some_iff.1 h6).1]; exact h6
  ·rw [List.getElem?_append_right (by omega)] at hj
   have hj0 : j - rs.length = 0 := by
    have := (List.getElem?_eq_some_iff.1 hj).1
    rw [List.length_singleton] at this; omega
   rw [hj0] at hj
   cases hj
   refine ⟨pv, Hq, ho, fun y hy => List.mem_append_right _ hy, fun k v hk => ?_⟩
   have e : j * 4 + k = cells.length + k := by rw [h1]; omega
   rw [e, List.getElem?_append_right (by omega), Nat.add_sub_cancel_left]; exact hk
end Go.Proofs

/- A path that is made of a route and values. No program in sight. -/
namespace Gt
open Gs Tr
/-- a value that a parameter may have -/
def okV (v : List UInt8) : Prop := v ≠ [] ∧ v.length ≤ 20 ∧ (47 : UInt8) ∉ v
instance (v : List UInt8) : Decidable (okV v) := inferInstanceAs (Decidable (_ ∧ _ ∧ _))
end Gt

/- A table without one of its routes. No program in sight. -/
namespace Gt
open Gs Tr
theorem TableN_iff {l : List (List Prt)} : TableN l ↔ (∀ a ∈ l, Clean a) ∧ l.Pairwise (fun b a => ApartN (tks a) (tks b)) := by
  constructor
  · intro h
    refine ⟨h.clean, List.pairwise_iff_getElem.2 fun i j hi hj hij => ?_⟩
    exact (h j _ (List.getElem?_eq_getElem hj)).2 _ (List.mem_take_iff_getElem.2 ⟨i, by omega, rfl⟩)
  · rintro ⟨h1, h2⟩ i a hi
    refine ⟨h1 a (List.mem_of_getElem? hi), fun b hb => ?_⟩
    obtain ⟨j, hj, rfl⟩ := List.mem_take_iff_getElem.1 hb
    obtain ⟨hi1, hi2⟩ := List.getElem?_eq_some_iff.1 hi
    have := List.pairwise_iff_getElem.1 h2 j i (by omega) hi1 (by omega)
    rwa [hi2] at this
theorem TableN.sub {l l' : List (List Prt)} (h : TableN l) (hs : l'.Sublist l) : TableN l' := by
  obtain ⟨h1, h2⟩ := TableN_iff.1 h
  exact TableN_iff.2 ⟨fun a ha => h1 a (hs.subset ha), h2.sublist hs⟩
theorem less_sub (l : List (List Prt)) (k : Nat) : (l.take k ++ l.drop (k + 1)).Sublist l := by
  conv => rhs; rw [← List.take_append_drop k l]
  refine List.Sublist.append (List.Sublist.refl _) ?_
  rw [← List.drop_drop]
  exact List.drop_sublist _ _
theorem FitsN.less {l : List (List Prt)} {path : List UInt8} (h : FitsN l path) (k : Nat) : FitsN (l.take k ++ l.drop (k + 1)) path :=
  ⟨by have := (less_sub l k).length_le; have := h.1; omega, h.2.1.sub (less_sub l k), h.2.2⟩
theorem less_mem {l : List (List Prt)} {k m : Nat} {a : List Prt} (h : l[m]? = some a) (hm : m ≠ k) : a ∈ l.take k ++ l.drop (k + 1) := by
  obtain ⟨h1, h2⟩ := List.getElem?_eq_some_iff.1 h
  by_cases hk : m < k
  · exact List.mem_append_left _ (List.mem_take_iff_getElem.2 ⟨m, by omega, h2⟩)
  · refine List.mem_append_right _ (List.mem_of_getElem? (i := m - (k + 1)) ?_)
    rw [List.getElem?_drop]
    rw [show k + 1 + (m - (k + 1)) = m from by omega]; exact h
theorem less_found {l : List (List Prt)} {path : List UInt8} {k : Nat} {r r2 : Res} {u : List UInt8 → List UInt8} (ht : TableN l) (h : FoundN l path u r) (h2 : FoundN (l.take k ++ l.drop (k + 1)) path u r2) (hk : r.h.getD 0 ≠ k + 1) : r.full = r2.full ∧ (r.h.getD 0 ≠ 0 → r.ps = r2.ps) := by
  have ht2 := ht.sub (less_sub l k)
  rcases h with ⟨g1, g2, g3⟩ | ⟨m, a, v, g1, g2, g3, g4, g5, g6⟩
  · have hno := (bestN_spec ht path (Nat.le_refl l.length)).1 g1
    rcases h2 with ⟨q1, q2, q3⟩ | ⟨m2, b, v2, q1, q2, q3, _⟩
    · exact ⟨by rw [g3, q3], fun hh => absurd (by rw [g2]; rfl) hh⟩
    · obtain ⟨i, hi⟩ := List.mem_iff_getElem?.1 ((less_sub l k).subset (List.mem_of_getElem? q2))
      have := hno i b (List.getElem?_eq_some_iff.1 hi).1 hi
      rw [q3] at this; cases this
  · have hmk : m ≠ k := fun e => hk (by rw [g4, e]; rfl)
    obtain ⟨a', _, p2, p3, p4⟩ := (bestN_spec ht path (Nat.le_refl l.length)).2 m g1
    rw [g2] at p2
    cases p2
    have hal := less_mem (k := k) g2 hmk
    rcases h2 with ⟨q1, _, _⟩ | ⟨m2, b, v2, q1, q2, q3, q4, q5, q6⟩
    · obtain ⟨j, hj⟩ := List.mem_iff_getElem?.1 hal
      have := (bestN_spec ht2 path (Nat.le_refl _)).1 q1 j a (List.getElem?_eq_some_iff.1 hj).1 hj
      rw [g3] at this; cases this
    · obtain ⟨b', _, s2, s3, s4⟩ := (bestN_spec ht2 path (Nat.le_refl _)).2 m2 q1
      rw [q2] at s2
      cases s2
      have hab : a = b := Classical.byContradiction fun hne => by
        obtain ⟨i, hi⟩ := List.mem_iff_getElem?.1 ((less_sub l k).subset (List.mem_of_getElem? q2))
        obtain ⟨j, hj⟩ := List.mem_iff_getElem?.1 hal
        have him : i ≠ m := fun e => by rw [e, g2] at hi; cases hi; exact hne rfl
        have hjm : j ≠ m2 := fun e => by rw [e, q2] at hj; cases hj; exact hne rfl
        have b1 := p4 i b (List.getElem?_eq_some_iff.1 hi).1 him hi s3
        have b2 := s4 j a (List.getElem?_eq_some_iff.1 hj).1 hjm hj p3
        have ca := ht.clean a (List.mem_of_getElem? g2)
        have cb := ht2.clean b (List.mem_of_getElem? q2)
        exact BT_asym ((ca.better cb).1 b1) ((cb.better ca).1 b2)
      subst hab
      rw [g3] at q3
      cases q3
      exact ⟨by rw [g5, q5], fun _ => by rw [g6, q6]⟩
end Gt

/- slices.Clone and slices.Delete at rows. Printed by wip/mk_gs5x.py. -/
set_option maxRecDepth 20000
namespace Go.Proofs
open Go Bw
open Gt
section
variable {P : Program} {c : Cx} {n : Nat} {k : List Item} {fr : SF} {H : SH} {ops : Array Oper} {rest : List Oper} {ty t e : TypeId} {pos : String} {aft : Array Edge}
/-- s[i:j:k] -/
theorem _root_.Bw.V.sl3 {x y z u : Operand} {ad : Option Addr} {len cp i j m s : Nat} (hU : P.underlying t = some (.slice e)) (hs : ∀ w, (Go.sizeOf e).run P w = .ok s w) (hx : ev fr x = some (.slice ad len cp)) (hy : ev fr y = some (I (i : Nat))) (hz : ev fr z = some (I (j : Nat))) (hu : ev fr u = some (I (m : Nat))) (hij : i ≤ j) (hjm : j ≤ m) (hm : m ≤ cp) :
  Val P c n (.slice t x (some y) (some z) (some u)) ty fr H (.slice (if m = i then ad else ad.map (·.add (i * s))) (j - i) (m - i)) := by
 intro a w ha hw dst pos aft g
 simp [execOp, ha.eval hx, ha.eval hy, ha.eval hz, ha.eval hu, Instr.sliceAt, Instr.slice, underlying, hU, Instr.sliceBounds, Instr.sliceBound, asIntOf, hij, hjm, hm, hs]
/-- s[i:j] -/
theorem _root_.Bw.V.slTb {x y z : Operand} {ad : Option Addr} {len cp i j s : Nat} (hU : P.underlying t = some (.slice e)) (hs : ∀ w, (Go.sizeOf e).run P w = .ok s w) (hx : ev fr x = some (.slice ad len cp)) (hy : ev fr y = some (I (i : Nat))) (hz : ev fr z = some (I (j : Nat))) (hij : i ≤ j) (hj : j ≤ cp) :
  Val P c n (.slice t x (some y) (some z) none) ty fr H (.slice (if cp = i then ad else ad.map (·.add (i * s))) (j - i) (cp - i)) := by
 intro a w ha hw dst pos aft g
 simp [execOp, ha.eval hx, ha.eval hy, ha.eval hz, Instr.sliceAt, Instr.slice, underlying, hU, Instr.sliceBounds, Instr.sliceBound, asIntOf, hij, hj, hs]
/-- append within the room of a row -/
theorem _root_.Bw.G.appR {T : TypeId} {i : TypeInfo} {z : Value} {x y : Operand} {b n0 cap m1 mc d : Nat} {ad : Option Addr} {row vs : List Value} {H' : SH} (hT : P.underlying T = some (.slice e)) (hi : P.info? e = some i) (hz : i.zero = some z) (hsz : i.size = 1)
  (hx : ev fr x = some (.slice (some ⟨b, 0, none⟩) n0 cap)) (hy : ev fr y = some (.slice ad m1 mc)) (hsrc : 0 < m1 → ∃ a, ad = some a ∧ ∀ w, HF c.w0 c.D (⟨b, true, .row row e (0, 0)⟩ :: H') w → ∀ j u, vs[j]? = some u → w.cell? (a.add j) = some u) (hvl : vs.length = m1) (h1 : ∀ u ∈ vs, u.oneCell' = true) (hroom : n0 + m1 ≤ cap) (hrow : row.length = cap)
  (hd : Nat.blt d n = true) (hk : G P c n k ops rest ((d, .slice (some ⟨b, 0, none⟩) (n0 + m1) cap) :: fr) (⟨b, true, .row (row.take n0 ++ vs ++ row.drop (n0 + m1)) e (0, 0)⟩ :: H')) :
  G P c n k ops (⟨some d, .call ⟨.builtin .append, #[x, y], #[T, T]⟩, ty, pos, aft, none⟩ :: rest) fr (⟨b, true, .row row e (0, 0)⟩ :: H') := by
 rcases Nat.eq_zero_or_pos m1 with h0 | h0
 ·subst h0
  have hv : vs = [] := List.length_eq_zero_iff.1 hvl
  subst hv
  rw [Nat.add_zero, List.append_nil, List.take_append_drop] at hk
  exact G.v (V.app0 hT hi hz hx hy (by omega)) hd hk
 ·obtain ⟨a1, rfl, hs⟩ := hsrc h0
  refine G.eff (fun a w ha hw => ?_) hd hk
  have hb := hw.has _ (.head _)
  simp only [Blk.den] at hb
  have hr := run_append_room (P := P) w T ty e i hT hi b n0 cap row.toArray hb a1 m1 mc vs (by rw [hsz, Nat.mul_one]; exact hvl) (hs w hw) h1 hroom (by rw [hsz, Nat.mul_one, hvl, List.size_toArray, hrow]; exact hroom)
  rw [hsz, Nat.mul_one, hvl] at hr
  exact ⟨_, by simp [execOp, resolve, invoke, builtin, ha.eval hx, ha.eval hy, hr], setRow_HF hw⟩
/-- clear of a part of a row -/
theorem _root_.Bw.G.clr {T : TypeId} {z : Value} {x : Operand} {b o m mc : Nat} {row : List Value} {H' : SH} (hT : P.underlying T = some (.slice e)) (hv : ∀ w, (zeroValue e).run P w = .ok z w) (hz : z.cells = #[z]) (h1 : z.oneCell' = true) (hx : ev fr x = some (.slice (some ⟨b, o, none⟩) (m + 1) mc)) (hrow : o + (m + 1) ≤ row.length)
  (hk : G P c n k ops rest fr (⟨b, true, .row (row.take o ++ List.replicate (m + 1) z ++ row.drop (o + (m + 1))) e (0, 0)⟩ :: H')) :
  G P c n k ops (⟨none, .call ⟨.builtin .clear, #[x], #[T]⟩, ty, pos, aft, none⟩ :: rest) fr (⟨b, true, .row row e (0, 0)⟩ :: H') := by
 intro hf a w ha hw
 refine wpList_step fun K hK => ?_
 have hb := hw.has _ (.head _)
 simp only [Blk.den] at hb
 have hzc : (Builtin.zeroCells z.cells (m + 1)).toList = List.replicate (m + 1) z := by
  rw [hz]
  simp [Builtin.zeroCells]
  apply List.ext_getElem
  ·simp
  ·intro i h1 h2
   simp [Nat.mod_one]
 have hst := run_storeCells_at P b o e (List.replicate (m + 1) z) 0 row.toArray w hb (by simpa using hrow) (by intro v hv'; rw [List.eq_of_mem_replicate hv']; exact h1)
 simp only [Nat.add_zero, List.length_replicate] at hst
 have hr : (Builtin.clear_ #[T] ty #[.slice (some ⟨b, o, none⟩) (m + 1) mc]).run P w = .ok (.tuple #[]) (w.setRow b (row.take o ++ List.replicate (m + 1) z ++ row.drop (o + (m + 1))).toArray) := by
  simp [Builtin.clear_, run_underlying hT, hv, hzc, hst]
 have he : (execOp a.eval ⟨none, .call ⟨.builtin .clear, #[x], #[T]⟩, ty, pos, aft, none⟩).run P w = .ok (.value (.tuple #[])) (w.setRow b (row.take o ++ List.replicate (m + 1) z ++ row.drop (o + (m + 1))).toArray) := by
  simp [execOp, resolve, invoke, builtin, ha.eval hx, hr]
 simp only [Region.wanted, if_true, Oper.wp, he, Oper.upon]
 exact hK _ _ (hk hf _ _ ha (setRow_HF hw))
end
theorem f39_any (w : World) (D : Nat → Prop) {b cap : Nat} {xs sp : List Value} {H0 : SH} (h1 : ∀ u ∈ xs, u.oneCell' = true) (hn : xs.length ≤ 1000000) (i : Nat) (hi : i < xs.length) (hcp : (xs ++ sp).length = cap) (hH : HF w D (⟨b, true, .row (xs ++ sp) 9 (0, 0)⟩ :: H0) w) : Calls Try.prog 39 #[.slice (some ⟨b, 0, none⟩) xs.length cap, I (i : Nat), I ((i + 1 : Nat) : Int)] w fun e w' => e = .returned (.slice (some ⟨b, 0, none⟩) (xs.length - 1) cap) ∧ HF w D (⟨b, true, .row ((xs.take i ++ xs.drop (i + 1)) ++ (S [] :: sp)) 9 (0, 0)⟩ :: H0) w' := by
 refine enter D (⟨b, true, .row (xs ++ sp) 9 (0, 0)⟩ :: H0) Try.func39 rfl Try.ntmps39 rfl rfl hH fun c hc => ?_
 subst hc
 have hcl : xs.length ≤ cap := by rw [← hcp, List.length_append]; omega
 refine GC.seq ?_
 refine GC.reg ?_
 refine G.m2 ?_
 refine G.nil ?_
 refine GC.seq ?_
 refine GC.reg ?_
 refine G.m1 ?_
 refine G.m1 ?_
 refine G.m1 ?_
 refine G.m1 ?_
 refine G.v (V.lenL Try.underlying26 rfl) rfl ?_
 refine G.v (V.sl3 (i := i) (j := i + 1) (m := xs.length) Try.underlying26 Try.sizeOf9 rfl rfl rfl rfl (by omega) (by omega) hcl) rfl ?_
 refine G.nil ?_
 refine GC.seq ?_
 refine GC.seq ?_
 refine GC.reg ?_
 refine G.m1 ?_
 refine G.m1 ?_
 refine G.v (V.eqI rfl rfl) rfl ?_
 refine G.nil ?_
 refine GC.condD rfl (fun h16 => absurd h16 (by omega)) (fun h16 => ?_)
 refine GC.skip ?_
 refine GC.seq ?_
 refine GC.reg ?_
 refine G.m1 ?_
 refine G.v (V.lenL Try.underlying26 rfl) rfl ?_
 refine G.m2 ?_
 refine G.nil ?_
 refine GC.seq ?_
 refine GC.regM 6 (fun _ => True) mixed (by kernel_rfl) ?_
 refine GM.p 0 rfl (by kernel_rfl) (by kernel_rfl) (fun _ _ => trivial) (fun _ => V.mv rfl) rfl ?_
 refine GM.p 1 rfl (by kernel_rfl) (by kernel_rfl) (fun _ _ => trivial) (fun _ => V.mv rfl) rfl ?_
 refine GM.p 2 rfl (by kernel_rfl) (by kernel_rfl) (fun _ _ => trivial) (fun _ => V.slTH (i := i) Try.underlying26 Try.sizeOf9 rfl rfl (by omega)) rfl ?_
 refine GM.p 3 rfl (by kernel_rfl) (by kernel_rfl) (fun _ _ => trivial) (fun _ => V.mv rfl) rfl ?_
 refine GM.p 4 rfl (by kernel_rfl) (by kernel_rfl) (fun _ _ => trivial) (fun _ => V.mv rfl) rfl ?_
 refine GM.p 5 rfl (by kernel_rfl) (by kernel_rfl) (fun _ _ => trivial) (fun _ => V.slTk (i := i + 1) Try.underlying26 Try.sizeOf9 rfl rfl (by omega) hcl) rfl ?_
 refine GM.tl (by kernel_rfl) ?_
 refine G.appR (i := Try.t9) (vs := xs.drop (i + 1)) Try.underlying26 rfl rfl rfl rfl rfl (fun h0 => ?_) (by rw [List.length_drop]) (fun u hu => h1 u (List.mem_of_mem_drop hu)) (by omega) hcp rfl ?_
 ·rw [if_neg (by omega)]
  refine ⟨_, rfl, fun w1 hw1 j u hj => ?_⟩
  rw [List.getElem?_drop] at hj
  have := cell_row hw1 (off := i + 1 + j) (v := u) (.head _) (by rw [nth_eq, List.getElem?_append_left (List.getElem?_eq_some_iff.1 hj).1]; exact hj)
  have e1 : ((⟨b, 0, none⟩ : Addr).add ((i + 1) * 1)).add j = ⟨b, i + 1 + j, none⟩ := by
   by_cases h1 : j = 0 <;> simp [Addr.add, h1]
  rw [e1]; exact this
 have hr : (xs ++ sp).take i ++ xs.drop (i + 1) ++ (xs ++ sp).drop (i + (xs.length - (i + 1))) = (xs.take i ++ xs.drop (i + 1)) ++ (xs.drop (xs.length - 1) ++ sp) := by
  rw [List.take_append_of_le_length (by omega), List.drop_append_of_le_length (by omega)]
  congr 3
  omega
 rw [hr, show i + (xs.length - (i + 1)) = xs.length - 1 from by omega]
 refine G.m2 ?_
 refine G.nil ?_
 refine GC.seq ?_
 refine GC.reg ?_
 refine G.m1 ?_
 refine G.m1 ?_
 refine G.v (V.lenL Try.underlying26 rfl) rfl ?_
 refine G.m1 ?_
 refine G.v (V.slTb (i := xs.length - 1) (j := xs.length) Try.underlying26 Try.sizeOf9 rfl rfl rfl (by omega) hcl) rfl ?_
 rw [if_neg (by omega), show xs.length - (xs.length - 1) = 0 + 1 from by omega, show (Option.map (fun x => x.add ((xs.length - 1) * 1)) (some (⟨b, 0, none⟩ : Addr))) = some ⟨b, xs.length - 1, none⟩ from by by_cases h0 : xs.length - 1 = 0 <;> simp [Addr.add, h0]]
 refine G.clr Try.underlying26 Try.zeroValue9 rfl rfl rfl (by simp only [List.length_append, List.length_take, List.length_drop]; omega) ?_
 have hr2 : ((xs.take i ++ xs.drop (i + 1)) ++ (xs.drop (xs.length - 1) ++ sp)).take (xs.length - 1) ++ List.replicate (0 + 1) (S []) ++ ((xs.take i ++ xs.drop (i + 1)) ++ (xs.drop (xs.length - 1) ++ sp)).drop (xs.length - 1 + (0 + 1)) = (xs.take i ++ xs.drop (i + 1)) ++ (S [] :: sp) := by
  have hl1 : (xs.take i ++ xs.drop (i + 1)).length = xs.length - 1 := by rw [List.length_append, List.length_take, List.length_drop]; omega
  obtain ⟨y, hy⟩ : ∃ y, xs.drop (xs.length - 1) = [y] := by
   have hl2 : (xs.drop (xs.length - 1)).length = 1 := by rw [List.length_drop]; omega
   exact List.length_eq_one_iff.1 hl2
  rw [hy]
  generalize xs.take i ++ xs.drop (i + 1) = A at hl1
  rw [← hl1, List.take_left, List.drop_append, List.drop_of_length_le (by omega), show A.length + (0 + 1) - A.length = 1 from by omega]
  simp
 rw [hr2]
 refine G.nil ?_
 refine GC.seq ?_
 refine GC.reg ?_
 refine G.m1 ?_
 refine G.m2 ?_
 refine G.nil ?_
 exact GC.ret1 rfl rfl fun w' hw' => ⟨rfl, hw'⟩
theorem f39_own {w0 w : World} {D : Nat → Prop} {H Hb Hk : SH} {kv : Value} {xs : List Value} (hw : HF w0 D H w) (hp : H.Perm (Hb ++ Hk)) (h1 : ∀ u ∈ xs, u.oneCell' = true) (hn : xs.length ≤ 1000000) (i : Nat) (hi : i < xs.length) (ho : Own 9 1 kv xs.length xs Hb) :
  Calls Try.prog 39 #[kv, I (i : Nat), I ((i + 1 : Nat) : Int)] w fun e w' => ∃ kv' Hb', e = .returned kv' ∧ Own 9 1 kv' (xs.length - 1) (xs.take i ++ xs.drop (i + 1)) Hb' ∧ HF w0 D (Hb' ++ Hk) w' := by
 obtain ⟨b, cap, spare, e1, e2, hcp⟩ : ∃ b cap spare, kv = .slice (some ⟨b, 0, none⟩) xs.length cap ∧ Hb = [⟨b, true, .row (xs ++ spare) 9 (0, 0)⟩] ∧ (xs ++ spare).length = cap := by
  generalize hl : xs.length = n at ho hn hi
  cases ho with
  | nil => omega
  | row h2 h3 h4 => exact ⟨_, _, _, rfl, rfl, by rw [h3, Nat.mul_one]⟩
 subst e1 e2
 have hh := hw.perm hp
 have hnd := List.pairwise_append.1 hh.nd
 refine (f39_any w _ (sp := spare) (cap := cap) (H0 := []) h1 hn i hi hcp (hh.loc (fun e he => List.mem_append_left _ he) hnd.1)).mono fun e w' ⟨h5, h6⟩ => ?_
 have hl1 : (xs.take i ++ xs.drop (i + 1)).length = xs.length - 1 := by rw [List.length_append, List.length_take, List.length_drop]; omega
 refine ⟨_, _, h5, Own.row (xs := xs.take i ++ xs.drop (i + 1)) (spare := S [] :: spare) (by rw [hl1, Nat.mul_one]) (by rw [List.length_append, hl1, List.length_cons, Nat.mul_one, ← hcp, List.length_append]; omega) (by rw [← hcp, List.length_append]; omega), ?_⟩
 exact hw.back hp (fun e0 he0 => by rw [List.mem_singleton.1 he0]) (fun e0 he0 => by rw [List.mem_singleton.1 he0]) h6
theorem f37_any (w : World) (D : Nat → Prop) {b cap : Nat} {xs sp : List Value} {H0 : SH} (h1 : ∀ u ∈ xs, u.oneCell' = true) (hn : xs.length ≤ 1000000) (i : Nat) (hi : i < xs.length) (hcp : (xs ++ sp).length = cap) (hH : HF w D (⟨b, true, .row (xs ++ sp) 35 (0, 0)⟩ :: H0) w) : Calls Try.prog 37 #[.slice (some ⟨b, 0, none⟩) xs.length cap, I (i : Nat), I ((i + 1 : Nat) : Int)] w fun e w' => e = .returned (.slice (some ⟨b, 0, none⟩) (xs.length - 1) cap) ∧ HF w D (⟨b, true, .row ((xs.take i ++ xs.drop (i + 1)) ++ (.slice none 0 0 :: sp)) 35 (0, 0)⟩ :: H0) w' := by
 refine enter D (⟨b, true, .row (xs ++ sp) 35 (0, 0)⟩ :: H0) Try.func37 rfl Try.ntmps37 rfl rfl hH fun c hc => ?_
 subst hc
 have hcl : xs.length ≤ cap := by rw [← hcp, List.length_append]; omega
 refine GC.seq ?_
 refine GC.reg ?_
 refine G.m2 ?_
 refine G.nil ?_
 refine GC.seq ?_
 refine GC.reg ?_
 refine G.m1 ?_
 refine G.m1 ?_
 refine G.m1 ?_
 refine G.m1 ?_
 refine G.v (V.lenL Try.underlying34 rfl) rfl ?_
 refine G.v (V.sl3 (i := i) (j := i + 1) (m := xs.length) Try.underlying34 Try.sizeOf35 rfl rfl rfl rfl (by omega) (by omega) hcl) rfl ?_
 refine G.nil ?_
 refine GC.seq ?_
 refine GC.seq ?_
 refine GC.reg ?_
 refine G.m1 ?_
 refine G.m1 ?_
 refine G.v (V.eqI rfl rfl) rfl ?_
 refine G.nil ?_
 refine GC.condD rfl (fun h16 => absurd h16 (by omega)) (fun h16 => ?_)
 refine GC.skip ?_
 refine GC.seq ?_
 refine GC.reg ?_
 refine G.m1 ?_
 refine G.v (V.lenL Try.underlying34 rfl) rfl ?_
 refine G.m2 ?_
 refine G.nil ?_
 refine GC.seq ?_
 refine GC.regM 6 (fun _ => True) mixed (by kernel_rfl) ?_
 refine GM.p 0 rfl (by kernel_rfl) (by kernel_rfl) (fun _ _ => trivial) (fun _ => V.mv rfl) rfl ?_
 refine GM.p 1 rfl (by kernel_rfl) (by kernel_rfl) (fun _ _ => trivial) (fun _ => V.mv rfl) rfl ?_
 refine GM.p 2 rfl (by kernel_rfl) (by kernel_rfl) (fun _ _ => trivial) (fun _ => V.slTH (i := i) Try.underlying34 Try.sizeOf35 rfl rfl (by omega)) rfl ?_
 refine GM.p 3 rfl (by kernel_rfl) (by kernel_rfl) (fun _ _ => trivial) (fun _ => V.mv rfl) rfl ?_
 refine GM.p 4 rfl (by kernel_rfl) (by kernel_rfl) (fun _ _ => trivial) (fun _ => V.mv rfl) rfl ?_
 refine GM.p 5 rfl (by kernel_rfl) (by kernel_rfl) (fun _ _ => trivial) (fun _ => V.slTk (i := i + 1) Try.underlying34 Try.sizeOf35 rfl rfl (by omega) hcl) rfl ?_
 refine GM.tl (by kernel_rfl) ?_
 refine G.appR (i := Try.t35) (vs := xs.drop (i + 1)) Try.underlying34 rfl rfl rfl rfl rfl (fun h0 => ?_) (by rw [List.length_drop]) (fun u hu => h1 u (List.mem_of_mem_drop hu)) (by omega) hcp rfl ?_
 ·rw [if_neg (by omega)]
  refine ⟨_, rfl, fun w1 hw1 j u hj => ?_⟩
  rw [List.getElem?_drop] at hj
  have := cell_row hw1 (off := i + 1 + j) (v := u) (.head _) (by rw [nth_eq, List.getElem?_append_left (List.getElem?_eq_some_iff.1 hj).1]; exact hj)
  have e1 : ((⟨b, 0, none⟩ : Addr).add ((i + 1) * 1)).add j = ⟨b, i + 1 + j, none⟩ := by
   by_cases h1 : j = 0 <;> simp [Addr.add, h1]
  rw [e1]; exact this
 have hr : (xs ++ sp).take i ++ xs.drop (i + 1) ++ (xs ++ sp).drop (i + (xs.length - (i + 1))) = (xs.take i ++ xs.drop (i + 1)) ++ (xs.drop (xs.length - 1) ++ sp) := by
  rw [List.take_append_of_le_length (by omega), List.drop_append_of_le_length (by omega)]
  congr 3
  omega
 rw [hr, show i + (xs.length - (i + 1)) = xs.length - 1 from by omega]
 refine G.m2 ?_
 refine G.nil ?_
 refine GC.seq ?_
 refine GC.reg ?_
 refine G.m1 ?_
 refine G.m1 ?_
 refine G.v (V.lenL Try.underlying34 rfl) rfl ?_
 refine G.m1 ?_
 refine G.v (V.slTb (i := xs.length - 1) (j := xs.length) Try.underlying34 Try.sizeOf35 rfl rfl rfl (by omega) hcl) rfl ?_
 rw [if_neg (by omega), show xs.length - (xs.length - 1) = 0 + 1 from by omega, show (Option.map (fun x => x.add ((xs.length - 1) * 1)) (some (⟨b, 0, none⟩ : Addr))) = some ⟨b, xs.length - 1, none⟩ from by by_cases h0 : xs.length - 1 = 0 <;> simp [Addr.add, h0]]
 refine G.clr Try.underlying34 Try.zeroValue35 rfl rfl rfl (by simp only [List.length_append, List.length_take, List.length_drop]; omega) ?_
 have hr2 : ((xs.take i ++ xs.drop (i + 1)) ++ (xs.drop (xs.length - 1) ++ sp)).take (xs.length - 1) ++ List.replicate (0 + 1) (.slice none 0 0) ++ ((xs.take i ++ xs.drop (i + 1)) ++ (xs.drop (xs.length - 1) ++ sp)).drop (xs.length - 1 + (0 + 1)) = (xs.take i ++ xs.drop (i + 1)) ++ (.slice none 0 0 :: sp) := by
  have hl1 : (xs.take i ++ xs.drop (i + 1)).length = xs.length - 1 := by rw [List.length_append, List.length_take, List.length_drop]; omega
  obtain ⟨y, hy⟩ : ∃ y, xs.drop (xs.length - 1) = [y] := by
   have hl2 : (xs.drop (xs.length - 1)).length = 1 := by rw [List.length_drop]; omega
   exact List.length_eq_one_iff.1 hl2
  rw [hy]
  generalize xs.take i ++ xs.drop (i + 1) = A at hl1
  rw [← hl1, List.take_left, List.drop_append, List.drop_of_length_le (by omega), show A.length + (0 + 1) - A.length = 1 from by omega]
  simp
 rw [hr2]
 refine G.nil ?_
 refine GC.seq ?_
 refine GC.reg ?_
 refine G.m1 ?_
 refine G.m2 ?_
 refine G.nil ?_
 exact GC.ret1 rfl rfl fun w' hw' => ⟨rfl, hw'⟩
theorem f37_own {w0 w : World} {D : Nat → Prop} {H Hb Hk : SH} {kv : Value} {xs : List Value} (hw : HF w0 D H w) (hp : H.Perm (Hb ++ Hk)) (h1 : ∀ u ∈ xs, u.oneCell' = true) (hn : xs.length ≤ 1000000) (i : Nat) (hi : i < xs.length) (ho : Own 35 1 kv xs.length xs Hb) :
  Calls Try.prog 37 #[kv, I (i : Nat), I ((i + 1 : Nat) : Int)] w fun e w' => ∃ kv' Hb', e = .returned kv' ∧ Own 35 1 kv' (xs.length - 1) (xs.take i ++ xs.drop (i + 1)) Hb' ∧ HF w0 D (Hb' ++ Hk) w' := by
 obtain ⟨b, cap, spare, e1, e2, hcp⟩ : ∃ b cap spare, kv = .slice (some ⟨b, 0, none⟩) xs.length cap ∧ Hb = [⟨b, true, .row (xs ++ spare) 35 (0, 0)⟩] ∧ (xs ++ spare).length = cap := by
  generalize hl : xs.length = n at ho hn hi
  cases ho with
  | nil => omega
  | row h2 h3 h4 => exact ⟨_, _, _, rfl, rfl, by rw [h3, Nat.mul_one]⟩
 subst e1 e2
 have hh := hw.perm hp
 have hnd := List.pairwise_append.1 hh.nd
 refine (f37_any w _ (sp := spare) (cap := cap) (H0 := []) h1 hn i hi hcp (hh.loc (fun e he => List.mem_append_left _ he) hnd.1)).mono fun e w' ⟨h5, h6⟩ => ?_
 have hl1 : (xs.take i ++ xs.drop (i + 1)).length = xs.length - 1 := by rw [List.length_append, List.length_take, List.length_drop]; omega
 refine ⟨_, _, h5, Own.row (xs := xs.take i ++ xs.drop (i + 1)) (spare := .slice none 0 0 :: spare) (by rw [hl1, Nat.mul_one]) (by rw [List.length_append, hl1, List.length_cons, Nat.mul_one, ← hcp, List.length_append]; omega) (by rw [← hcp, List.length_append]; omega), ?_⟩
 exact hw.back hp (fun e0 he0 => by rw [List.mem_singleton.1 he0]) (fun e0 he0 => by rw [List.mem_singleton.1 he0]) h6
/-- a slice's cells -/
def Cel (w : World) (sv : Value) (xs : List Value) : Prop := ∃ ad cp, sv = .slice ad xs.length cp ∧ xs.length ≤ cp ∧ ∀ (j : Nat) u, xs[j]? = some u → ∃ b o, ad = some ⟨b, o, none⟩ ∧ w.cell? ⟨b, o + j, none⟩ = some u
theorem Cel.old {w w1 : World} {sv : Value} {xs : List Value} {H : SH} (h : Cel w sv xs) (hw : HF w (fun _ => False) H w1) : Cel w1 sv xs := by
 obtain ⟨ad, cp, rfl, hl, hc⟩ := h
 refine ⟨ad, cp, rfl, hl, fun j u hj => ?_⟩
 obtain ⟨b, o, e, h1⟩ := hc j u hj
 exact ⟨b, o, e, hw.cellOld h1 id⟩
theorem Tbl.cel {w : World} {sv : Value} {l : List (List Prt)} (h : Tbl w sv l) : ∃ xs : List Value, xs.length = l.length ∧ Cel w sv xs ∧ (∀ u ∈ xs, u.oneCell' = true) ∧ ∀ (j : Nat) r, l[j]? = some r → ∃ v, xs[j]? = some v ∧ Prts w v r := by
 obtain ⟨ad, cp, rfl, hcp, hc⟩ := h
 have key : ∀ n, n ≤ l.length → ∃ xs : List Value, xs.length = n ∧ (∀ (j : Nat) r, j < n → l[j]? = some r → ∃ v, xs[j]? = some v ∧ Prts w v r ∧ ∃ b o, ad = some ⟨b, o, none⟩ ∧ w.cell? ⟨b, o + j, none⟩ = some v) ∧ ∀ u ∈ xs, u.oneCell' = true := by
  intro n
  induction n with
  | zero => intro _; exact ⟨[], rfl, fun j r h => by omega, by simp⟩
  | succ n ih =>
   intro hn
   obtain ⟨xs, h1, h2, h3⟩ := ih (by omega)
   have ha := List.getElem?_eq_getElem (show n < l.length by omega)
   obtain ⟨b, o, v, e0, e1, e2⟩ := hc n _ ha
   refine ⟨xs ++ [v], by rw [List.length_append, h1]; rfl, fun j r hj hr => ?_, fun u hu => ?_⟩
   ·by_cases hjn : j = n
    ·subst hjn
     rw [ha] at hr
     cases hr
     exact ⟨v, by rw [List.getElem?_append_right (by omega), h1, Nat.sub_self]; rfl, e2, b, o, e0, e1⟩
    ·obtain ⟨v', g1, g2⟩ := h2 j r (by omega) hr
     exact ⟨v', by rw [List.getElem?_append_left (by omega)]; exact g1, g2⟩
   ·rcases List.mem_append.1 hu with hu | hu
    ·exact h3 u hu
    ·rw [List.mem_singleton.1 hu]
     obtain ⟨_, _, rfl, _⟩ := e2
     rfl
 obtain ⟨xs, hxl, hxs, hx1⟩ := key l.length (Nat.le_refl _)
 refine ⟨xs, hxl, ⟨ad, cp, by rw [hxl], by omega, fun j u hj => ?_⟩, hx1, fun j r hr => ?_⟩
 ·obtain ⟨v, g1, _, g3⟩ := hxs j _ (by have := (List.getElem?_eq_some_iff.1 hj).1; omega) (List.getElem?_eq_getElem (by have := (List.getElem?_eq_some_iff.1 hj).1; omega))
  rw [hj] at g1
  cases g1
  exact g3
 ·obtain ⟨v, g1, g2, _⟩ := hxs j r (List.getElem?_eq_some_iff.1 hr).1 hr
  exact ⟨v, g1, g2⟩
theorem f38_any (w : World) (xs : List Value) (sv : Value) (hsv : Cel w sv xs) (hx1 : ∀ u ∈ xs, u.oneCell' = true) (hll : xs.length ≤ 1000000) : Calls Try.prog 38 #[sv] w fun e w' => ∃ kv Hs, e = .returned kv ∧ Own 35 1 kv xs.length xs Hs ∧ HF w (fun _ => False) Hs w' := by
 refine enter (fun _ => False) [] Try.func38 rfl Try.ntmps38 rfl rfl (HF.start w _) fun c hc => ?_
 subst hc
 obtain ⟨ad, cp, rfl, hcp, hxr⟩ := hsv
 refine GC.seq ?_
 refine GC.reg ?_
 refine G.m2 ?_
 refine G.nil ?_
 refine GC.seq ?_
 refine GC.seq ?_
 refine GC.reg ?_
 refine G.m1 ?_
 refine G.v (V.eqL Try.underlying34 rfl) rfl ?_
 refine G.nil ?_
 refine GC.cond rfl (fun h4 => ?_) (fun h4 => ?_)
 ·refine GC.seq ?_
  refine GC.reg ?_
  refine G.m2 ?_
  refine G.nil ?_
  have hl0 : xs = [] := by
   cases xs with
   | nil => rfl
   | cons x r => obtain ⟨b, o, e0, _⟩ := hxr 0 x rfl; rw [e0] at h4; cases h4
  subst hl0
  exact GC.ret1 rfl rfl fun w' hw' => ⟨_, _, rfl, Own.nil, hw'⟩
 refine GC.skip ?_
 refine GC.seq ?_
 refine GC.reg ?_
 refine G.bs0 Try.underlying34 Try.sizeOf35 Try.zeroValue35 rfl (fun eb heb => ?_)
 refine G.m1 ?_
 refine G.appZ (i := Try.t35) (sz := 1) (by_ := 24) (vs := xs) Try.underlying34 rfl rfl rfl rfl rfl rfl rfl (Own.row (b := eb) (n := 0) (cap := 0) (xs := []) (spare := []) rfl rfl (Nat.le_refl _)) (H' := []) (.of_eq rfl) (fun h0 => ?_) (by rw [Nat.mul_one]) hx1 (by omega) (by omega) rfl (fun kv2 Hs2 hown2 => ?_)
 ·obtain ⟨b, o, rfl, _⟩ := hxr 0 _ (List.getElem?_eq_getElem (show 0 < xs.length by omega))
  refine ⟨_, rfl, fun w1 h2 j u hj => ?_⟩
  obtain ⟨b', o', e0, h3⟩ := hxr j u hj
  cases e0
  have := h2.cellOld h3 id
  by_cases h00 : j = 0 <;> simpa [Addr.add, h00] using this
 refine G.m2 ?_
 refine G.nil ?_
 rw [Nat.zero_add] at hown2
 exact GC.ret1 rfl rfl fun w' hw' => ⟨_, _, rfl, hown2, hw'⟩
end Go.Proofs

/- FnGinLess. Printed by wip/mk_gs6x.py. -/
set_option maxRecDepth 20000
namespace Go.Proofs
open Go Bw
open Gt
theorem eqS_true {P : Program} {c : Cx} {n : Nat} {op : Op} {ty : TypeId} {fr : SF} {H : SH} {i j : List UInt8} (h : i = j) (hv : Val P c n op ty fr H (.bool (decide (i = j)))) : Val P c n op ty fr H (.bool true) := by rw [decide_eq_true h] at hv; exact hv
theorem own_tbl {w0 w : World} {D : Nat → Prop} {H Hs : SH} {kv : Value} {xs : List Value} {l : List (List Prt)} (hw : HF w0 D H w) (ho : Own 35 1 kv l.length xs Hs) (hsub : ∀ x ∈ Hs, x ∈ H) (hx : ∀ (j : Nat) r, l[j]? = some r → ∃ v, xs[j]? = some v ∧ Prts w v r) : Tbl w kv l := by
 generalize hn : l.length = n at ho
 cases ho with
 | nil => exact ⟨none, 0, by rw [hn], by omega, fun j r hj => by have := (List.getElem?_eq_some_iff.1 hj).1; omega⟩
 | @row b n cap xs2 spare h1 h2 h3 =>
  refine ⟨some ⟨b, 0, none⟩, cap, by rw [hn], by omega, fun j r hj => ?_⟩
  obtain ⟨v, g1, g2⟩ := hx j r hj
  refine ⟨b, 0, v, rfl, ?_, g2⟩
  exact cell_row hw (hsub _ (.head _)) (by rw [nth_eq, Nat.zero_add, List.getElem?_append_left (List.getElem?_eq_some_iff.1 g1).1]; exact g1)
theorem f12_any (w : World) (l : List (List Prt)) (sv : Value) (hsv : Tbl w sv l) (q : UInt8) (path : List UInt8) : Calls Try.prog 12 #[sv, .int .u8 (q.toNat : Int), S path] w fun e w' => e = .returned (.bool true) ∧ HF w (fun _ => False) [] w' := by
 refine enter (fun _ => False) [] Try.func12 rfl Try.ntmps12 rfl rfl (HF.start w _) fun c hc => ?_
 subst hc
 obtain ⟨xs, hxl, hxc, hx1, hxr⟩ := Tbl.cel hsv
 obtain ⟨sad, scp, hse⟩ : ∃ ad cp, sv = .slice ad l.length cp := by
  obtain ⟨ad, cp, h, _⟩ := hsv
  exact ⟨ad, cp, h⟩
 subst hse
 refine GC.seq ?_
 refine GC.reg ?_
 refine G.m2 ?_
 refine G.nil ?_
 refine GC.seq ?_
 refine GC.seq ?_
 refine GC.join (fun fr' H' => Sub [(0, .slice sad l.length scp), (1, .int .u8 (q.toNat : Int)), (2, S path), (19, .bool (dec (¬ Fits4 l ∨ (2147483647 : Int) < (path.length : Int))))] fr' ∧ H' = []) (fun J1 => ?_) ?_
 ·refine GC.reg ?_
  refine G.m1 ?_
  refine G.callP (v := .bool (dec (Fits4 l))) Try.call17 rfl rfl (fun w1 hw1 => f17_any w1 l _ (hsv.old hw1)) ?_
  refine G.v (V.not rfl) rfl ?_
  refine G.m1 ?_
  refine G.bc 15 rfl (fun h15 => ?_) (fun h15 => ?_)
  ·refine G.s1 ?_
   refine G.s1 ?_
   refine G.s1 ?_
   refine G.m3 ?_
   refine G.nil ?_
   refine J1 _ _ ⟨.cons rfl (.cons rfl (.cons rfl (.cons (rfl.trans (congrArg (fun b => some (Value.bool b)) ?_)) .nil))), rfl⟩
   exact dec_t (.inl (dec_false.1 (by simpa using h15)))
  ·refine G.m5 ?_
   refine G.vg rfl rfl (V.lenS Try.underlying9 rfl) rfl ?_
   refine G.vg rfl rfl (V.gt rfl rfl) rfl ?_
   refine G.m4 ?_
   refine G.nil ?_
   refine J1 _ _ ⟨.cons rfl (.cons rfl (.cons rfl (.cons (rfl.trans (congrArg (fun b => some (Value.bool b)) ?_)) .nil))), rfl⟩
   exact dec_d ⟨.inr, fun h => h.resolve_left (fun h => h (dec_true.1 (by simpa using h15)))⟩
 rintro fr' H' ⟨hs1, rfl⟩
 refine GC.weak hs1 ?_
 clear hs1
 refine GC.cond rfl (fun h19 => ?_) (fun h19 => ?_)
 ·refine GC.seq ?_
  refine GC.reg ?_
  refine G.m2 ?_
  refine G.nil ?_
  exact GC.ret1 rfl rfl fun w' hw' => ⟨rfl, hw'.sub (List.nil_sublist _)⟩
 refine GC.skip ?_
 refine GC.seq ?_
 refine GC.seq ?_
 obtain ⟨h4, hpl⟩ : Fits4 l ∧ path.length ≤ 2147483647 := by
  have := dec_false.1 h19
  exact ⟨Classical.byContradiction fun h => this (.inl h), by omega⟩
 refine GC.join (fun fr' H' => Sub [(0, .slice sad l.length scp), (1, .int .u8 (q.toNat : Int)), (2, S path), (28, .bool (dec (l.length = 0 ∨ ¬ FitsN l path)))] fr' ∧ H' = []) (fun J3 => ?_) ?_
 ·refine GC.reg ?_
  refine G.m1 ?_
  refine G.v (V.lenL Try.underlying34 rfl) rfl ?_
  refine G.v (V.eqI rfl rfl) rfl ?_
  refine G.m1 ?_
  refine G.bc 23 rfl (fun h23 => ?_) (fun h23 => ?_)
  ·refine G.s1 ?_
   refine G.s1 ?_
   refine G.s1 ?_
   refine G.s1 ?_
   refine G.m3 ?_
   refine G.nil ?_
   refine J3 _ _ ⟨.cons rfl (.cons rfl (.cons rfl (.cons (rfl.trans (congrArg (fun b => some (Value.bool b)) ?_)) .nil))), rfl⟩
   exact dec_t (.inl (by have := of_decide_eq_true h23; omega))
  ·refine G.m5 ?_
   refine G.m5 ?_
   refine G.gd rfl rfl ?_
   refine G.callP (v := .bool (dec (FitsN l path))) Try.call19 rfl rfl (fun w1 hw1 => f19_any w1 l _ (hsv.old hw1) h4 path (by omega)) ?_
   refine G.vg rfl rfl (V.not rfl) rfl ?_
   refine G.m4 ?_
   refine G.nil ?_
   refine J3 _ _ ⟨.cons rfl (.cons rfl (.cons rfl (.cons (rfl.trans (congrArg (fun b => some (Value.bool b)) ?_)) .nil))), rfl⟩
   exact dec_nc ⟨.inr, fun h => h.resolve_left (fun h => by have := of_decide_eq_false h23; omega)⟩
 rintro fr' H' ⟨hs3, rfl⟩
 refine GC.weak hs3 ?_
 clear hs3
 refine GC.cond rfl (fun h28 => ?_) (fun h28 => ?_)
 ·refine GC.seq ?_
  refine GC.reg ?_
  refine G.callP (v := .bool true) Try.call14 rfl rfl (fun w1 _ => f14_any w1) ?_
  refine G.m2 ?_
  refine G.nil ?_
  exact GC.ret1 rfl rfl fun w' hw' => ⟨rfl, hw'.sub (List.nil_sublist _)⟩
 refine GC.skip ?_
 refine GC.seq ?_
 obtain ⟨hl0, hft⟩ : l.length ≠ 0 ∧ FitsN l path := by
  have := dec_false.1 h28
  exact ⟨fun h => this (.inl h), Classical.byContradiction fun h => this (.inr h)⟩
 have hcl := hft.2.1.clean
 have hbd : ∀ r ∈ l, (rtT r).length ≤ 1000000 ∧ r.length ≤ 1000000 := fun r hr => ⟨Nat.le_trans (hcl r hr).txt.1 (by omega), (clean_len (hcl r hr)).2⟩
 have h30 := hft.1
 refine GC.reg ?_
 refine G.m1 ?_
 refine G.callW (fun v H2 => ∃ Hk, Own 9 1 v l.length ((l.map rtT).map S) Hk ∧ H2 = Hk ++ []) Try.call23 rfl rfl (fun w1 hw1 => ?_) ?_
 ·refine (f23_any w1 l _ (hsv.old hw1) hbd (by omega)).mono fun e w' ⟨kv, Hs, h1, h2, h3⟩ => ?_
  exact ⟨_, _, h1, hw1.after0 h3 h2.w, Hs, h2, rfl⟩
 rintro tv H2 ⟨Hs, hot, rfl⟩
 refine G.m2 ?_
 refine G.nil ?_
 refine GC.seq ?_
 refine GC.reg ?_
 refine G.m1 ?_
 refine G.m1 ?_
 refine G.bs (BS.one Try.underlying26 Try.sizeOf9 Try.zeroValue9 (v := S path) rfl) rfl rfl (fun qb hqb => ?_)
 refine G.callW (fun v H2 => ∃ r fb cap spare pa Ha, v = .tuple #[.slice (some ⟨fb, 0, none⟩) 1 cap, .bool true] ∧ Told l false path r ∧ Own 32 2 pa r.ps.length (flatP r.ps) Ha ∧ H2 = (⟨fb, true, .row (fndV r pa ++ spare) 30 (0, 0)⟩ :: Ha) ++ (⟨qb, true, .row [S path] 9 (0, 0)⟩ :: (Hs ++ []))) Try.call15 rfl rfl (fun w1 hw1 => ?_) ?_
 ·refine (f15_fit1 w1 l _ path hft (hot.txts (by simp) hw1 (fun e he => List.mem_cons_of_mem _ (List.mem_append_left _ he))) _ (Txts.row (l := [path]) (z := []) (e := 9) (wf := true) (fz := (0, 0)) hw1 (.head _)) false).mono fun e w' ⟨r, fb, cap, spare, pa, Ha, h1, h2, h3, h4⟩ => ?_
  exact ⟨_, _, h2, hw1.after0 h4 (fun e0 he0 => by
   rcases List.mem_cons.1 he0 with rfl | he0
   ·rfl
   ·exact h3.w e0 he0), r, fb, cap, spare, pa, Ha, rfl, h1, h3, rfl⟩
 rintro v H2 ⟨r, fb, cap, spare, pa, Ha, rfl, ht, ho, rfl⟩
 refine G.m1 ?_
 refine G.v (V.ex rfl rfl) rfl ?_
 refine G.v (V.ex rfl rfl) rfl ?_
 refine G.m2 ?_
 refine G.m2 ?_
 refine G.nil ?_
 refine GC.seq ?_
 refine GC.seq ?_
 refine GC.reg ?_
 refine G.m1 ?_
 refine G.v (V.not rfl) rfl ?_
 refine G.m1 ?_
 refine G.bc 41 rfl (fun h41 => ?_) (fun h41 => ?_)
 ·exact absurd h41 (by decide)
 ·refine G.m5 ?_
  refine G.vg rfl rfl (V.lenL Try.underlying23 rfl) rfl ?_
  refine G.vg rfl rfl (V.neI rfl rfl) rfl ?_
  refine G.m4 ?_
  refine G.nil ?_
  refine GC.cond rfl (fun h45 => absurd h45 (by simp)) (fun h45 => ?_)
  refine GC.skip ?_
  refine GC.seq ?_
  refine GC.reg ?_
  refine G.m1 ?_
  refine G.v (V.cvI Try.underlying5 Try.underlying3 rfl) rfl ?_
  have hq := q.toNat_lt
  have hwr : IntKind.i64.wrap (q.toNat : Int) = (q.toNat : Int) := by
   unfold IntKind.wrap
   simp [IntKind.bits, IntKind.signed]
   omega
  rw [hwr]
  refine G.m1 ?_
  refine G.v (V.lenL Try.underlying34 rfl) rfl ?_
  refine G.v (V.remI (i := q.toNat) (j := l.length) rfl rfl (by omega)) rfl ?_
  refine G.m2 ?_
  refine G.nil ?_
  obtain ⟨k, hk⟩ : ∃ k, k = q.toNat % l.length := ⟨_, rfl⟩
  have hkn : k < l.length := by rw [hk]; exact Nat.mod_lt _ (by omega)
  rw [← hk]
  have hft2 := hft.less k
  have hl2 : (l.take k ++ l.drop (k + 1)).length = l.length - 1 := by rw [List.length_append, List.length_take, List.length_drop]; omega
  refine GC.seq ?_
  refine GC.seq ?_
  refine GC.join (fun fr' H' => Sub [(0, .slice sad l.length scp), (2, S path), (7, tv), (8, .slice (some ⟨fb, 0, none⟩) 1 cap), (10, I (k : Nat)), (72, .bool (dec (r.h.getD 0 = k + 1 ∨ OpenN l path ∨ OpenN (l.take k ++ l.drop (k + 1)) path)))] fr' ∧ H' = (⟨fb, true, .row (fndV r pa ++ spare) 30 (0, 0)⟩ :: Ha) ++ (⟨qb, true, .row [S path] 9 (0, 0)⟩ :: (Hs ++ []))) (fun J10 => ?_) ?_
  ·refine GC.reg ?_
   refine G.m1 ?_
   refine G.v (V.ia (i := 0) Try.underlying23 Try.sizeOf30 rfl rfl (by decide)) rfl ?_
   refine G.v (V.fa F30_0 rfl) rfl ?_
   refine G.v (V.ld (b := fb) (off := 0 + 0 * 4 + 0) (wf := true) (l := fndV r pa ++ spare) (T := 30) (fz := (0, 0)) (v := I (r.h.getD 0 : Nat)) Try.isAgg3 rfl (.head _) rfl) rfl ?_
   refine G.m1 ?_
   refine G.v (V.addI (r := ((k + 1 : Nat) : Int)) rfl rfl rfl (by omega) (by omega)) rfl ?_
   refine G.v (V.eqI rfl rfl) rfl ?_
   refine G.m1 ?_
   refine G.bc 58 rfl (fun h58 => ?_) (fun h58 => ?_)
   ·refine G.s1 ?_
    refine G.s1 ?_
    refine G.s1 ?_
    refine G.m3 ?_
    refine G.m1 ?_
    refine G.s1 ?_
    refine G.s1 ?_
    refine G.s1 ?_
    refine G.s1 ?_
    refine G.s1 ?_
    refine G.s1 ?_
    refine G.s1 ?_
    refine G.s1 ?_
    refine G.m3 ?_
    refine G.nil ?_
    refine J10 _ _ ⟨.cons rfl (.cons rfl (.cons rfl (.cons rfl (.cons rfl (.cons (rfl.trans (congrArg (fun b => some (Value.bool b)) ?_)) .nil))))), rfl⟩
    exact dec_t (.inl (by have := of_decide_eq_true h58; omega))
   ·refine G.m5 ?_
    refine G.m5 ?_
    refine G.gd rfl rfl ?_
    refine G.callP (v := .bool (dec (OpenN l path))) Try.call30 rfl rfl (fun w1 hw1 => f30_any w1 l _ (hsv.old hw1) hft.2.1.clean (by have := hft.1; omega) path (by have := hft.2.2.2.2; omega)) ?_
    refine G.m4 ?_
    refine G.m1 ?_
    refine G.bc 63 rfl (fun h63 => ?_) (fun h63 => ?_)
    ·refine G.s1 ?_
     refine G.s1 ?_
     refine G.s1 ?_
     refine G.s1 ?_
     refine G.s1 ?_
     refine G.s1 ?_
     refine G.s1 ?_
     refine G.s1 ?_
     refine G.m3 ?_
     refine G.nil ?_
     refine J10 _ _ ⟨.cons rfl (.cons rfl (.cons rfl (.cons rfl (.cons rfl (.cons (rfl.trans (congrArg (fun b => some (Value.bool b)) ?_)) .nil))))), rfl⟩
     exact dec_t (.inr (.inl (dec_true.1 h63)))
    ·refine G.m5 ?_
     refine G.gd rfl rfl ?_
     refine G.callW (fun v H2 => ∃ Hc, Own 35 1 v xs.length xs Hc ∧ H2 = Hc ++ ((⟨fb, true, .row (fndV r pa ++ spare) 30 (0, 0)⟩ :: Ha) ++ (⟨qb, true, .row [S path] 9 (0, 0)⟩ :: (Hs ++ [])))) Try.call38 rfl rfl (fun w1 hw1 => ?_) ?_
     ·exact (f38_any w1 xs _ (hxc.old hw1) hx1 (by omega)).mono fun e w' ⟨kv, Hc, h1, h5, h6⟩ => ⟨_, _, h1, hw1.after0 h6 h5.w, Hc, h5, rfl⟩
     rintro cv H2 ⟨Hc, hoc, rfl⟩
     refine G.m5 ?_
     refine G.m5 ?_
     refine G.vg rfl rfl (V.addI (r := ((k + 1 : Nat) : Int)) rfl rfl rfl (by omega) (by omega)) rfl ?_
     refine G.gd rfl rfl ?_
     refine G.callW (fun v H2 => ∃ Hb, Own 35 1 v (xs.length - 1) (xs.take k ++ xs.drop (k + 1)) Hb ∧ H2 = Hb ++ ((⟨fb, true, .row (fndV r pa ++ spare) 30 (0, 0)⟩ :: Ha) ++ (⟨qb, true, .row [S path] 9 (0, 0)⟩ :: (Hs ++ [])))) Try.call37 rfl rfl (fun w1 hw1 => ?_) ?_
     ·exact (f37_own hw1 (.refl _) hx1 (by omega) k (by omega) hoc).mono fun e w' ⟨kv', Hb, h1, h2, h3⟩ => ⟨_, _, h1, h3, Hb, h2, rfl⟩
     rintro dv H2 ⟨Hb, hod, rfl⟩
     refine G.m5 ?_
     refine G.gd rfl rfl ?_
     refine G.callP (v := .bool (dec (OpenN (l.take k ++ l.drop (k + 1)) path))) Try.call30 rfl rfl (fun w1 hw1 => f30_any w1 _ dv (own_tbl hw1 (by rw [hl2, ← hxl]; exact hod) (fun x hx => List.mem_append_left _ hx) (fun j r2 hj => ?_)) hft2.2.1.clean (by omega) path (by have := hft.2.2.2.2; omega)) ?_
     ·by_cases hjk : j < k
      ·rw [List.getElem?_append_left (by rw [List.length_take]; omega), List.getElem?_take, if_pos hjk] at hj
       obtain ⟨v, g1, g2⟩ := hxr j r2 hj
       exact ⟨v, by rw [List.getElem?_append_left (by rw [List.length_take]; omega), List.getElem?_take, if_pos hjk]; exact g1, g2.old hw1⟩
      ·rw [List.getElem?_append_right (by rw [List.length_take]; omega), List.getElem?_drop, List.length_take] at hj
       obtain ⟨v, g1, g2⟩ := hxr _ r2 hj
       exact ⟨v, by rw [List.getElem?_append_right (by rw [List.length_take]; omega), List.getElem?_drop, List.length_take, hxl]; exact g1, g2.old hw1⟩
     refine G.m4 ?_
     refine G.nil ?_
     refine GC.turn (H' := (⟨fb, true, .row (fndV r pa ++ spare) 30 (0, 0)⟩ :: Ha) ++ (⟨qb, true, .row [S path] 9 (0, 0)⟩ :: (Hs ++ []))) (fun w1 h1 => h1.sub (List.sublist_append_right _ _)) ?_
     refine J10 _ _ ⟨.cons rfl (.cons rfl (.cons rfl (.cons rfl (.cons rfl (.cons (rfl.trans (congrArg (fun b => some (Value.bool b)) ?_)) .nil))))), rfl⟩
     exact dec_c ⟨fun h => .inr (.inr h), fun h => h.elim (fun h => by have := of_decide_eq_false h58; omega) fun h => h.resolve_left (dec_false.1 h63)⟩
  rintro fr' H' ⟨hs10, rfl⟩
  refine GC.weak hs10 ?_
  clear hs10
  refine GC.cond rfl (fun h72 => ?_) (fun h72 => ?_)
  ·refine GC.seq ?_
   refine GC.reg ?_
   refine G.callP (v := .bool true) Try.call14 rfl rfl (fun w1 _ => f14_any w1) ?_
   refine G.m2 ?_
   refine G.nil ?_
   exact GC.ret1 rfl rfl fun w' hw' => ⟨rfl, hw'.sub (List.nil_sublist _)⟩
  refine GC.skip ?_
  refine GC.seq ?_
  obtain ⟨hrk, hno, hno2⟩ : r.h.getD 0 ≠ k + 1 ∧ ¬ OpenN l path ∧ ¬ OpenN (l.take k ++ l.drop (k + 1)) path := by
   have := dec_false.1 h72
   exact ⟨fun h => this (.inl h), fun h => this (.inr (.inl h)), fun h => this (.inr (.inr h))⟩
  refine GC.reg ?_
  refine G.m1 ?_
  refine G.callW (fun v H2 => ∃ Hc, Own 9 1 v (l.map rtT).length ((l.map rtT).map S) Hc ∧ H2 = Hc ++ ((⟨fb, true, .row (fndV r pa ++ spare) 30 (0, 0)⟩ :: Ha) ++ (⟨qb, true, .row [S path] 9 (0, 0)⟩ :: (Hs ++ [])))) Try.call25 rfl rfl (fun w1 hw1 => ?_) ?_
  ·exact (f25_any w1 (l.map rtT) tv (hot.txts (by simp) hw1 (fun e he => List.mem_append_right _ (.tail _ (List.mem_append_left _ he)))) (by rw [List.length_map]; omega)).mono fun e w' ⟨kv, Hc, h1, h2, h3⟩ => ⟨_, _, h1, hw1.after0 h3 h2.w, Hc, h2, rfl⟩
  rintro cv H2 ⟨Hc, hoc, rfl⟩
  refine G.m1 ?_
  refine G.m1 ?_
  refine G.v (V.addI (r := ((k + 1 : Nat) : Int)) rfl rfl rfl (by omega) (by omega)) rfl ?_
  refine G.callW (fun v H2 => ∃ Hb, Own 9 1 v (l.take k ++ l.drop (k + 1)).length (((l.take k ++ l.drop (k + 1)).map rtT).map S) Hb ∧ H2 = Hb ++ ((⟨fb, true, .row (fndV r pa ++ spare) 30 (0, 0)⟩ :: Ha) ++ (⟨qb, true, .row [S path] 9 (0, 0)⟩ :: (Hs ++ [])))) Try.call39 rfl rfl (fun w1 hw1 => ?_) ?_
  ·have hml : ((l.map rtT).map S).length = l.length := by simp
   refine (f39_own hw1 (.refl _) (xs := (l.map rtT).map S) (fun u hu => by obtain ⟨x, _, rfl⟩ := List.mem_map.1 hu; rfl) (by omega) k (by omega) (by rw [hml]; rw [List.length_map] at hoc; exact hoc)).mono fun e w' ⟨kv', Hb, h1, h2, h3⟩ => ⟨_, _, h1, h3, Hb, ?_, rfl⟩
   rw [hl2, List.map_append, List.map_append, List.map_take, List.map_take, List.map_drop, List.map_drop]
   rw [hml] at h2
   exact h2
  rintro dv H2 ⟨Hb, hod, rfl⟩
  refine G.m1 ?_
  refine G.bs (BS.one Try.underlying26 Try.sizeOf9 Try.zeroValue9 (v := S path) rfl) rfl rfl (fun qb2 hqb2 => ?_)
  refine G.callW (fun v H2 => ∃ r2 fb2 cap2 spare2 pa2 Ha2, v = .tuple #[.slice (some ⟨fb2, 0, none⟩) 1 cap2, .bool true] ∧ Told (l.take k ++ l.drop (k + 1)) false path r2 ∧ Own 32 2 pa2 r2.ps.length (flatP r2.ps) Ha2 ∧ H2 = (⟨fb2, true, .row (fndV r2 pa2 ++ spare2) 30 (0, 0)⟩ :: Ha2) ++ (⟨qb2, true, .row [S path] 9 (0, 0)⟩ :: (Hb ++ ((⟨fb, true, .row (fndV r pa ++ spare) 30 (0, 0)⟩ :: Ha) ++ (⟨qb, true, .row [S path] 9 (0, 0)⟩ :: (Hs ++ [])))))) Try.call15 rfl rfl (fun w1 hw1 => ?_) ?_
  ·refine (f15_fit1 w1 (l.take k ++ l.drop (k + 1)) _ path hft2 (hod.txts (by simp) hw1 (fun e he => List.mem_cons_of_mem _ (List.mem_append_left _ he))) _ (Txts.row (l := [path]) (z := []) (e := 9) (wf := true) (fz := (0, 0)) hw1 (.head _)) false).mono fun e w' ⟨r2, fb2, cap2, spare2, pa2, Ha2, h1, h2, h3, h4⟩ => ?_
   exact ⟨_, _, h2, hw1.after0 h4 (fun e0 he0 => by
    rcases List.mem_cons.1 he0 with rfl | he0
    ·rfl
    ·exact h3.w e0 he0), r2, fb2, cap2, spare2, pa2, Ha2, rfl, h1, h3, rfl⟩
  rintro v H2 ⟨r2, fb2, cap2, spare2, pa2, Ha2, rfl, ht2, ho2, rfl⟩
  refine G.m1 ?_
  refine G.v (V.ex rfl rfl) rfl ?_
  refine G.v (V.ex rfl rfl) rfl ?_
  refine G.m2 ?_
  refine G.m2 ?_
  refine G.nil ?_
  obtain ⟨hful, hpar⟩ := less_found hft.2.1 (ht.2.2.2 hno) (ht2.2.2.2 hno2) hrk
  obtain ⟨SW, hSW⟩ : ∃ SW : World → Prop, SW = fun w1 => (∀ (j : Nat) v, (fndV r pa)[j]? = some v → w1.cell? ⟨fb, 0 + 0 * 4 + j, none⟩ = some v) ∧ ∀ (j : Nat) v, (fndV r2 pa2)[j]? = some v → w1.cell? ⟨fb2, 0 + 0 * 4 + j, none⟩ = some v := ⟨_, rfl⟩
  have hS : ∀ (H' : SH), ⟨fb, true, .row (fndV r pa ++ spare) 30 (0, 0)⟩ ∈ H' → ⟨fb2, true, .row (fndV r2 pa2 ++ spare2) 30 (0, 0)⟩ ∈ H' → ∀ w1, HF w (fun _ => False) H' w1 → SW w1 := fun H' hm hm2 w1 h1 => by
   rw [hSW]
   exact ⟨cells_of h1 (0 + 0 * 4) _ hm (fun j v hj => fnd_at r pa spare j v hj), cells_of h1 (0 + 0 * 4) _ hm2 (fun j v hj => fnd_at r2 pa2 spare2 j v hj)⟩
  refine GC.seq ?_
  refine GC.regA (SW) mixed ?_
  refine GA.one 0 rfl (by kernel_rfl) ?_
  refine GB.callP (v := .bool true) Try.call14 rfl rfl (hS _ (List.mem_append_right _ (.tail _ (List.mem_append_right _ (.head _)))) (.head _)) (fun w1 _ => f14_any w1) ?_
  refine GA.p 1 rfl (by kernel_rfl) (hS _ (List.mem_append_right _ (.tail _ (List.mem_append_right _ (.head _)))) (.head _)) (fun _ => V.mv rfl) rfl ?_
  refine GA.pg 2 rfl rfl rfl (by kernel_rfl) (hS _ (List.mem_append_right _ (.tail _ (List.mem_append_right _ (.head _)))) (.head _)) (fun _ => V.mv rfl) rfl ?_
  refine GA.p 3 rfl (by kernel_rfl) (hS _ (List.mem_append_right _ (.tail _ (List.mem_append_right _ (.head _)))) (.head _)) (fun _ => V.pickT rfl rfl) rfl ?_
  refine GA.p 4 rfl (by kernel_rfl) (hS _ (List.mem_append_right _ (.tail _ (List.mem_append_right _ (.head _)))) (.head _)) (fun _ => V.mv rfl) rfl ?_
  refine GA.pg 5 rfl rfl rfl (by kernel_rfl) (hS _ (List.mem_append_right _ (.tail _ (List.mem_append_right _ (.head _)))) (.head _)) (fun _ => V.mv rfl) rfl ?_
  refine GA.pg 6 rfl rfl rfl (by kernel_rfl) (hS _ (List.mem_append_right _ (.tail _ (List.mem_append_right _ (.head _)))) (.head _)) (fun _ => V.lenL Try.underlying23 rfl) rfl ?_
  refine GA.pg 7 rfl rfl rfl (by kernel_rfl) (hS _ (List.mem_append_right _ (.tail _ (List.mem_append_right _ (.head _)))) (.head _)) (fun _ => V.eqI rfl rfl) rfl ?_
  refine GA.p 8 rfl (by kernel_rfl) (hS _ (List.mem_append_right _ (.tail _ (List.mem_append_right _ (.head _)))) (.head _)) (fun _ => V.pickT rfl rfl) rfl ?_
  refine GA.p 9 rfl (by kernel_rfl) (hS _ (List.mem_append_right _ (.tail _ (List.mem_append_right _ (.head _)))) (.head _)) (fun _ => V.mv rfl) rfl ?_
  refine GA.pg 10 rfl rfl rfl (by kernel_rfl) (hS _ (List.mem_append_right _ (.tail _ (List.mem_append_right _ (.head _)))) (.head _)) (fun _ => V.mv rfl) rfl ?_
  refine GA.pg 11 rfl rfl rfl (by kernel_rfl) (hS _ (List.mem_append_right _ (.tail _ (List.mem_append_right _ (.head _)))) (.head _)) (fun _ => V.ia (i := 0) Try.underlying23 Try.sizeOf30 rfl rfl (by decide)) rfl ?_
  refine GA.pg 12 rfl rfl rfl (by kernel_rfl) (hS _ (List.mem_append_right _ (.tail _ (List.mem_append_right _ (.head _)))) (.head _)) (fun _ => V.fa F30_2 rfl) rfl ?_
  refine GA.ldg  13 rfl rfl rfl (by kernel_rfl) (hS _ (List.mem_append_right _ (.tail _ (List.mem_append_right _ (.head _)))) (.head _)) Try.isAgg9 rfl (fun w1 h1 => by rw [hSW] at h1; exact h1.1 2 _ rfl) rfl ?_
  refine GA.pg 14 rfl rfl rfl (by kernel_rfl) (hS _ (List.mem_append_right _ (.tail _ (List.mem_append_right _ (.head _)))) (.head _)) (fun _ => V.mv rfl) rfl ?_
  refine GA.pg 15 rfl rfl rfl (by kernel_rfl) (hS _ (List.mem_append_right _ (.tail _ (List.mem_append_right _ (.head _)))) (.head _)) (fun _ => V.ia (i := 0) Try.underlying23 Try.sizeOf30 rfl rfl (by decide)) rfl ?_
  refine GA.pg 16 rfl rfl rfl (by kernel_rfl) (hS _ (List.mem_append_right _ (.tail _ (List.mem_append_right _ (.head _)))) (.head _)) (fun _ => V.fa F30_2 rfl) rfl ?_
  refine GA.ldg  17 rfl rfl rfl (by kernel_rfl) (hS _ (List.mem_append_right _ (.tail _ (List.mem_append_right _ (.head _)))) (.head _)) Try.isAgg9 rfl (fun w1 h1 => by rw [hSW] at h1; exact h1.2 2 _ rfl) rfl ?_
  refine GA.pg 18 rfl rfl rfl (by kernel_rfl) (hS _ (List.mem_append_right _ (.tail _ (List.mem_append_right _ (.head _)))) (.head _)) (fun _ => eqS_true hful (V.eqS rfl rfl)) rfl ?_
  refine GA.p 19 rfl (by kernel_rfl) (hS _ (List.mem_append_right _ (.tail _ (List.mem_append_right _ (.head _)))) (.head _)) (fun _ => V.pickT rfl rfl) rfl ?_
  refine GA.p 20 rfl (by kernel_rfl) (hS _ (List.mem_append_right _ (.tail _ (List.mem_append_right _ (.head _)))) (.head _)) (fun _ => V.mv rfl) rfl ?_
  refine GA.pg 21 rfl rfl rfl (by kernel_rfl) (hS _ (List.mem_append_right _ (.tail _ (List.mem_append_right _ (.head _)))) (.head _)) (fun _ => V.mv rfl) rfl ?_
  refine GA.pg 22 rfl rfl rfl (by kernel_rfl) (hS _ (List.mem_append_right _ (.tail _ (List.mem_append_right _ (.head _)))) (.head _)) (fun _ => V.ia (i := 0) Try.underlying23 Try.sizeOf30 rfl rfl (by decide)) rfl ?_
  refine GA.pg 23 rfl rfl rfl (by kernel_rfl) (hS _ (List.mem_append_right _ (.tail _ (List.mem_append_right _ (.head _)))) (.head _)) (fun _ => V.fa F30_0 rfl) rfl ?_
  refine GA.ldg  24 rfl rfl rfl (by kernel_rfl) (hS _ (List.mem_append_right _ (.tail _ (List.mem_append_right _ (.head _)))) (.head _)) Try.isAgg3 rfl (fun w1 h1 => by rw [hSW] at h1; exact h1.1 0 _ rfl) rfl ?_
  refine GA.pg 25 rfl rfl rfl (by kernel_rfl) (hS _ (List.mem_append_right _ (.tail _ (List.mem_append_right _ (.head _)))) (.head _)) (fun _ => V.eqI rfl rfl) rfl ?_
  refine GA.pg 26 rfl rfl rfl (by kernel_rfl) (hS _ (List.mem_append_right _ (.tail _ (List.mem_append_right _ (.head _)))) (.head _)) (fun _ => V.mv rfl) rfl ?_
  refine GA.bc 112 rfl (fun h112 => ?_) (fun h112 => ?_)
  ·refine GA.un 27 rfl rfl rfl rfl rfl rfl (by kernel_rfl) (hS _ (List.mem_append_right _ (.tail _ (List.mem_append_right _ (.head _)))) (.head _)) rfl ?_
   refine GA.un 28 rfl rfl rfl rfl rfl rfl (by kernel_rfl) (hS _ (List.mem_append_right _ (.tail _ (List.mem_append_right _ (.head _)))) (.head _)) rfl ?_
   refine GA.un 29 rfl rfl rfl rfl rfl rfl (by kernel_rfl) (hS _ (List.mem_append_right _ (.tail _ (List.mem_append_right _ (.head _)))) (.head _)) rfl ?_
   refine GA.un 30 rfl rfl rfl rfl rfl rfl (by kernel_rfl) (hS _ (List.mem_append_right _ (.tail _ (List.mem_append_right _ (.head _)))) (.head _)) rfl ?_
   refine GA.un 31 rfl rfl rfl rfl rfl rfl (by kernel_rfl) (hS _ (List.mem_append_right _ (.tail _ (List.mem_append_right _ (.head _)))) (.head _)) rfl ?_
   refine GA.un 32 rfl rfl rfl rfl rfl rfl (by kernel_rfl) (hS _ (List.mem_append_right _ (.tail _ (List.mem_append_right _ (.head _)))) (.head _)) rfl ?_
   refine GA.un 33 rfl rfl rfl rfl rfl rfl (by kernel_rfl) (hS _ (List.mem_append_right _ (.tail _ (List.mem_append_right _ (.head _)))) (.head _)) rfl ?_
   refine GA.un 34 rfl rfl rfl rfl rfl rfl (by kernel_rfl) (hS _ (List.mem_append_right _ (.tail _ (List.mem_append_right _ (.head _)))) (.head _)) rfl ?_
   refine GA.un 35 rfl rfl rfl rfl rfl rfl (by kernel_rfl) (hS _ (List.mem_append_right _ (.tail _ (List.mem_append_right _ (.head _)))) (.head _)) rfl ?_
   refine GA.pg 36 rfl rfl rfl (by kernel_rfl) (hS _ (List.mem_append_right _ (.tail _ (List.mem_append_right _ (.head _)))) (.head _)) (fun _ => V.pickT rfl rfl) rfl ?_
   refine GA.p 37 rfl (by kernel_rfl) (hS _ (List.mem_append_right _ (.tail _ (List.mem_append_right _ (.head _)))) (.head _)) (fun _ => V.pickT rfl rfl) rfl ?_
   refine GA.p 38 rfl (by kernel_rfl) (hS _ (List.mem_append_right _ (.tail _ (List.mem_append_right _ (.head _)))) (.head _)) (fun _ => V.asg rfl) rfl ?_
   refine GA.done (by kernel_rfl) ?_
   exact GC.ret1 rfl rfl fun w' hw' => ⟨rfl, hw'.sub (List.nil_sublist _)⟩
  ·refine GA.pg 27 rfl rfl rfl (by kernel_rfl) (hS _ (List.mem_append_right _ (.tail _ (List.mem_append_right _ (.head _)))) (.head _)) (fun _ => V.mv rfl) rfl ?_
   refine GA.pg 28 rfl rfl rfl (by kernel_rfl) (hS _ (List.mem_append_right _ (.tail _ (List.mem_append_right _ (.head _)))) (.head _)) (fun _ => V.ia (i := 0) Try.underlying23 Try.sizeOf30 rfl rfl (by decide)) rfl ?_
   refine GA.pg 29 rfl rfl rfl (by kernel_rfl) (hS _ (List.mem_append_right _ (.tail _ (List.mem_append_right _ (.head _)))) (.head _)) (fun _ => V.fa F30_1 rfl) rfl ?_
   refine GA.ldg  30 rfl rfl rfl (by kernel_rfl) (hS _ (List.mem_append_right _ (.tail _ (List.mem_append_right _ (.head _)))) (.head _)) Try.isAgg28 rfl (fun w1 h1 => by rw [hSW] at h1; exact h1.1 1 _ rfl) rfl ?_
   refine GA.pg 31 rfl rfl rfl (by kernel_rfl) (hS _ (List.mem_append_right _ (.tail _ (List.mem_append_right _ (.head _)))) (.head _)) (fun _ => V.mv rfl) rfl ?_
   refine GA.pg 32 rfl rfl rfl (by kernel_rfl) (hS _ (List.mem_append_right _ (.tail _ (List.mem_append_right _ (.head _)))) (.head _)) (fun _ => V.ia (i := 0) Try.underlying23 Try.sizeOf30 rfl rfl (by decide)) rfl ?_
   refine GA.pg 33 rfl rfl rfl (by kernel_rfl) (hS _ (List.mem_append_right _ (.tail _ (List.mem_append_right _ (.head _)))) (.head _)) (fun _ => V.fa F30_1 rfl) rfl ?_
   refine GA.ldg  34 rfl rfl rfl (by kernel_rfl) (hS _ (List.mem_append_right _ (.tail _ (List.mem_append_right _ (.head _)))) (.head _)) Try.isAgg28 rfl (fun w1 h1 => by rw [hSW] at h1; exact h1.2 1 _ rfl) rfl ?_
   refine GA.one 35 rfl (by kernel_rfl) ?_
   refine GB.gd rfl rfl ?_
   have hr0 : r.h.getD 0 ≠ 0 := fun h => by rw [h] at h112; simp at h112
   refine GB.callP (v := .bool (decide (r.ps = r2.ps))) Try.call27 rfl rfl (hS _ (List.mem_append_right _ (.tail _ (List.mem_append_right _ (.head _)))) (.head _)) (fun w1 hw1 => f27_any w1 r.ps r2.ps pa pa2 (Own.prms ho hw1 (fun x hx => List.mem_append_right _ (.tail _ (List.mem_append_right _ (List.mem_append_left _ (.tail _ hx)))))) (Own.prms ho2 hw1 (fun x hx => List.mem_append_left _ (.tail _ hx))) (by have := ht.2.1; omega) (by have := ht2.2.1; omega)) ?_
   rw [decide_eq_true (hpar hr0)]
   refine GA.pg 36 rfl rfl rfl (by kernel_rfl) (hS _ (List.mem_append_right _ (.tail _ (List.mem_append_right _ (.head _)))) (.head _)) (fun _ => V.pickF rfl rfl) rfl ?_
   refine GA.p 37 rfl (by kernel_rfl) (hS _ (List.mem_append_right _ (.tail _ (List.mem_append_right _ (.head _)))) (.head _)) (fun _ => V.pickT rfl rfl) rfl ?_
   refine GA.p 38 rfl (by kernel_rfl) (hS _ (List.mem_append_right _ (.tail _ (List.mem_append_right _ (.head _)))) (.head _)) (fun _ => V.asg rfl) rfl ?_
   refine GA.done (by kernel_rfl) ?_
   exact GC.ret1 rfl rfl fun w' hw' => ⟨rfl, hw'.sub (List.nil_sublist _)⟩
end Go.Proofs

/- A law's statement out of its walk: FnGinLess. -/
set_option maxRecDepth 100000
namespace Go.Proofs.Ytnopecnbpflodaa.ginless
open Go Bw Go.ChangeShapes Go.WideShapes Go.ChangeAt Go.RowKit
theorem contract (H : Type) (enc : TypeId × Value → H) (W : World) (base : Nat) (args : Array Value) (ds gs : List (DataW H)) (before : List MemPlace)
  (hval : ∀ (j : Nat) t v, Try.f12.params[j]? = some t → args[j]? = some v → Value.okWide Try.prog W .any base t v)
  (hW : DataW.Whole enc Try.prog Try.f12.params.toList Rows.fnGinLessSpec.vars false W args.toList ds gs before) :
  Calls Try.prog 12 args W fun e W' => ∃ v, e = .returned v ∧ Rows.fnGinLessSpec.post enc Try.prog Try.f12 false true false false W args v W' := by
 have hW' := hW
 obtain ⟨p, q, hA0, hV, rfl, hfz, hnd⟩ := hW
 have hA : DataW.TrodAll enc Try.prog W 0 (fun _ => true) true [34, 5, 9] args.toList ds p := hA0
 obtain ⟨v0, vs0, d0, ds0, p0, q0, hargs, rfl, rfl, h0, r0⟩ := trodAll_cons hA
 obtain ⟨v1, vs_1, d1, ds1, p1, q1, rfl, rfl, rfl, h1, r1⟩ := trodAll_cons r0
 obtain ⟨v2, vs_2, d2, ds2, p2, q2, rfl, rfl, rfl, h2, r2⟩ := trodAll_cons r1
 obtain ⟨rfl, rfl, rfl⟩ := trodAll_nil r2
 obtain rfl : args = #[v0, v1, v2] := by cases args; simp_all
 obtain ⟨rs0, hrs0⟩ := open_parts2 (hval 0 34 v0 rfl rfl) h0
 obtain ⟨c1, rfl⟩ := open_u8 (hval 1 5 v1 rfl rfl) h1
 obtain ⟨l2, rfl⟩ := open_str Try.underlying9 (hval 2 9 v2 rfl rfl)
 refine (f12_any W rs0 v0 hrs0 c1 l2).mono fun e W' ⟨he, hf⟩ => ⟨_, he, ?_⟩
 refine post_law hW' rfl rfl ?_ (by kernel_rfl) (below_of hf)
 obtain ⟨rfl, rfl⟩ := trodVars_none hV
 rfl
theorem reads (os : Os) {H : Type} (enc : TypeId × Value → H) : ∃ places, DataW.whole enc Try.prog ((plainWorld os).forCall (fun _ _ => 0) ⟨#[], #[.slice none 0 0, .int .u8 0, .string ⟨#[]⟩], []⟩).memory Try.f12.params.toList Rows.fnGinLessSpec.vars false (#[.slice none 0 0, .int .u8 0, .string ⟨#[]⟩] : Array Value).toList 8 = some ([.nil, .lit (.int .u8 0), .lit (.string [])], [], places) :=
 ⟨[], by kernel_rfl⟩
theorem lifted (os : Os) (started : os.Started) (H : Type) (enc : TypeId × Value → H) (F : Stop.Interp) :
  ReturnsInHanded {} Try.checked os 12 .any ((OpenSpec.ofChange Rows.fnGinLessSpec).preRow enc Try.prog Try.f12 Rows.fnGinLessRow.domain false Rows.fnGinLessRow.laid) (((OpenSpec.ofChange Rows.fnGinLessSpec).at F).post enc Try.prog Try.f12 false true false false) := by
 obtain ⟨places, hx⟩ := reads os enc
 refine returnsInHanded_of_row (C := Try.checked) (s := OpenSpec.ofChange Rows.fnGinLessSpec) try_own started (by kernel_rfl) Try.func12
  (witness_row_at (enc := enc) (C := Try.checked) false (plainWorld os) #[.slice none 0 0, .int .u8 0, .string ⟨#[]⟩] rfl (by kernel_rfl) (by kernel_rfl) (by kernel_rfl)
   (OpenSpec.preRow_of_cond 8 hx (by kernel_rfl) (fun k hk => by cases hk) (by kernel_rfl) (laid_none _))) ?_
 intro W base args ds gs before hval hW _ _ _ hL _ _
 exact contract H enc W base args ds gs before hval hW
theorem said : Rows.FnGinLessSaid :=
 OpenClaim.holds_of_cond 12 Try.f12 rfl rfl rfl rfl rfl rfl rfl ⟨rfl, rfl, rfl, rfl, rfl⟩ rfl rfl rfl rfl rfl (by kernel_rfl) Try.func12 (by kernel_rfl)
  (of_decide_eq_true (by kernel_rfl)) (by unfold Func.isWrapper; first | (rw [if_pos (by decide +kernel)]; kernel_rfl) | (rw [if_neg (by decide +kernel)]; exact ⟨rfl, rfl⟩))
  (fun os started H enc _ F => by rw [OpenClaim.pre_eq_preRow]; exact lifted os started H enc F)
end Go.Proofs.Ytnopecnbpflodaa.ginless
