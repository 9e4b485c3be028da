/- Lemmas of the walk and plain facts (GtD2 .. HxB2). -/
import Derived.Test.YtdjnbehdiohggaaDoorP17
import Derived.Test.YtdjnbehdiohggaaDoorP01
/- Tables of texts alone: what is found whatever the letters are. No program in sight. -/
namespace Gt
open Gs Tr
theorem foldB_lo : foldB = lo := rfl
/-- what is told: of a route as is asked, or none is -/
def ToldS (l : List (List Prt)) (path : List UInt8) (fx : Bool) (r : Option (List UInt8)) : Prop :=
  (∀ out, r = some out → ∃ a ∈ l, ∃ p, a = [p] ∧ p.nm = out ∧ Want fx out path) ∧ (r = none → ∀ a ∈ l, ∀ p, a = [p] → ¬ Want fx p.nm path)
theorem no_dbl {t : List UInt8} (h : ¬ Dbl t) (x y : List UInt8) : t ≠ x ++ 47 :: 47 :: y := fun e => by
  refine h ⟨x.length, ?_, ?_⟩ <;> rw [e]
  · simp
  · rw [List.getElem?_append_right (by omega)]; simp
theorem case_static {l : List (List Prt)} {path : List UInt8} {fx : Bool} (hf : FitsN l path) (hs : StaticN l) (hne : l ≠ []) (h1 : path ≠ [47]) (hin : fx = true → ¬ InnerN l path) {t : T0} (ht : addAll new ((l.map tokT).map txt) 0 = .inl t) {g : Nat} {r : Option (List UInt8)} (hc : caseC Ef fx g t path 0 [] = some r) : ToldS l path fx r := by
  obtain ⟨_, htab, ⟨q, hq⟩, _, _⟩ := hf
  have hcl := htab.clean
  have hgood : ∀ r ∈ l.map tokT, Good r := fun r hr => by
    obtain ⟨x, hx, rfl⟩ := List.mem_map.1 hr
    exact (hcl x hx).good
  have hn := pw_nodup htab.pw
  obtain ⟨t', k1, k2⟩ := addAll_ok (l.map tokT) new (fun _ => none) 0 (.inl ⟨rfl, rfl⟩) hgood (fun _ _ _ _ h => by cases h) htab.pw
  rw [ht] at k1
  cases k1
  have hof : ∀ s v, fAdd (fun _ => none) 0 (l.map tokT) s = some v → ∃ a p, a ∈ l ∧ a = [p] ∧ s = bs p.nm := fun s v hs' => by
    obtain ⟨i, hi, _⟩ := fAdd_of hn hs'
    obtain ⟨a, ha, he⟩ := map_at hi
    obtain ⟨p, e1, e2⟩ := static_one htab hs (List.mem_of_getElem? ha)
    exact ⟨a, p, List.mem_of_getElem? ha, e1, by rw [he, e2]⟩
  have hat : ∀ a ∈ l, ∀ p, a = [p] → ∃ v, fAdd (fun _ => none) 0 (l.map tokT) (bs p.nm) = some v := fun a ha p hp => by
    obtain ⟨p2, e1, e2⟩ := static_one htab hs ha
    rw [hp] at e1
    cases e1
    obtain ⟨i, hi⟩ := List.mem_iff_getElem?.1 ha
    exact ⟨_, fAdd_at hn (i := i) (by rw [List.getElem?_map, hi, Option.map_some, e2])⟩
  obtain ⟨a0, l', hl⟩ := List.exists_cons_of_ne_nil hne
  have ha0 : a0 ∈ l := by rw [hl]; exact .head _
  obtain ⟨p0, e0, _⟩ := static_one htab hs ha0
  have hx0 : ∃ s v, fAdd (fun _ => none) 0 (l.map tokT) s = some v := ⟨_, hat a0 ha0 p0 e0⟩
  rcases k2 with ⟨_, hf0⟩ | ⟨rep, hnt, hd⟩
  · obtain ⟨s, v, hv⟩ := hx0
    rw [hf0] at hv; cases hv
  · obtain ⟨m1, m2⟩ := case_fix fx g t _ path 0 [] 47 r rep (by rw [hnt]; decide) (fun s v hv => by
      obtain ⟨_, p, _, _, e⟩ := hof s v hv
      exact ⟨p.nm, e⟩) hx0 hd ⟨47, q, hq.symm, rfl⟩ (fun t v hv => by
      obtain ⟨a, p, ha, hp, e⟩ := hof _ v hv
      rw [bs_inj.1 e]
      subst hp
      have h2 := (hcl _ ha).2.2.2 0 p rfl
      exact no_dbl (h2.2.2.2.1 (h2.1.2 rfl)).2.2.1) (fun hfx a ha t v hv hlt he => by
      obtain ⟨b, p, hb, hbp, e⟩ := hof _ v hv
      have hnm : t = p.nm := bs_inj.1 e
      subst hnm
      have ha0 : a ≠ [] := fun e => h1 (by rw [ha, e]; rfl)
      refine hin hfx ⟨?_, ⟨a, ha.symm⟩, b, hb, p, by rw [hbp]; rfl, ?_, ?_⟩
      · rw [ha, List.length_append]
        have := List.length_pos_iff.2 ha0
        simp; omega
      · rw [ha, List.length_append]; simpa using hlt
      · rw [ha, List.length_append, List.length_singleton, Nat.add_sub_cancel, List.take_left]
        unfold foldT
        rw [foldB_lo, ← List.map_take]; exact he) hc
    refine ⟨fun out ho => ?_, fun hr a ha p hp => ?_⟩
    · obtain ⟨t, v, e, hv, hw⟩ := m1 out ho
      rw [List.nil_append] at e
      subst e
      obtain ⟨a, p, ha, hp, e⟩ := hof _ v hv
      exact ⟨a, ha, p, hp, (bs_inj.1 e).symm, hw⟩
    · obtain ⟨v, hv⟩ := hat a ha p hp
      exact m2 hr _ v hv
end Gt

/- Bytes of a row put behind bytes, in place; trees of texts alone. -/
set_option maxRecDepth 20000
namespace Bw
open Go Go.Proofs
variable {P : Program} {c : Cx} {n : Nat} {k : List Item} {fr : SF} {H : SH} {ops : Array Oper} {rest : List Oper} {ty : TypeId} {pos : String} {aft : Array Edge}
theorem G.appB {T e e2 : TypeId} {x y : Operand} {d b m cap i sb c2 : Nat} {wf : Bool} {fz : Nat × Nat} {s l : List UInt8} {ie : TypeInfo} (ht : P.underlying T = some (.slice e)) (hi : P.info? e = some ie) (hs1 : ie.size = 1) (hx : ev fr x = some (.slice (some ⟨b, 0, none⟩) m cap)) (hy : ev fr y = some (.slice (some ⟨sb, 0, none⟩) s.length c2))
  (hsrc : (⟨sb, wf, .row (bC s) e2 fz⟩ : Ent) ∈ H) (hat : At i ⟨b, true, .row (bC l) e (0, 0)⟩ H) (hroom : m + s.length ≤ cap) (hfit : m + s.length ≤ l.length) (hd : Nat.blt d n = true)
  (hk : G P c n k ops rest ((d, .slice (some ⟨b, 0, none⟩) (m + s.length) cap) :: fr) (putE (.row (bC (l.take m ++ s ++ l.drop (m + s.length))) e (0, 0)) i H)) : G P c n k ops (⟨some d, .call ⟨.builtin .append, #[x, y], #[T, T]⟩, ty, pos, aft, none⟩ :: rest) fr H := by
 refine G.eff (fun a w ha hw => ?_) hd hk
 have hb := hw.has _ hat.mem
 simp only [Blk.den] at hb
 have hsl : (bC s).length = s.length := bC_len s
 have h := run_append_room (P := P) (w := w) T ty e ie ht hi b m cap (bC l).toArray hb ⟨sb, 0, none⟩ s.length c2 (bC s) (by rw [hsl, hs1, Nat.mul_one])
  (src_row (c := c) (vs := bC s) (r := []) (by rw [List.append_nil]; exact hsrc) w hw) (fun u hu => by
   simp only [bC, Lib.byteCells, List.mem_map] at hu
   obtain ⟨q, _, rfl⟩ := hu
   rfl) hroom (by rw [hs1, hsl, Nat.mul_one]; simpa [bC, Lib.byteCells] using hfit)
 have e1 : ((bC l).toArray.toList.take (m * ie.size) ++ bC s ++ (bC l).toArray.toList.drop (m * ie.size + (bC s).length)).toArray = (bC (l.take m ++ s ++ l.drop (m + s.length))).toArray := by
  rw [hs1, hsl, Nat.mul_one]
  simp [bC, Lib.byteCells, List.map_take, List.map_drop]
 rw [e1] at h
 refine ⟨w.setRow b (bC (l.take m ++ s ++ l.drop (m + s.length))).toArray, ?_, ?_⟩
 ·simp [execOp, resolve, invoke, builtin, ha.eval hx, ha.eval hy, h]
 ·exact hw.upd (w' := w.setRow b (bC (l.take m ++ s ++ l.drop (m + s.length))).toArray) hat rfl (.row (bC (l.take m ++ s ++ l.drop (m + s.length))) e (0, 0)) (by simp [World.setRow])
   (by simp only [Blk.den]; simp [World.setRow, Array.getElem?_modify, hb]) (fun x hx => by simp only [World.setRow]; rw [Array.getElem?_modify, if_neg (fun e => hx e.symm)]) rfl rfl rfl
end Bw
namespace Gt
open Gs Tr
/-- texts alone -/
inductive Stc : T0 → Prop
 | mk {path idx : List UInt8} {nt pr : Nat} {h : Option Nat} {full : List UInt8} {kids : List T0} (hk3 : ∀ k ∈ kids, k.nt ≠ 3) (hk : ∀ k ∈ kids, Stc k) : Stc (.node () path idx false nt pr h full kids)
theorem Stc.wild {n : T0} (h : Stc n) : n.wild = false := by cases h; rfl
theorem Stc.kids {n : T0} (h : Stc n) : ∀ k ∈ n.kids, k.nt ≠ 3 ∧ Stc k := by cases h with | mk hk3 hk => exact fun k h => ⟨hk3 k h, hk k h⟩
theorem stc_of : ∀ (g : Nat) {n : T0} {f : F} {c0 : UInt8}, size n ≤ g → Rep true n f → n.nt ≠ 2 → Txo f → (∀ s v, f s = some v → ∃ r, s = .b c0 :: r) → Stc n ∧ n.nt ≠ 3
 | 0, n, _, _, hg, _, _, _, _ => by
  cases n with
  | node => exact absurd hg (by simp [size])
 | g + 1, n, f, c0, hg, rep, hn, ht, hd => by
  obtain ⟨P, idx, nt, pr, h0, full, kids, rfl, x, hP⟩ := txo_node rep hn ht hd
  have key : ∀ k ∈ kids, Stc k ∧ k.nt ≠ 3 := fun k hk => by
   obtain ⟨j, hj⟩ := List.mem_iff_getElem?.1 hk
   have hlt := (List.getElem?_eq_some_iff.1 hj).1
   have hl : j < idx.length := by have := x.hlen; simp at this; omega
   have hsk := size_kid hk
   have hs2 : 2 + size.sizes kids ≤ g + 1 := hg
   have hkn := x.hkn j k hl hj
   exact stc_of g (by omega) (x.hk j _ k (List.getElem?_eq_getElem hl) hj) (by rcases hkn with e | e <;> rw [e] <;> decide) (txo_at ht) at_head
  exact ⟨.mk (fun k hk => (key k hk).2) fun k hk => (key k hk).1, by have := x.hnt; show nt ≠ 3; omega⟩
end Gt

/- findCaseInsensitivePathRec with the wish to fix: the loop's head, the path's end. Printed by wip/mk_hx3.py. -/
set_option maxRecDepth 20000
namespace Go.Proofs
open Go Bw
open Gt
/-- the loop at a place, told -/
def LpX (fx : Bool) (R : Ending → World → Prop) (w : World) (D : Nat → Prop) (qb bb cp : Nat) (Ht : SH) (n : T0) (p : List UInt8) (rb : UInt8) (cur : List UInt8) : Prop :=
 ∀ (nb : Nat) (bl : List UInt8) (fr : SF), Rd Ht n nb → bl.length = cp → bl.take cur.length = cur →
  Sub [(0, Pt nb 0), (1, S p), (2, .slice (some ⟨bb, 0, none⟩) cur.length cp), (4, .bool fx), (8, Pt qb 0), (11, I (n.path.length : Nat))] fr →
  GC Tryd.prog ⟨59, Tryd.f59, R, w, D⟩ 606 K59 fr (⟨qb, true, .row (rbR rb) 98 (0, 0)⟩ :: ⟨bb, true, .row (bC bl) 5 (0, 0)⟩ :: Ht)
/-- a call of findCaseInsensitivePathRec, told -/
def RecX (fx : Bool) (bb cp : Nat) (Ht : SH) (n : T0) (p : List UInt8) (x : UInt8) (cur : List UInt8) (r : Option (List UInt8)) : Prop :=
 ∀ (w : World) (D : Nat → Prop) (nb : Nat) (bl : List UInt8), LaidF w D → Rd Ht n nb → bl.length = cp → bl.take cur.length = cur → HF w D (⟨bb, true, .row (bC bl) 5 (0, 0)⟩ :: Ht) w →
  Calls Tryd.prog 59 #[Pt nb 0, S p, .slice (some ⟨bb, 0, none⟩) cur.length cp, .agg (rbR x).toArray, .bool fx] w fun e w' => ∃ bl', e = .returned (outV bb cp r) ∧ bl'.length = cp ∧ tkO cur r bl' ∧ HF w D (⟨bb, true, .row (bC bl') 5 (0, 0)⟩ :: Ht) w'
/-- what is told where the node's text is not the path's -/
def outX (fx : Bool) (P : List UInt8) (h : Option Nat) (p cur : List UInt8) : Option (List UInt8) := if fx = true ∧ p = [47] then some cur else if fx = true ∧ p.length + 1 = P.length ∧ P[p.length]? = some 47 ∧ Ef (p.drop 1) ((P.take p.length).drop 1) = true ∧ h.isSome = true then some (cur ++ P) else none
/-- what is told where no kid is found by index -/
def missX (fx : Bool) (p : List UInt8) (h : Option Nat) (cu : List UInt8) : Option (List UInt8) := if fx = true ∧ p = [47] ∧ h.isSome = true then some cu else none
/-- (no wildcard) ahead of the search for a slash -/
noncomputable def K59s : List Item := match K59a with
 | .code (.seq (.seq _ (.cond _ (.seq _ (.seq (.seq _ (.cond _ t _)) z)) _)) y) :: k => .code t :: .code z :: .code y :: k
 | k => k
/-- (no wildcard) nothing is found by index -/
noncomputable def K59m : List Item := K59k.tail
theorem x59_head {R : Ending → World → Prop} {w : World} {D : Nat → Prop} {qb bb cp : Nat} {Ht : SH} {fx : Bool} {c0 : List UInt8} {n : T0} {p cur bl : List UInt8} {rb : UInt8} {nb : Nat} {fr : SF}
  (hn : Rd Ht n nb) (hbl : bl.length = cp) (hbt : bl.take cur.length = cur) (hp0 : p ≠ []) (hpa : ∀ x ∈ p, x.toNat < 128) (hpl : p.length ≤ 100000) (hroom : cur.length + p.length + 1 ≤ cp) (_hcp : cp ≤ 1000000) (hL : LaidF w D) (hsub : Sub [(0, Pt nb 0), (1, S p), (2, .slice (some ⟨bb, 0, none⟩) cur.length cp), (4, .bool fx), (8, Pt qb 0), (11, I (n.path.length : Nat))] fr) (hnl : n.path.length ≤ 100000)
  (ga : n.path.length ≤ p.length → (n.path.length = 0 ∨ Ef ((p.take n.path.length).drop 1) (n.path.drop 1) = true) → ∀ bl' fr', bl'.length = cp → bl'.take (cur ++ n.path).length = cur ++ n.path → Sub [(0, Pt nb 0), (1, S (p.drop n.path.length)), (2, .slice (some ⟨bb, 0, none⟩) (cur ++ n.path).length cp), (4, .bool fx), (8, Pt qb 0), (11, I (n.path.length : Nat)), (12, S p)] fr' → GC Tryd.prog ⟨59, Tryd.f59, R, w, D⟩ 606 K59a fr' (⟨qb, true, .row (rbR rb) 98 (0, 0)⟩ :: ⟨bb, true, .row (bC bl') 5 (0, 0)⟩ :: Ht))
  (gm : ¬ (n.path.length ≤ p.length ∧ (n.path.length = 0 ∨ Ef ((p.take n.path.length).drop 1) (n.path.drop 1) = true)) → ∀ r, r = outX fx n.path n.h p cur → Fin59 R w D bb cp Ht c0 r) (hc0 : c0 <+: cur) :
  GC Tryd.prog ⟨59, Tryd.f59, R, w, D⟩ 606 K59 fr (⟨qb, true, .row (rbR rb) 98 (0, 0)⟩ :: ⟨bb, true, .row (bC bl) 5 (0, 0)⟩ :: Ht) := by
 refine GC.weak hsub ?_
 clear hsub
 cases hn with
 | @mk path idx wild nt pr h full kids _ bs kv hv Hs hm hs hsm hbl2 hh hk =>
 simp only [n_path, n_h] at *
 obtain ⟨ad2, l2, c2, rfl, hnn⟩ := hh.slice
 have hp1 : 1 ≤ p.length := List.length_pos_iff.2 hp0
 refine GC.seq ?_
 refine GC.seq ?_
 refine GC.join (fun fr' H' => Sub [(0, Pt nb 0), (1, S p), (2, .slice (some ⟨bb, 0, none⟩) cur.length cp), (4, .bool fx), (8, Pt qb 0), (11, I (path.length : Nat)), (73, .bool (decide (path.length ≤ p.length ∧ (path.length = 0 ∨ Ef ((p.take path.length).drop 1) (path.drop 1) = true))))] fr' ∧ H' = (⟨qb, true, .row (rbR rb) 98 (0, 0)⟩ :: ⟨bb, true, .row (bC bl) 5 (0, 0)⟩ :: Ht)) (fun J2 => ?_) ?_
 ·refine GC.regQ mixed (by kernel_rfl) ?_
  refine GQ.v (V.mv rfl) rfl ?_
  refine GQ.v (V.lenS Tryd.underlying9 rfl) rfl ?_
  refine GQ.v (V.mv rfl) rfl ?_
  refine GQ.v (V.ge rfl rfl) rfl ?_
  refine GQ.v (V.mv rfl) rfl ?_
  refine GQ.bc 59 rfl (fun h59 => ?_) (fun h59 => ?_)
  ·refine GQ.vg rfl rfl (V.mv rfl) rfl ?_
   refine GQ.vg rfl rfl (V.eqI rfl rfl) rfl ?_
   refine GQ.vg rfl rfl (V.mv rfl) rfl ?_
   refine GQ.bc 62 rfl (fun h62 => ?_) (fun h62 => ?_)
   ·refine GQ.sg rfl rfl rfl rfl rfl rfl ?_
    refine GQ.sg rfl rfl rfl rfl rfl rfl ?_
    refine GQ.sg rfl rfl rfl rfl rfl rfl ?_
    refine GQ.sg rfl rfl rfl rfl rfl rfl ?_
    refine GQ.sg rfl rfl rfl rfl rfl rfl ?_
    refine GQ.sg rfl rfl rfl rfl rfl rfl ?_
    refine GQ.sg rfl rfl rfl rfl rfl rfl ?_
    refine GQ.sg rfl rfl rfl rfl rfl rfl ?_
    refine GQ.sg rfl rfl rfl rfl rfl rfl ?_
    refine GQ.vg rfl rfl (V.pickT rfl rfl) rfl ?_
    refine GQ.v (V.pickT rfl rfl) rfl ?_
    refine GQ.nil ?_
    refine J2 _ _ ⟨.cons rfl (.cons rfl (.cons rfl (.cons rfl (.cons rfl (.cons rfl (.cons (rfl.trans (congrArg (fun b => some (Value.bool b)) ?_)) .nil)))))), rfl⟩
    have h1 := of_decide_eq_true h59
    have h2 := of_decide_eq_true h62
    exact (decide_eq_true ⟨by omega, .inl (by omega)⟩).symm
   ·refine GQ.vg rfl rfl (V.mv rfl) rfl ?_
    refine GQ.vg rfl rfl (V.mv rfl) rfl ?_
    refine GQ.vg rfl rfl (V.slLH (i := 1) (j := path.length) Tryd.underlying9 rfl rfl rfl (by have := of_decide_eq_false h62; omega) (by have := of_decide_eq_true h59; omega)) rfl ?_
    refine GQ.vg rfl rfl (V.mv rfl) rfl ?_
    refine GQ.vg rfl rfl (V.nc rfl) rfl ?_
    refine GQ.vg rfl rfl (V.fa F94_0 rfl) rfl ?_
    refine GQ.vg rfl rfl (V.ld (b := nb) (off := 0 + 0) (wf := true) (l := nodeR path idx wild nt pr kv (.slice ad2 l2 c2) full) (T := 94) (fz := (0, 0)) (v := S path) Tryd.isAgg9 rfl (m2 hm) rfl) rfl ?_
    refine GQ.vg rfl rfl (V.slL (i := 1) Tryd.underlying9 rfl rfl (by have := of_decide_eq_false h62; omega)) rfl ?_
    refine GQ.callPg (v := .bool (Ef ((p.take path.length).drop 1) (path.drop 1))) Tryd.call70 rfl rfl rfl rfl (fun w1 hw1 => c70_any w1 (hL.old hw1) _ _ (fun x hx => hpa x (List.mem_of_mem_take (List.mem_of_mem_drop hx))) (by rw [List.length_drop, List.length_drop, List.length_take]; have := of_decide_eq_true h59; omega) (by simp; omega)) ?_
    refine GQ.vg rfl rfl (V.pickF rfl rfl) rfl ?_
    refine GQ.v (V.pickT rfl rfl) rfl ?_
    refine GQ.nil ?_
    refine J2 _ _ ⟨.cons rfl (.cons rfl (.cons rfl (.cons rfl (.cons rfl (.cons rfl (.cons (rfl.trans (congrArg (fun b => some (Value.bool b)) ?_)) .nil)))))), rfl⟩
    have h1 := of_decide_eq_true h59
    have h2 := of_decide_eq_false h62
    exact Bool.eq_iff_iff.2 ⟨fun h => decide_eq_true ⟨by omega, .inr h⟩, fun h => (of_decide_eq_true h).2.resolve_left (by omega)⟩
  ·refine GQ.sg rfl rfl rfl rfl rfl rfl ?_
   refine GQ.sg rfl rfl rfl rfl rfl rfl ?_
   refine GQ.sg rfl rfl rfl rfl rfl rfl ?_
   refine GQ.sgU rfl rfl rfl rfl rfl ?_
   refine GQ.sgU rfl rfl rfl rfl rfl ?_
   refine GQ.sgU rfl rfl rfl rfl rfl ?_
   refine GQ.sgU rfl rfl rfl rfl rfl ?_
   refine GQ.sgU rfl rfl rfl rfl rfl ?_
   refine GQ.sgU rfl rfl rfl rfl rfl ?_
   refine GQ.sgU rfl rfl rfl rfl rfl ?_
   refine GQ.sgU rfl rfl rfl rfl rfl ?_
   refine GQ.sgU rfl rfl rfl rfl rfl ?_
   refine GQ.sg rfl rfl rfl rfl rfl rfl ?_
   refine GQ.v (V.pickF rfl rfl) rfl ?_
   refine GQ.nil ?_
   refine J2 _ _ ⟨.cons rfl (.cons rfl (.cons rfl (.cons rfl (.cons rfl (.cons rfl (.cons (rfl.trans (congrArg (fun b => some (Value.bool b)) ?_)) .nil)))))), rfl⟩
   have h1 := of_decide_eq_false h59
   exact (decide_eq_false fun h => h1 (by have := h.1; omega)).symm
 rintro fr' H' ⟨hs2, rfl⟩
 refine GC.weak hs2 ?_
 clear hs2
 refine GC.cond rfl (fun h73 => ?_) (fun h73 => ?_)
 ·refine GC.skip ?_
  refine GC.block ?_
  refine GC.seq ?_
  have h73 := of_decide_eq_true h73
  refine GC.reg ?_
  refine G.m1 ?_
  refine G.m2 ?_
  refine G.nil ?_
  refine GC.seq ?_
  refine GC.reg ?_
  refine G.m1 ?_
  refine G.m1 ?_
  refine G.v (V.slL (i := path.length) Tryd.underlying9 rfl rfl h73.1) rfl ?_
  refine G.m2 ?_
  refine G.nil ?_
  refine GC.seq ?_
  refine GC.reg ?_
  refine G.m1 ?_
  refine G.m1 ?_
  refine G.v (V.nc rfl) rfl ?_
  refine G.v (V.fa F94_0 rfl) rfl ?_
  refine G.v (V.ld (b := nb) (off := 0 + 0) (wf := true) (l := nodeR path idx wild nt pr kv (.slice ad2 l2 c2) full) (T := 94) (fz := (0, 0)) (v := S path) Tryd.isAgg9 rfl (m2 hm) rfl) rfl ?_
  refine G.appS (i := 1) (l := bl) (ie := Tryd.t5) Tryd.underlying44 Tryd.underlying9 rfl rfl rfl rfl (.s .z) (by have := h73.1; omega) (by have := h73.1; omega) rfl ?_
  refine G.m2 ?_
  refine G.nil ?_
  have hta := tk_app (s := path) hbt (by have := h73.1; omega)
  exact ga h73.1 h73.2 _ _ (hta.1.trans hbl) hta.2 (by rw [List.length_append]; exact .of rfl)
 refine GC.exit rfl ?_
 refine GC.seq ?_
 refine GC.seq ?_
 have h73 := of_decide_eq_false h73
 refine GC.reg ?_
 refine G.m1 ?_
 refine G.nil ?_
 refine GC.cond rfl (fun h562 => ?_) (fun h562 => ?_)
 ·refine GC.seq ?_
  refine GC.seq ?_
  refine GC.reg ?_
  refine G.m1 ?_
  refine G.v (V.eqS rfl rfl) rfl ?_
  refine G.nil ?_
  refine GC.condD rfl (fun h564 => ?_) (fun h564 => ?_)
  ·refine GC.seq ?_
   refine GC.reg ?_
   refine G.m1 ?_
   refine G.m2 ?_
   refine G.nil ?_
   exact GC.ret1 rfl rfl fun w' hw' => gm h73 (some cur) (by unfold outX; rw [if_pos ⟨h562, h564⟩]) bl w' hbl hbt (hw'.sub (List.sublist_cons_self _ _))
  refine GC.skip ?_
  refine GC.seq ?_
  refine GC.join (fun fr' H' => ∃ t : Bool, (t = true ↔ p.length + 1 = path.length ∧ path[p.length]? = some 47 ∧ Ef (p.drop 1) ((path.take p.length).drop 1) = true ∧ h.isSome = true) ∧ Sub [(0, Pt nb 0), (1, S p), (2, .slice (some ⟨bb, 0, none⟩) cur.length cp), (4, .bool fx), (8, Pt qb 0), (11, I (path.length : Nat)), (599, .bool t)] fr' ∧ H' = (⟨qb, true, .row (rbR rb) 98 (0, 0)⟩ :: ⟨bb, true, .row (bC bl) 5 (0, 0)⟩ :: Ht)) (fun J139 => ?_) ?_
  ·refine GC.regQ mixed (by kernel_rfl) ?_
   refine GQ.v (V.mv rfl) rfl ?_
   refine GQ.v (V.lenS Tryd.underlying9 rfl) rfl ?_
   refine GQ.v (V.addI (r := ((p.length + 1 : Nat) : Int)) rfl rfl rfl (by omega) (by omega)) rfl ?_
   refine GQ.v (V.mv rfl) rfl ?_
   refine GQ.v (V.eqI rfl rfl) rfl ?_
   refine GQ.v (V.mv rfl) rfl ?_
   refine GQ.bc 571 rfl (fun h571 => ?_) (fun h571 => ?_)
   ·refine GQ.vg rfl rfl (V.mv rfl) rfl ?_
    refine GQ.vg rfl rfl (V.nc rfl) rfl ?_
    refine GQ.vg rfl rfl (V.fa F94_0 rfl) rfl ?_
    have hpp : p.length + 1 = path.length := by have := of_decide_eq_true h571; omega
    obtain ⟨y, hy⟩ : ∃ y, path[p.length]? = some y := ⟨_, List.getElem?_eq_getElem (by omega)⟩
    refine GQ.vg rfl rfl (V.ld (b := nb) (off := 0 + 0) (wf := true) (l := nodeR path idx wild nt pr kv (.slice ad2 l2 c2) full) (T := 94) (fz := (0, 0)) (v := S path) Tryd.isAgg9 rfl (m2 hm) rfl) rfl ?_
    refine GQ.vg rfl rfl (V.mv rfl) rfl ?_
    refine GQ.vg rfl rfl (V.lenS Tryd.underlying9 rfl) rfl ?_
    refine GQ.vg rfl rfl (V.idx (i := p.length) (b := y) Tryd.underlying9 rfl rfl hy) rfl ?_
    refine GQ.vg rfl rfl (V.eqI rfl rfl) rfl ?_
    refine GQ.v (V.pickT rfl rfl) rfl ?_
    refine GQ.v (V.mv rfl) rfl ?_
    refine GQ.bc 581 rfl (fun h581 => ?_) (fun h581 => ?_)
    ·refine GQ.vg rfl rfl (V.mv rfl) rfl ?_
     refine GQ.vg rfl rfl (V.slL (i := 1) Tryd.underlying9 rfl rfl hp1) rfl ?_
     refine GQ.vg rfl rfl (V.mv rfl) rfl ?_
     refine GQ.vg rfl rfl (V.nc rfl) rfl ?_
     refine GQ.vg rfl rfl (V.fa F94_0 rfl) rfl ?_
     refine GQ.vg rfl rfl (V.ld (b := nb) (off := 0 + 0) (wf := true) (l := nodeR path idx wild nt pr kv (.slice ad2 l2 c2) full) (T := 94) (fz := (0, 0)) (v := S path) Tryd.isAgg9 rfl (m2 hm) rfl) rfl ?_
     refine GQ.vg rfl rfl (V.mv rfl) rfl ?_
     refine GQ.vg rfl rfl (V.lenS Tryd.underlying9 rfl) rfl ?_
     refine GQ.vg rfl rfl (V.slLH (i := 1) (j := p.length) Tryd.underlying9 rfl rfl rfl hp1 (by omega)) rfl ?_
     refine GQ.callPg (v := .bool (Ef (p.drop 1) ((path.take p.length).drop 1))) Tryd.call70 rfl rfl rfl rfl (fun w1 hw1 => c70_any w1 (hL.old hw1) _ _ (fun x hx => hpa x (List.mem_of_mem_drop hx)) (by rw [List.length_drop, List.length_drop, List.length_take]; omega) (by simp; omega)) ?_
     refine GQ.v (V.pickT rfl rfl) rfl ?_
     refine GQ.v (V.mv rfl) rfl ?_
     refine GQ.bc 593 rfl (fun h593 => ?_) (fun h593 => ?_)
     ·refine GQ.vg rfl rfl (V.mv rfl) rfl ?_
      refine GQ.vg rfl rfl (V.nc rfl) rfl ?_
      refine GQ.vg rfl rfl (V.fa F94_6 rfl) rfl ?_
      refine GQ.vg rfl rfl (V.ld (b := nb) (off := 0 + 6) (wf := true) (l := nodeR path idx wild nt pr kv (.slice ad2 l2 c2) full) (T := 94) (fz := (0, 0)) (v := (.slice ad2 l2 c2)) Tryd.isAgg92 rfl (m2 hm) rfl) rfl ?_
      refine GQ.vg rfl rfl (V.neL Tryd.underlying92 rfl) rfl ?_
      refine GQ.v (V.pickT rfl rfl) rfl ?_
      refine GQ.nil ?_
      have hy47 : y = 47 := UInt8.toNat_inj.1 (show y.toNat = 47 by have := of_decide_eq_true h581; omega)
      have hE : Ef (p.drop 1) ((path.take p.length).drop 1) = true := h593
      exact J139 _ _ ⟨_, ⟨fun e => ⟨hpp, by rw [hy, hy47], hE, by rw [hnn] at e; cases h with | none => cases e | some k => rfl⟩, fun e => by rw [hnn]; cases h with | none => exact absurd e.2.2.2 (by decide) | some k => rfl⟩, .of rfl, rfl⟩
     ·refine GQ.sg rfl rfl rfl rfl rfl rfl ?_
      refine GQ.sg rfl rfl rfl rfl rfl rfl ?_
      refine GQ.sg rfl rfl rfl rfl rfl rfl ?_
      refine GQ.sg rfl rfl rfl rfl rfl rfl ?_
      refine GQ.sg rfl rfl rfl rfl rfl rfl ?_
      refine GQ.v (V.pickF rfl rfl) rfl ?_
      refine GQ.nil ?_
      have hE : Ef (p.drop 1) ((path.take p.length).drop 1) = false := h593
      exact J139 _ _ ⟨false, ⟨fun e => (by cases e), fun e => by rw [hE] at e; exact absurd e.2.2.1 (by decide)⟩, .of rfl, rfl⟩
    ·refine GQ.sg rfl rfl rfl rfl rfl rfl ?_
     refine GQ.sg rfl rfl rfl rfl rfl rfl ?_
     refine GQ.sg rfl rfl rfl rfl rfl rfl ?_
     refine GQ.sg rfl rfl rfl rfl rfl rfl ?_
     refine GQ.sg rfl rfl rfl rfl rfl rfl ?_
     refine GQ.sg rfl rfl rfl rfl rfl rfl ?_
     refine GQ.sg rfl rfl rfl rfl rfl rfl ?_
     refine GQ.sg rfl rfl rfl rfl rfl rfl ?_
     refine GQ.sg rfl rfl rfl rfl rfl rfl ?_
     refine GQ.sg rfl rfl rfl rfl rfl rfl ?_
     refine GQ.v (V.pickF rfl rfl) rfl ?_
     refine GQ.v (V.mv rfl) rfl ?_
     refine GQ.sg rfl rfl rfl rfl rfl rfl ?_
     refine GQ.sg rfl rfl rfl rfl rfl rfl ?_
     refine GQ.sg rfl rfl rfl rfl rfl rfl ?_
     refine GQ.sg rfl rfl rfl rfl rfl rfl ?_
     refine GQ.sg rfl rfl rfl rfl rfl rfl ?_
     refine GQ.v (V.pickF rfl rfl) rfl ?_
     refine GQ.nil ?_
     exact J139 _ _ ⟨false, ⟨fun e => (by cases e), fun e => by rw [hy] at e; exact absurd (Option.some.inj e.2.1) (fun e2 => of_decide_eq_false h581 (by rw [e2]; rfl))⟩, .of rfl, rfl⟩
   ·refine GQ.sg rfl rfl rfl rfl rfl rfl ?_
    refine GQ.sg rfl rfl rfl rfl rfl rfl ?_
    refine GQ.sg rfl rfl rfl rfl rfl rfl ?_
    refine GQ.sg rfl rfl rfl rfl rfl rfl ?_
    refine GQ.sg rfl rfl rfl rfl rfl rfl ?_
    refine GQ.sg rfl rfl rfl rfl rfl rfl ?_
    refine GQ.sg rfl rfl rfl rfl rfl rfl ?_
    refine GQ.sg rfl rfl rfl rfl rfl rfl ?_
    refine GQ.v (V.pickF rfl rfl) rfl ?_
    refine GQ.v (V.mv rfl) rfl ?_
    refine GQ.sg rfl rfl rfl rfl rfl rfl ?_
    refine GQ.sg rfl rfl rfl rfl rfl rfl ?_
    refine GQ.sg rfl rfl rfl rfl rfl rfl ?_
    refine GQ.sg rfl rfl rfl rfl rfl rfl ?_
    refine GQ.sg rfl rfl rfl rfl rfl rfl ?_
    refine GQ.sg rfl rfl rfl rfl rfl rfl ?_
    refine GQ.sg rfl rfl rfl rfl rfl rfl ?_
    refine GQ.sg rfl rfl rfl rfl rfl rfl ?_
    refine GQ.sg rfl rfl rfl rfl rfl rfl ?_
    refine GQ.sg rfl rfl rfl rfl rfl rfl ?_
    refine GQ.v (V.pickF rfl rfl) rfl ?_
    refine GQ.v (V.mv rfl) rfl ?_
    refine GQ.sg rfl rfl rfl rfl rfl rfl ?_
    refine GQ.sg rfl rfl rfl rfl rfl rfl ?_
    refine GQ.sg rfl rfl rfl rfl rfl rfl ?_
    refine GQ.sg rfl rfl rfl rfl rfl rfl ?_
    refine GQ.sg rfl rfl rfl rfl rfl rfl ?_
    refine GQ.v (V.pickF rfl rfl) rfl ?_
    refine GQ.nil ?_
    exact J139 _ _ ⟨false, ⟨fun e => (by cases e), fun e => absurd (by have := e.1; omega) (of_decide_eq_false h571)⟩, .of rfl, rfl⟩
  rintro fr' H' ⟨t, ht, hs2, rfl⟩
  refine GC.weak hs2 ?_
  clear hs2
  refine GC.cond rfl (fun h599 => ?_) (fun h599 => ?_)
  ·refine GC.seq ?_
   refine GC.reg ?_
   refine G.m1 ?_
   refine G.m1 ?_
   refine G.v (V.nc rfl) rfl ?_
   refine G.v (V.fa F94_0 rfl) rfl ?_
   refine G.v (V.ld (b := nb) (off := 0 + 0) (wf := true) (l := nodeR path idx wild nt pr kv (.slice ad2 l2 c2) full) (T := 94) (fz := (0, 0)) (v := S path) Tryd.isAgg9 rfl (m2 hm) rfl) rfl ?_
   have hc := ht.1 h599
   refine G.appS (i := 1) (l := bl) (ie := Tryd.t5) Tryd.underlying44 Tryd.underlying9 rfl rfl rfl rfl (.s .z) (by omega) (by omega) rfl ?_
   refine G.m2 ?_
   refine G.nil ?_
   have hta := tk_app (s := path) hbt (by omega)
   have hcl : (cur ++ path).length = cur.length + path.length := List.length_append
   refine GC.ret1 rfl rfl fun w' hw' => ?_
   have this : R (.returned (.slice (some ⟨bb, 0, none⟩) (cur ++ path).length cp)) w' := gm h73 (some (cur ++ path)) (by unfold outX; rw [if_neg (fun e => h564 e.2), if_pos ⟨h562, hc⟩]) _ w' (hta.1.trans hbl) hta.2 (hw'.sub (List.sublist_cons_self _ _))
   rw [hcl] at this
   exact this
  refine GC.skip ?_
  refine GC.seq ?_
  refine GC.reg ?_
  refine G.m2 ?_
  refine G.nil ?_
  exact GC.ret1 rfl rfl fun w' hw' => gm h73 none (by unfold outX; rw [if_neg (fun e => h564 e.2), if_neg (fun e => (by have := ht.2 e.2; rw [h599] at this; cases this))]) bl w' hbl (tk_pre hbt hc0) (hw'.sub (List.sublist_cons_self _ _))
 refine GC.skip ?_
 refine GC.seq ?_
 refine GC.reg ?_
 refine G.m2 ?_
 refine G.nil ?_
 exact GC.ret1 rfl rfl fun w' hw' => gm h73 none (by unfold outX; rw [if_neg (fun e => (by rw [h562] at e; cases e.1)), if_neg (fun e => (by rw [h562] at e; cases e.1))]) bl w' hbl (tk_pre hbt hc0) (hw'.sub (List.sublist_cons_self _ _))
end Go.Proofs

/- findCaseInsensitivePathRec with the wish to fix: the path's end; the rune that is read; nothing is found by index. Printed by wip/mk_hx4.py. -/
set_option maxRecDepth 20000
namespace Go.Proofs
open Go Bw
open Gt
theorem x59_a {R : Ending → World → Prop} {w : World} {D : Nat → Prop} {qb bb cp : Nat} {Ht : SH} {fx : Bool} {c0 : List UInt8} {n : T0} {p cu bl : List UInt8} {rb : UInt8} {nb : Nat} {fr : SF}
  (hn : Rd Ht n nb) (hbl : bl.length = cp) (hbt : bl.take cu.length = cu) (_hpa : ∀ x ∈ p, x.toNat < 128) (_hpl : p.length ≤ 100000) (hLp : n.path.length ≤ p.length) (hnL : Lk n) (hc0 : c0 <+: cu) (_hHw : ∀ e ∈ Ht, e.w = true) (hsub : Sub [(0, Pt nb 0), (1, S (p.drop n.path.length)), (2, .slice (some ⟨bb, 0, none⟩) cu.length cp), (4, .bool fx), (8, Pt qb 0), (11, I (n.path.length : Nat)), (12, S p)] fr) 
  (ge1 : (p.drop n.path.length) = [] → n.h.isSome = true → Fin59 R w D bb cp Ht c0 (some cu)) (ge0 : (p.drop n.path.length) = [] → n.h.isSome = false → fx = false → Fin59 R w D bb cp Ht c0 none) (gs : (p.drop n.path.length) = [] → n.h.isSome = false → fx = true → ∀ fr', Sub [(0, Pt nb 0), (1, S (p.drop n.path.length)), (2, .slice (some ⟨bb, 0, none⟩) cu.length cp), (4, .bool fx), (8, Pt qb 0), (11, I (n.path.length : Nat)), (12, S p)] fr' → GC Tryd.prog ⟨59, Tryd.f59, R, w, D⟩ 606 K59s fr' (⟨qb, true, .row (rbR rb) 98 (0, 0)⟩ :: ⟨bb, true, .row (bC bl) 5 (0, 0)⟩ :: Ht))
  (gb : (p.drop n.path.length) ≠ [] → ∀ fr', Sub [(0, Pt nb 0), (1, S (p.drop n.path.length)), (2, .slice (some ⟨bb, 0, none⟩) cu.length cp), (4, .bool fx), (8, Pt qb 0), (11, I (n.path.length : Nat)), (12, S p)] fr' → GC Tryd.prog ⟨59, Tryd.f59, R, w, D⟩ 606 K59b fr' (⟨qb, true, .row (rbR rb) 98 (0, 0)⟩ :: ⟨bb, true, .row (bC bl) 5 (0, 0)⟩ :: Ht)) :
  GC Tryd.prog ⟨59, Tryd.f59, R, w, D⟩ 606 K59a fr (⟨qb, true, .row (rbR rb) 98 (0, 0)⟩ :: ⟨bb, true, .row (bC bl) 5 (0, 0)⟩ :: Ht) := by
 refine GC.weak hsub ?_
 clear hsub
 have hn0 := hn
 cases hn with
 | @mk path idx wild nt pr h full kids _ bs kv hv Hs hm hs hsm hbl2 hh hk =>
 try simp only [n_path] at *
 try simp only [n_idx] at *
 try simp only [n_kids] at *
 try simp only [n_wild] at *
 try simp only [n_h] at *
 have hil : idx.length ≤ 100000 := hnL.1
 have hkil : kids.length ≤ 100000 := hnL.2.1
 obtain ⟨ad, cap, rfl⟩ := hs.slice
 obtain ⟨ad2, l2, c2, rfl, hnn⟩ := hh.slice
 refine GC.seq ?_
 refine GC.seq ?_
 refine GC.reg ?_
 refine G.m1 ?_
 refine G.v (V.lenS Tryd.underlying9 rfl) rfl ?_
 refine G.v (V.eqI rfl rfl) rfl ?_
 refine G.nil ?_
 refine GC.condD rfl (fun h86 => ?_) (fun h86 => ?_)
 ·refine GC.seq ?_
  refine GC.seq ?_
  have hq0 : (p.drop path.length) = [] := List.length_eq_zero_iff.1 (by omega)
  refine GC.reg ?_
  refine G.m1 ?_
  refine G.v (V.nc rfl) rfl ?_
  refine G.v (V.fa F94_6 rfl) rfl ?_
  refine G.v (V.ld (b := nb) (off := 0 + 6) (wf := true) (l := nodeR path idx wild nt pr (.slice ad kids.length cap) (.slice ad2 l2 c2) full) (T := 94) (fz := (0, 0)) (v := (.slice ad2 l2 c2)) Tryd.isAgg92 rfl (m2 hm) rfl) rfl ?_
  refine G.v (V.neL Tryd.underlying92 rfl) rfl ?_
  refine G.nil ?_
  refine GC.cond rfl (fun h91 => ?_) (fun h91 => ?_)
  ·refine GC.seq ?_
   refine GC.reg ?_
   refine G.m1 ?_
   refine G.m2 ?_
   refine G.nil ?_
   have hhs : h.isSome = true := by
    cases h with
    | none => rw [hnn] at h91; exact absurd h91 (by decide)
    | some k => rfl
   exact GC.ret1 rfl rfl fun w' hw' => ge1 hq0 hhs bl w' hbl hbt (hw'.sub (List.sublist_cons_self _ _))
  refine GC.skip ?_
  refine GC.seq ?_
  refine GC.seq ?_
  refine GC.reg ?_
  refine G.m1 ?_
  refine G.nil ?_
  refine GC.cond rfl (fun h93 => ?_) (fun h93 => ?_)
  ·have hhs : h.isSome = false := by
    cases h with
    | none => rfl
    | some k => rw [hnn] at h91; exact absurd h91 (by simp)
   exact gs hq0 hhs h93 _ (.of rfl)
  refine GC.skip ?_
  refine GC.seq ?_
  refine GC.reg ?_
  refine G.m2 ?_
  refine G.nil ?_
  have hhs : h.isSome = false := by
   cases h with
   | none => rfl
   | some k => rw [hnn] at h91; exact absurd h91 (by simp)
  exact GC.ret1 rfl rfl fun w' hw' => ge0 hq0 hhs h93 bl w' hbl (tk_pre hbt hc0) (hw'.sub (List.sublist_cons_self _ _))
 refine GC.skip ?_
 exact gb (fun e => h86 (by rw [e]; rfl)) _ (.of rfl)
theorem x59_sY {R : Ending → World → Prop} {w : World} {D : Nat → Prop} {qb bb cp : Nat} {Ht : SH} {fx : Bool} {c0 : List UInt8} {n : T0} {p cu bl : List UInt8} {rb : UInt8} {nb : Nat} {fr : SF}
  (hn : Rd Ht n nb) (hbl : bl.length = cp) (hbt : bl.take cu.length = cu) (_hpa : ∀ x ∈ p, x.toNat < 128) (_hpl : p.length ≤ 100000) (hLp : n.path.length ≤ p.length) (hnL : Lk n) (hc0 : c0 <+: cu) (_hHw : ∀ e ∈ Ht, e.w = true) (hsub : Sub [(0, Pt nb 0), (1, S (p.drop n.path.length)), (2, .slice (some ⟨bb, 0, none⟩) cu.length cp), (4, .bool fx), (8, Pt qb 0), (11, I (n.path.length : Nat)), (12, S p)] fr) {i : Nat} {k : T0} (hj : idxOf 47 n.idx = some i) (hkid : n.kids[i]? = some k) (hnt3 : k.nt ≠ 3) (hroom : cu.length + 1 ≤ cp)
  (fin : Fin59 R w D bb cp Ht c0 (slC k cu)) :
  GC Tryd.prog ⟨59, Tryd.f59, R, w, D⟩ 606 K59s fr (⟨qb, true, .row (rbR rb) 98 (0, 0)⟩ :: ⟨bb, true, .row (bC bl) 5 (0, 0)⟩ :: Ht) := by
 refine GC.weak hsub ?_
 clear hsub
 have hn0 := hn
 cases hn with
 | @mk path idx wild nt pr h full kids _ bs kv hv Hs hm hs hsm hbl2 hh hk =>
 try simp only [n_path] at *
 try simp only [n_idx] at *
 try simp only [n_kids] at *
 try simp only [n_wild] at *
 try simp only [n_h] at *
 have hil : idx.length ≤ 100000 := hnL.1
 have hkil : kids.length ≤ 100000 := hnL.2.1
 obtain ⟨ad, cap, rfl⟩ := hs.slice
 obtain ⟨ad2, l2, c2, rfl, hnn⟩ := hh.slice
 obtain ⟨hjc, hjn⟩ := idxOf_some hj
 have hjl : i < idx.length := (List.getElem?_eq_some_iff.1 hjc).1
 refine GC.seq ?_
 refine GC.reg ?_
 refine G.m1 ?_
 refine G.v (V.nc rfl) rfl ?_
 refine G.v (V.fa F94_1 rfl) rfl ?_
 refine G.v (V.ld (b := nb) (off := 0 + 1) (wf := true) (l := nodeR path idx wild nt pr (.slice ad kids.length cap) (.slice ad2 l2 c2) full) (T := 94) (fz := (0, 0)) (v := S idx) Tryd.isAgg9 rfl (m2 hm) rfl) rfl ?_
 refine G.cvSB Tryd.underlying9 Tryd.underlying44 Tryd.underlying5 rfl rfl (fun tb cpp z fz hrb hcp => ?_)
 refine G.v (V.lenL Tryd.underlying44 rfl) rfl ?_
 refine G.m1 ?_
 refine G.nil ?_
 refine GC.block ?_
 refine GC.loopJ (fun N fr' H' => ∃ j, j + N = i ∧ Sub [(0, Pt nb 0), (1, S (p.drop path.length)), (2, .slice (some ⟨bb, 0, none⟩) cu.length cp), (4, .bool fx), (8, Pt qb 0), (11, I (path.length : Nat)), (12, S p), (98, .slice (some ⟨tb, 0, none⟩) idx.length cpp), (99, I (idx.length : Nat)), (100, I (j : Nat))] fr' ∧ H' = ⟨tb, true, .row (bC (idx ++ z)) 5 fz⟩ :: (⟨qb, true, .row (rbR rb) 98 (0, 0)⟩ :: ⟨bb, true, .row (bC bl) 5 (0, 0)⟩ :: Ht)) i
  ⟨0, by omega, .of rfl, rfl⟩ ?_
 rintro N fr' H' ⟨j, hj0, hs2, rfl⟩ ih
 refine GC.weak hs2 ?_
 clear hs2
 refine GC.seq ?_
 refine GC.reg ?_
 refine G.v (V.lt rfl rfl) rfl ?_
 refine G.nil ?_
 refine GC.seq ?_
 refine GC.condD rfl (fun h101 => ?_) (fun h101 => absurd (by omega) h101)
 refine GC.skip ?_
 refine GC.seq ?_
 refine GC.block ?_
 refine GC.seq ?_
 have hql : j < idx.length := by omega
 obtain ⟨y, hy⟩ : ∃ y, idx[j]? = some y := ⟨_, List.getElem?_eq_getElem hql⟩
 refine GC.reg ?_
 refine G.m1 ?_
 refine G.v (V.ia (i := j) Tryd.underlying44 Tryd.sizeOf5 rfl rfl hql) rfl ?_
 refine G.v (V.ld (b := tb) (off := 0 + j * 1) (wf := true) (l := bC (idx ++ z)) (T := 5) (fz := fz) (v := .int .u8 (y.toNat : Int)) Tryd.isAgg5 rfl (.head _) (by rw [nth_eq, Nat.zero_add, Nat.mul_one, bC_app, List.getElem?_append_left (by rw [bC_len]; exact hql)]; simp [bC, Lib.byteCells, hy])) rfl ?_
 refine G.m2 ?_
 refine G.m2 ?_
 refine G.nil ?_
 refine GC.seq ?_
 refine GC.reg ?_
 refine G.m1 ?_
 refine G.v (V.eqI rfl rfl) rfl ?_
 refine G.nil ?_
 refine GC.condD rfl (fun h106 => ?_) (fun h106 => ?_)
 ·refine GC.seq ?_
  have hjj : j = i := by
   have hyx : y = 47 := UInt8.toNat_inj.1 (show y.toNat = 47 by omega)
   rcases Nat.lt_or_ge j i with h | h
   ·exact absurd (by rw [hy, hyx]) (hjn j h)
   ·omega
  subst hjj
  have hkl := (List.getElem?_eq_some_iff.1 hkid).1
  obtain ⟨kb, hkb⟩ : ∃ kb, bs[j]? = some kb := ⟨_, List.getElem?_eq_getElem (by omega)⟩
  have hrk := hk j k kb hkid hkb
  obtain ⟨rw0, cap2, spare, e1, rfl⟩ := hs.at hkl
  cases e1
  have hrbm := hsm _ (.head _)
  cases hrk with
  | @mk kpath kidx kwild knt kpr kh kfull kkids _ kbs kkv khv kHs khm khs khsm khbl khh khk =>
  obtain ⟨kad2, kl2, kc2, rfl, khnn⟩ := khh.slice
  refine GC.reg ?_
  refine G.m1 ?_
  refine G.v (V.nc rfl) rfl ?_
  refine G.v (V.fa F94_5 rfl) rfl ?_
  refine G.v (V.ld (b := nb) (off := 0 + 5) (wf := true) (l := nodeR path idx wild nt pr (.slice (some ⟨rw0, 0, none⟩) kids.length cap) (.slice ad2 l2 c2) full) (T := 94) (fz := (0, 0)) (v := (.slice (some ⟨rw0, 0, none⟩) kids.length cap)) Tryd.isAgg90 rfl (m3 hm) rfl) rfl ?_
  refine G.m1 ?_
  refine G.v (V.ia (i := j) Tryd.underlying90 Tryd.sizeOf83 rfl rfl hkl) rfl ?_
  refine G.v (V.ld (b := rw0) (off := 0 + j * 1) (wf := true) (l := bs.map (Pt · 0) ++ spare) (T := 83) (fz := (0, 0)) (v := Pt kb 0) Tryd.isAgg83 rfl (m3 hrbm) (by rw [nth_eq, Nat.zero_add, Nat.mul_one, List.getElem?_append_left (by rw [List.length_map]; omega), List.getElem?_map, hkb]; rfl)) rfl ?_
  refine G.m2 ?_
  refine G.nil ?_
  refine GC.seq ?_
  refine GC.seq ?_
  refine GC.join (fun fr' H' => ∃ t : Bool, t = (decide (kpath.length = 1) && kh.isSome) ∧ Sub [(1, S (p.drop path.length)), (2, .slice (some ⟨bb, 0, none⟩) cu.length cp), (4, .bool fx), (8, Pt qb 0), (11, I (path.length : Nat)), (12, S p), (145, .bool t)] fr' ∧ H' = ⟨tb, true, .row (bC (idx ++ z)) 5 fz⟩ :: (⟨qb, true, .row (rbR rb) 98 (0, 0)⟩ :: ⟨bb, true, .row (bC bl) 5 (0, 0)⟩ :: Ht)) (fun J15 => ?_) ?_
  ·refine GC.reg ?_
   refine G.m1 ?_
   refine G.v (V.nc rfl) rfl ?_
   refine G.v (V.fa F94_0 rfl) rfl ?_
   refine G.v (V.ld (b := kb) (off := 0 + 0) (wf := true) (l := nodeR kpath kidx kwild knt kpr kkv (.slice kad2 kl2 kc2) kfull) (T := 94) (fz := (0, 0)) (v := S kpath) Tryd.isAgg9 rfl (m3 khm) rfl) rfl ?_
   refine G.v (V.lenS Tryd.underlying9 rfl) rfl ?_
   refine G.v (V.eqI rfl rfl) rfl ?_
   refine G.m1 ?_
   refine G.bc 120 rfl (fun h120 => ?_) (fun h120 => ?_)
   ·refine G.m5 ?_
    refine G.vg rfl rfl (V.nc rfl) rfl ?_
    refine G.vg rfl rfl (V.fa F94_6 rfl) rfl ?_
    refine G.vg rfl rfl (V.ld (b := kb) (off := 0 + 6) (wf := true) (l := nodeR kpath kidx kwild knt kpr kkv (.slice kad2 kl2 kc2) kfull) (T := 94) (fz := (0, 0)) (v := (.slice kad2 kl2 kc2)) Tryd.isAgg92 rfl (m3 khm) rfl) rfl ?_
    refine G.vg rfl rfl (V.neL Tryd.underlying92 rfl) rfl ?_
    refine G.m3 ?_
    refine G.m1 ?_
    refine G.bc 127 rfl (fun h127 => ?_) (fun h127 => ?_)
    ·refine G.s1 ?_
     refine G.s1 ?_
     refine G.s1 ?_
     refine G.s1 ?_
     refine G.s1 ?_
     refine G.s1 ?_
     refine G.sgU rfl rfl rfl rfl rfl ?_
     refine G.sgU rfl rfl rfl rfl rfl ?_
     refine G.sgU rfl rfl rfl rfl rfl ?_
     refine G.sgU rfl rfl rfl rfl rfl ?_
     refine G.sgU rfl rfl rfl rfl rfl ?_
     refine G.sgU rfl rfl rfl rfl rfl ?_
     refine G.sgU rfl rfl rfl rfl rfl ?_
     refine G.sgU rfl rfl rfl rfl rfl ?_
     refine G.sgU rfl rfl rfl rfl rfl ?_
     refine G.sgU rfl rfl rfl rfl rfl ?_
     refine G.s1 ?_
     refine G.m3 ?_
     refine G.nil ?_
     have h1 : kpath.length = 1 := by have := of_decide_eq_true h120; omega
     have h2 : kh.isSome = true := by rw [khnn] at h127; cases kh with | none => cases h127 | some _ => rfl
     exact J15 _ _ ⟨true, by rw [decide_eq_true h1, h2]; rfl, .of rfl, rfl⟩
    ·refine G.m5 ?_
     refine G.vg rfl rfl (V.nc rfl) rfl ?_
     refine G.vg rfl rfl (V.fa F94_3 rfl) rfl ?_
     refine G.vg rfl rfl (V.ld (b := kb) (off := 0 + 3) (wf := true) (l := nodeR kpath kidx kwild knt kpr kkv (.slice kad2 kl2 kc2) kfull) (T := 94) (fz := (0, 0)) (v := .int .u8 (knt : Int)) Tryd.isAgg88 rfl (m3 khm) rfl) rfl ?_
     refine G.vg rfl rfl (V.eqI rfl rfl) rfl ?_
     refine G.m5 ?_
     refine G.bc 133 rfl (fun h133 => ?_) (fun h133 => ?_)
     ·exact absurd h133 (by have := hnt3; simp only [n_nt] at this; simp; omega)
     ·refine G.s1 ?_
      refine G.s1 ?_
      refine G.s1 ?_
      refine G.s1 ?_
      refine G.s1 ?_
      refine G.s1 ?_
      refine G.s1 ?_
      refine G.s1 ?_
      refine G.s1 ?_
      refine G.s1 ?_
      refine G.vg rfl rfl (V.pickF rfl rfl) rfl ?_
      refine G.m4 ?_
      refine G.nil ?_
      have h2 : kh.isSome = false := by rw [khnn] at h127; cases kh with | none => rfl | some _ => cases h127
      exact J15 _ _ ⟨false, by rw [h2, Bool.and_false], .of rfl, rfl⟩
   ·refine G.s1 ?_
    refine G.s1 ?_
    refine G.s1 ?_
    refine G.s1 ?_
    refine G.s1 ?_
    refine G.m4 ?_
    refine G.m1 ?_
    refine G.m5 ?_
    refine G.vg rfl rfl (V.nc rfl) rfl ?_
    refine G.vg rfl rfl (V.fa F94_3 rfl) rfl ?_
    refine G.vg rfl rfl (V.ld (b := kb) (off := 0 + 3) (wf := true) (l := nodeR kpath kidx kwild knt kpr kkv (.slice kad2 kl2 kc2) kfull) (T := 94) (fz := (0, 0)) (v := .int .u8 (knt : Int)) Tryd.isAgg88 rfl (m3 khm) rfl) rfl ?_
    refine G.vg rfl rfl (V.eqI rfl rfl) rfl ?_
    refine G.m5 ?_
    refine G.bc 133 rfl (fun h133 => ?_) (fun h133 => ?_)
    ·exact absurd h133 (by have := hnt3; simp only [n_nt] at this; simp; omega)
    ·refine G.s1 ?_
     refine G.s1 ?_
     refine G.s1 ?_
     refine G.s1 ?_
     refine G.s1 ?_
     refine G.s1 ?_
     refine G.s1 ?_
     refine G.s1 ?_
     refine G.s1 ?_
     refine G.s1 ?_
     refine G.vg rfl rfl (V.pickF rfl rfl) rfl ?_
     refine G.m4 ?_
     refine G.nil ?_
     have h1 : ¬ kpath.length = 1 := fun e => of_decide_eq_false h120 (by omega)
     exact J15 _ _ ⟨false, by rw [decide_eq_false h1, Bool.false_and], .of rfl, rfl⟩
  rintro fr' H' ⟨t, ht, hs5, rfl⟩
  refine GC.weak hs5 ?_
  clear hs5
  refine GC.cond rfl (fun h145 => ?_) (fun h145 => ?_)
  ·refine GC.seq ?_
   refine GC.reg ?_
   refine G.m1 ?_
   refine G.bs (.one Tryd.underlying44 Tryd.sizeOf5 Tryd.zeroValue5 rfl) rfl rfl (fun sb hsb => ?_)
   refine G.appB (i := 3) (s := [47]) (l := bl) (ie := Tryd.t5) Tryd.underlying44 rfl rfl rfl rfl (.head _) (.s (.s (.s .z))) (show cu.length + 1 ≤ cp by omega) (show cu.length + 1 ≤ bl.length by omega) rfl ?_
   refine G.m2 ?_
   refine G.nil ?_
   have hc : kpath.length = 1 ∧ kh.isSome = true := by rw [ht] at h145; simpa using h145
   rw [slC_st (show knt ≠ 3 from hnt3), if_pos hc] at fin
   have hta := tk_app (s := [47]) hbt (by show cu.length + 1 ≤ bl.length; omega)
   have hcl : (cu ++ [47]).length = cu.length + 1 := List.length_append
   refine GC.ret1 rfl rfl fun w' hw' => ?_
   have hw2 : HF w D (⟨sb, true, .row [.int .u8 47] 5 (0, 0)⟩ :: ⟨tb, true, .row (bC (idx ++ z)) 5 fz⟩ :: (⟨qb, true, .row (rbR rb) 98 (0, 0)⟩ :: ⟨bb, true, .row (bC (bl.take cu.length ++ [47] ++ bl.drop (cu.length + 1))) 5 (0, 0)⟩ :: Ht)) w' := hw'
   have this : R (.returned (.slice (some ⟨bb, 0, none⟩) (cu ++ [47]).length cp)) w' := fin _ w' (hta.1.trans hbl) hta.2 (hw2.sub ((List.sublist_cons_self _ _).trans ((List.sublist_cons_self _ _).trans (List.sublist_cons_self _ _))))
   rw [hcl] at this
   exact this
  refine GC.skip ?_
  refine GC.seq ?_
  refine GC.reg ?_
  refine G.m2 ?_
  refine G.nil ?_
  have hc : ¬ (kpath.length = 1 ∧ kh.isSome = true) := fun e => by rw [ht, decide_eq_true e.1, e.2] at h145; cases h145
  rw [slC_st (show knt ≠ 3 from hnt3), if_neg hc] at fin
  exact GC.ret1 rfl rfl fun w' hw' => fin bl w' hbl (tk_pre hbt hc0) (hw'.sub ((List.sublist_cons_self _ _).trans (List.sublist_cons_self _ _)))
 refine GC.skip ?_
 refine GC.inBlock ?_
 refine GC.reg ?_
 refine G.v (V.addI (r := ((j + 1 : Nat) : Int)) rfl rfl rfl (by omega) (by omega)) rfl ?_
 refine G.m1 ?_
 refine G.nil ?_
 have hyx : y ≠ 47 := fun e => h106 (by rw [e]; rfl)
 have hjj : j ≠ i := fun e => hyx (by rw [e, hjc] at hy; exact (Option.some.inj hy).symm)
 exact ih (N - 1) _ _ (by omega) ⟨j + 1, by omega, .of rfl, rfl⟩
theorem x59_sN {R : Ending → World → Prop} {w : World} {D : Nat → Prop} {qb bb cp : Nat} {Ht : SH} {fx : Bool} {c0 : List UInt8} {n : T0} {p cu bl : List UInt8} {rb : UInt8} {nb : Nat} {fr : SF}
  (hn : Rd Ht n nb) (hbl : bl.length = cp) (hbt : bl.take cu.length = cu) (_hpa : ∀ x ∈ p, x.toNat < 128) (_hpl : p.length ≤ 100000) (hLp : n.path.length ≤ p.length) (hnL : Lk n) (hc0 : c0 <+: cu) (_hHw : ∀ e ∈ Ht, e.w = true) (hsub : Sub [(0, Pt nb 0), (1, S (p.drop n.path.length)), (2, .slice (some ⟨bb, 0, none⟩) cu.length cp), (4, .bool fx), (8, Pt qb 0), (11, I (n.path.length : Nat)), (12, S p)] fr) (hj : idxOf 47 n.idx = none)
  (fin : Fin59 R w D bb cp Ht c0 none) :
  GC Tryd.prog ⟨59, Tryd.f59, R, w, D⟩ 606 K59s fr (⟨qb, true, .row (rbR rb) 98 (0, 0)⟩ :: ⟨bb, true, .row (bC bl) 5 (0, 0)⟩ :: Ht) := by
 refine GC.weak hsub ?_
 clear hsub
 have hn0 := hn
 cases hn with
 | @mk path idx wild nt pr h full kids _ bs kv hv Hs hm hs hsm hbl2 hh hk =>
 try simp only [n_path] at *
 try simp only [n_idx] at *
 try simp only [n_kids] at *
 try simp only [n_wild] at *
 try simp only [n_h] at *
 have hil : idx.length ≤ 100000 := hnL.1
 have hkil : kids.length ≤ 100000 := hnL.2.1
 obtain ⟨ad, cap, rfl⟩ := hs.slice
 obtain ⟨ad2, l2, c2, rfl, hnn⟩ := hh.slice
 have hjn := idxOf_none hj
 refine GC.seq ?_
 refine GC.reg ?_
 refine G.m1 ?_
 refine G.v (V.nc rfl) rfl ?_
 refine G.v (V.fa F94_1 rfl) rfl ?_
 refine G.v (V.ld (b := nb) (off := 0 + 1) (wf := true) (l := nodeR path idx wild nt pr (.slice ad kids.length cap) (.slice ad2 l2 c2) full) (T := 94) (fz := (0, 0)) (v := S idx) Tryd.isAgg9 rfl (m2 hm) rfl) rfl ?_
 refine G.cvSB Tryd.underlying9 Tryd.underlying44 Tryd.underlying5 rfl rfl (fun tb cpp z fz hrb hcp => ?_)
 refine G.v (V.lenL Tryd.underlying44 rfl) rfl ?_
 refine G.m1 ?_
 refine G.nil ?_
 refine GC.block ?_
 refine GC.loopJ (fun N fr' H' => ∃ j, j + N = idx.length ∧ Sub [(0, Pt nb 0), (1, S (p.drop path.length)), (2, .slice (some ⟨bb, 0, none⟩) cu.length cp), (4, .bool fx), (8, Pt qb 0), (11, I (path.length : Nat)), (12, S p), (98, .slice (some ⟨tb, 0, none⟩) idx.length cpp), (99, I (idx.length : Nat)), (100, I (j : Nat))] fr' ∧ H' = ⟨tb, true, .row (bC (idx ++ z)) 5 fz⟩ :: (⟨qb, true, .row (rbR rb) 98 (0, 0)⟩ :: ⟨bb, true, .row (bC bl) 5 (0, 0)⟩ :: Ht)) idx.length
  ⟨0, by omega, .of rfl, rfl⟩ ?_
 rintro N fr' H' ⟨j, hj0, hs2, rfl⟩ ih
 refine GC.weak hs2 ?_
 clear hs2
 refine GC.seq ?_
 refine GC.reg ?_
 refine G.v (V.lt rfl rfl) rfl ?_
 refine G.nil ?_
 refine GC.seq ?_
 refine GC.condD rfl (fun h101 => ?_) (fun h101 => ?_)
 ·refine GC.skip ?_
  refine GC.seq ?_
  refine GC.block ?_
  refine GC.seq ?_
  have hql : j < idx.length := by omega
  obtain ⟨y, hy⟩ : ∃ y, idx[j]? = some y := ⟨_, List.getElem?_eq_getElem hql⟩
  refine GC.reg ?_
  refine G.m1 ?_
  refine G.v (V.ia (i := j) Tryd.underlying44 Tryd.sizeOf5 rfl rfl hql) rfl ?_
  refine G.v (V.ld (b := tb) (off := 0 + j * 1) (wf := true) (l := bC (idx ++ z)) (T := 5) (fz := fz) (v := .int .u8 (y.toNat : Int)) Tryd.isAgg5 rfl (.head _) (by rw [nth_eq, Nat.zero_add, Nat.mul_one, bC_app, List.getElem?_append_left (by rw [bC_len]; exact hql)]; simp [bC, Lib.byteCells, hy])) rfl ?_
  refine G.m2 ?_
  refine G.m2 ?_
  refine G.nil ?_
  refine GC.seq ?_
  refine GC.reg ?_
  refine G.m1 ?_
  refine G.v (V.eqI rfl rfl) rfl ?_
  refine G.nil ?_
  refine GC.condD rfl (fun h106 => absurd (by rw [hy, UInt8.toNat_inj.1 (show y.toNat = (47 : UInt8).toNat from (by have h := h106; have e : (47 : UInt8).toNat = 47 := rfl; omega))]) (hjn j)) (fun h106 => ?_)
  refine GC.skip ?_
  refine GC.inBlock ?_
  refine GC.reg ?_
  refine G.v (V.addI (r := ((j + 1 : Nat) : Int)) rfl rfl rfl (by omega) (by omega)) rfl ?_
  refine G.m1 ?_
  refine G.nil ?_
  exact ih (N - 1) _ _ (by omega) ⟨j + 1, by omega, .of rfl, rfl⟩
 refine GC.exit rfl ?_
 refine GC.seq ?_
 refine GC.reg ?_
 refine G.m2 ?_
 refine G.nil ?_
 exact GC.ret1 rfl rfl fun w' hw' => fin bl w' hbl (tk_pre hbt hc0) (hw'.sub ((List.sublist_cons_self _ _).trans (List.sublist_cons_self _ _)))
theorem x59_miss {R : Ending → World → Prop} {w : World} {D : Nat → Prop} {qb bb cp : Nat} {Ht : SH} {fx : Bool} {c0 : List UInt8} {n : T0} {p cu bl : List UInt8} {nb : Nat} {fr : SF}
  (hn : Rd Ht n nb) (hbl : bl.length = cp) (hbt : bl.take cu.length = cu) (_hpa : ∀ x ∈ p, x.toNat < 128) (_hpl : p.length ≤ 100000) (hLp : n.path.length ≤ p.length) (hnL : Lk n) (hc0 : c0 <+: cu) (_hHw : ∀ e ∈ Ht, e.w = true) (hsub : Sub [(0, Pt nb 0), (1, S (p.drop n.path.length)), (2, .slice (some ⟨bb, 0, none⟩) cu.length cp), (4, .bool fx), (8, Pt qb 0), (11, I (n.path.length : Nat)), (12, S p)] fr) {r0 : UInt8}
  (fin : Fin59 R w D bb cp Ht c0 (missX fx (p.drop n.path.length) n.h cu)) :
  GC Tryd.prog ⟨59, Tryd.f59, R, w, D⟩ 606 K59m fr (⟨qb, true, .row (rbR r0) 98 (0, 0)⟩ :: ⟨bb, true, .row (bC bl) 5 (0, 0)⟩ :: Ht) := by
 refine GC.weak hsub ?_
 clear hsub
 have hn0 := hn
 cases hn with
 | @mk path idx wild nt pr h full kids _ bs kv hv Hs hm hs hsm hbl2 hh hk =>
 try simp only [n_path] at *
 try simp only [n_idx] at *
 try simp only [n_kids] at *
 try simp only [n_wild] at *
 try simp only [n_h] at *
 have hil : idx.length ≤ 100000 := hnL.1
 have hkil : kids.length ≤ 100000 := hnL.2.1
 obtain ⟨ad, cap, rfl⟩ := hs.slice
 obtain ⟨ad2, l2, c2, rfl, hnn⟩ := hh.slice
 refine GC.seq ?_
 refine GC.seq ?_
 refine GC.join (fun fr' H' => ∃ t : Bool, (t = true ↔ (fx = true ∧ (p.drop path.length) = [47] ∧ h.isSome = true)) ∧ Sub [(0, Pt nb 0), (1, S (p.drop path.length)), (2, .slice (some ⟨bb, 0, none⟩) cu.length cp), (4, .bool fx), (8, Pt qb 0), (11, I (path.length : Nat)), (12, S p), (302, .bool t)] fr' ∧ H' = (⟨qb, true, .row (rbR r0) 98 (0, 0)⟩ :: ⟨bb, true, .row (bC bl) 5 (0, 0)⟩ :: Ht)) (fun J63 => ?_) ?_
 ·refine GC.reg ?_
  refine G.m1 ?_
  refine G.m1 ?_
  refine G.bc 292 rfl (fun h292 => ?_) (fun h292 => ?_)
  ·refine G.m5 ?_
   refine G.vg rfl rfl (V.eqS rfl rfl) rfl ?_
   refine G.m3 ?_
   refine G.m1 ?_
   refine G.bc 296 rfl (fun h296 => ?_) (fun h296 => ?_)
   ·refine G.m5 ?_
    refine G.vg rfl rfl (V.nc rfl) rfl ?_
    refine G.vg rfl rfl (V.fa F94_6 rfl) rfl ?_
    refine G.vg rfl rfl (V.ld (b := nb) (off := 0 + 6) (wf := true) (l := nodeR path idx wild nt pr (.slice ad kids.length cap) (.slice ad2 l2 c2) full) (T := 94) (fz := (0, 0)) (v := (.slice ad2 l2 c2)) Tryd.isAgg92 rfl (m2 hm) rfl) rfl ?_
    refine G.vg rfl rfl (V.neL Tryd.underlying92 rfl) rfl ?_
    refine G.m3 ?_
    refine G.nil ?_
    exact J63 _ _ ⟨_, ⟨fun e => ⟨h292, of_decide_eq_true h296, by rw [hnn] at e; cases h with | none => cases e | some k => rfl⟩, fun e => by rw [hnn]; cases h with | none => exact absurd e.2.2 (by decide) | some k => rfl⟩, .of rfl, rfl⟩
   ·refine G.s1 ?_
    refine G.s1 ?_
    refine G.s1 ?_
    refine G.s1 ?_
    refine G.s1 ?_
    refine G.m4 ?_
    refine G.nil ?_
    exact J63 _ _ ⟨false, ⟨fun e => (by cases e), fun e => absurd e.2.1 (of_decide_eq_false h296)⟩, .of rfl, rfl⟩
  ·refine G.s1 ?_
   refine G.s1 ?_
   refine G.m4 ?_
   refine G.m1 ?_
   refine G.s1 ?_
   refine G.s1 ?_
   refine G.s1 ?_
   refine G.s1 ?_
   refine G.s1 ?_
   refine G.m4 ?_
   refine G.nil ?_
   exact J63 _ _ ⟨false, ⟨fun e => (by cases e), fun e => by rw [h292] at e; cases e.1⟩, .of rfl, rfl⟩
 rintro fr' H' ⟨t, ht, hs5, rfl⟩
 refine GC.weak hs5 ?_
 clear hs5
 refine GC.cond rfl (fun h302 => ?_) (fun h302 => ?_)
 ·refine GC.seq ?_
  refine GC.reg ?_
  refine G.m1 ?_
  refine G.m2 ?_
  refine G.nil ?_
  unfold missX at fin
  rw [if_pos (ht.1 h302)] at fin
  exact GC.ret1 rfl rfl fun w' hw' => fin bl w' hbl hbt (hw'.sub (List.sublist_cons_self _ _))
 refine GC.skip ?_
 refine GC.seq ?_
 refine GC.reg ?_
 refine G.m2 ?_
 refine G.nil ?_
 unfold missX at fin
 rw [if_neg (fun e => (by have := ht.2 e; rw [h302] at this; cases this))] at fin
 exact GC.ret1 rfl rfl fun w' hw' => fin bl w' hbl (tk_pre hbt hc0) (hw'.sub (List.sublist_cons_self _ _))
theorem x59_nw {R : Ending → World → Prop} {w : World} {D : Nat → Prop} {qb bb cp : Nat} {Ht : SH} {fx : Bool} {c0 : List UInt8} {n : T0} {p cu bl : List UInt8} {rb : UInt8} {nb : Nat} {fr : SF}
  (hn : Rd Ht n nb) (_hbl : bl.length = cp) (_hbt : bl.take cu.length = cu) (hpa : ∀ x ∈ p, x.toNat < 128) (hpl : p.length ≤ 100000) (hLp : n.path.length ≤ p.length) (hnL : Lk n) (_hc0 : c0 <+: cu) (_hHw : ∀ e ∈ Ht, e.w = true) (hsub : Sub [(0, Pt nb 0), (1, S (p.drop n.path.length)), (2, .slice (some ⟨bb, 0, none⟩) cu.length cp), (4, .bool fx), (8, Pt qb 0), (11, I (n.path.length : Nat)), (12, S p)] fr) (hw : n.wild = false) (hq0 : (p.drop n.path.length) ≠ [])
  (gk : rbK n.path rb ≠ 0 → ∀ fr', Sub [(0, Pt nb 0), (1, S (p.drop n.path.length)), (2, .slice (some ⟨bb, 0, none⟩) cu.length cp), (4, .bool fx), (8, Pt qb 0), (11, I (n.path.length : Nat)), (12, S p)] fr' → GC Tryd.prog ⟨59, Tryd.f59, R, w, D⟩ 606 K59k fr' (⟨qb, true, .row (rbR (rbK n.path rb)) 98 (0, 0)⟩ :: ⟨bb, true, .row (bC bl) 5 (0, 0)⟩ :: Ht))
  (gr : rbK n.path rb = 0 → ∀ fr', Sub [(0, Pt nb 0), (1, S (p.drop n.path.length)), (2, .slice (some ⟨bb, 0, none⟩) cu.length cp), (4, .bool fx), (8, Pt qb 0), (11, I (n.path.length : Nat)), (12, S p), (18, .int .i32 ((runeK n.path (p.drop n.path.length)).toNat : Int)), (19, I (0 : Nat)), (22, .int .i32 ((lo (runeK n.path (p.drop n.path.length))).toNat : Int)), (23, .int .u8 ((lo (runeK n.path (p.drop n.path.length))).toNat : Int))] fr' → GC Tryd.prog ⟨59, Tryd.f59, R, w, D⟩ 606 K59c fr' (⟨qb, true, .row (rbR (lo (runeK n.path (p.drop n.path.length)))) 98 (0, 0)⟩ :: ⟨bb, true, .row (bC bl) 5 (0, 0)⟩ :: Ht)) :
  GC Tryd.prog ⟨59, Tryd.f59, R, w, D⟩ 606 K59b fr (⟨qb, true, .row (rbR rb) 98 (0, 0)⟩ :: ⟨bb, true, .row (bC bl) 5 (0, 0)⟩ :: Ht) := by
 refine GC.weak hsub ?_
 clear hsub
 have hn0 := hn
 cases hn with
 | @mk path idx wild nt pr h full kids _ bs kv hv Hs hm hs hsm hbl2 hh hk =>
 try simp only [n_path] at *
 try simp only [n_idx] at *
 try simp only [n_kids] at *
 try simp only [n_wild] at *
 try simp only [n_h] at *
 have hil : idx.length ≤ 100000 := hnL.1
 have hkil : kids.length ≤ 100000 := hnL.2.1
 obtain ⟨ad, cap, rfl⟩ := hs.slice
 obtain ⟨ad2, l2, c2, rfl, hnn⟩ := hh.slice
 refine GC.seq ?_
 refine GC.seq ?_
 refine GC.reg ?_
 refine G.m1 ?_
 refine G.v (V.nc rfl) rfl ?_
 refine G.v (V.fa F94_2 rfl) rfl ?_
 refine G.v (V.ld (b := nb) (off := 0 + 2) (wf := true) (l := nodeR path idx wild nt pr (.slice ad kids.length cap) (.slice ad2 l2 c2) full) (T := 94) (fz := (0, 0)) (v := .bool wild) Tryd.isAgg4 rfl (m2 hm) rfl) rfl ?_
 refine G.v (V.not rfl) rfl ?_
 refine G.nil ?_
 refine GC.cond rfl (fun h154 => ?_) (fun h154 => absurd hw (by simpa using h154))
 refine GC.seq ?_
 refine GC.reg ?_
 refine G.v (V.ldA (b := qb) (off := 0) (s := 4) (wf := true) (l := rbR rb) (T := 98) (fz := (0, 0)) (cs := rbR rb) Tryd.isAgg98 Tryd.sizeOf98 rfl (.head _) rfl rfl) rfl ?_
 refine G.m1 ?_
 refine G.callP (v := .agg (rbR (rbK path rb)).toArray) Tryd.call71 rfl rfl (fun w1 _ => c71_any w1 rb path.length) ?_
 refine G.stA (cs := rbR (rbK path rb)) Tryd.sizeOf98 rfl rfl (rbR_one _) .z rfl ?_
 refine G.nil ?_
 refine GC.turn (H' := (⟨qb, true, .row (rbR (rbK path rb)) 98 (0, 0)⟩ :: ⟨bb, true, .row (bC bl) 5 (0, 0)⟩ :: Ht)) (fun w1 h1 => h1) ?_
 refine GC.seq ?_
 refine GC.seq ?_
 refine GC.reg ?_
 refine G.v (V.iaA (i := 0) Tryd.underlying98 Tryd.sizeOf5 rfl rfl (by decide)) rfl ?_
 refine G.v (V.ld (b := qb) (off := 0 + 0 * 1) (wf := true) (l := rbR (rbK path rb)) (T := 98) (fz := (0, 0)) (v := .int .u8 ((rbK path rb).toNat : Int)) Tryd.isAgg5 rfl (.head _) rfl) rfl ?_
 refine G.v (V.neI rfl rfl) rfl ?_
 refine G.nil ?_
 refine GC.cond rfl (fun h160 => ?_) (fun h160 => ?_)
 ·exact gk (fun e => by rw [e] at h160; exact absurd h160 (by decide)) _ (.of rfl)
 refine GC.seq ?_
 have hrk0 : (rbK path rb) = 0 := UInt8.toNat_inj.1 (by have h := h160; simp at h; have e : (0 : UInt8).toNat = 0 := rfl; omega)
 refine GC.reg ?_
 refine G.m2 ?_
 refine G.nil ?_
 refine GC.seq ?_
 refine GC.reg ?_
 refine G.m2 ?_
 refine G.nil ?_
 refine GC.seq ?_
 refine GC.seq ?_
 refine GC.reg ?_
 refine G.m1 ?_
 refine G.v (V.minI (j := 3) rfl rfl) rfl ?_
 refine G.m2 ?_
 refine G.nil ?_
 refine GC.join (fun fr' H' => Sub [(0, Pt nb 0), (1, S (p.drop path.length)), (2, .slice (some ⟨bb, 0, none⟩) cu.length cp), (4, .bool fx), (8, Pt qb 0), (11, I (path.length : Nat)), (12, S p), (18, .int .i32 ((runeK path (p.drop path.length)).toNat : Int)), (19, I (0 : Nat))] fr' ∧ H' = (⟨qb, true, .row (rbR (rbK path rb)) 98 (0, 0)⟩ :: ⟨bb, true, .row (bC bl) 5 (0, 0)⟩ :: Ht)) (fun JB => ?_) ?_
 ·refine GC.block ?_
  refine GC.loop ?_
  refine GC.seq ?_
  refine GC.seq ?_
  refine GC.reg ?_
  refine G.m1 ?_
  refine G.m1 ?_
  refine G.v (V.lt rfl rfl) rfl ?_
  refine G.nil ?_
  refine GC.condD rfl (fun h194 => ?_) (fun h194 => ?_)
  ·refine GC.skip ?_
   refine GC.seq ?_
   refine GC.block ?_
   refine GC.seq ?_
   have hL0 : path.length ≠ 0 := by omega
   obtain ⟨d, q1, hdq⟩ := List.exists_cons_of_ne_nil hq0
   have hd : p[path.length]? = some d := by have := congrArg (·[0]?) hdq; simpa [List.getElem?_drop] using this
   have hdl : d.toNat < 128 := hpa d (List.mem_of_getElem? hd)
   refine GC.reg ?_
   refine G.m1 ?_
   refine G.m1 ?_
   refine G.v (V.subI (r := ((path.length : Nat) : Int)) rfl rfl (by omega) (by omega) (by omega)) rfl ?_
   refine G.m2 ?_
   refine G.nil ?_
   refine GC.seq ?_
   refine GC.reg ?_
   refine G.m1 ?_
   refine G.m1 ?_
   refine G.v (V.idx (i := path.length) (b := d) Tryd.underlying9 rfl rfl hd) rfl ?_
   refine G.callP (v := .bool true) Tryd.call72 rfl rfl (fun w1 _ => f72_low w1 d hdl) ?_
   refine G.nil ?_
   refine GC.condT rfl ?_
   refine GC.seq ?_
   refine GC.reg ?_
   refine G.m1 ?_
   refine G.m1 ?_
   refine G.v (V.slL (i := path.length) Tryd.underlying9 rfl rfl hLp) rfl ?_
   refine G.callP (v := .tuple #[.int .i32 (d.toNat : Int), I 1]) Tryd.call73 rfl rfl (fun w1 _ => f73_low w1 _ d (by rw [hdq]; rfl) hdl) ?_
   refine G.m1 ?_
   refine G.v (V.ex rfl rfl) rfl ?_
   refine G.v (V.ex rfl rfl) rfl ?_
   refine G.m2 ?_
   refine G.nil ?_
   refine GC.exit rfl ?_
   have hru : d = (runeK path (p.drop path.length)) := by
    unfold runeK
    rw [if_neg hL0, hdq]; rfl
   exact JB _ _ ⟨by rw [← hru]; exact .of rfl, rfl⟩
  refine GC.exit rfl ?_
  have hru : (runeK path (p.drop path.length)) = 0 := if_pos (by omega)
  exact JB _ _ ⟨by rw [hru]; exact .of rfl, rfl⟩
 rintro fr' H' ⟨hsb, rfl⟩
 refine GC.weak hsb ?_
 clear hsb
 have hrl : (runeK path (p.drop path.length)).toNat < 128 := runeK_low fun x hx => hpa x (List.mem_of_mem_drop hx)
 refine GC.seq ?_
 refine GC.reg ?_
 refine G.m1 ?_
 refine G.callP (v := .int .i32 ((lo (runeK path (p.drop path.length))).toNat : Int)) Tryd.call74 rfl rfl (fun w1 _ => f74_low w1 _ hrl) ?_
 refine G.m2 ?_
 refine G.nil ?_
 refine GC.seq ?_
 refine GC.reg ?_
 refine G.v (V.slAr Tryd.underlying98 Tryd.sizeOf5 rfl) rfl ?_
 refine G.m1 ?_
 refine G.callL (H1 := [⟨qb, true, .row (rbR (rbK path rb)) 98 (0, 0)⟩]) (Hk := ⟨bb, true, .row (bC bl) 5 (0, 0)⟩ :: Ht) (fun v H1' => v = I 1 ∧ H1' = [⟨qb, true, .row (rbR (lo (runeK path (p.drop path.length)))) 98 (0, 0)⟩]) (.of_eq rfl) (fun e0 he0 => by rw [List.mem_singleton.1 he0]) Tryd.call75 rfl rfl (fun w1 hw1 _ => ?_) ?_
 ·exact (c75_any w1 _ (lo_low hrl) hw1).mono fun e w' ⟨h1, h2⟩ => ⟨_, _, h1, fun e0 he0 => by rw [List.mem_singleton.1 he0], h2, rfl, rfl⟩
 rintro v H1' ⟨rfl, rfl⟩
 refine G.nil ?_
 refine GC.turn (H' := (⟨qb, true, .row (rbR (lo (runeK path (p.drop path.length)))) 98 (0, 0)⟩ :: ⟨bb, true, .row (bC bl) 5 (0, 0)⟩ :: Ht)) (fun w1 h1 => h1) ?_
 refine GC.seq ?_
 refine GC.reg ?_
 refine G.v (V.ldA (b := qb) (off := 0) (s := 4) (wf := true) (l := rbR (lo (runeK path (p.drop path.length)))) (T := 98) (fz := (0, 0)) (cs := rbR (lo (runeK path (p.drop path.length)))) Tryd.isAgg98 Tryd.sizeOf98 rfl (.head _) rfl rfl) rfl ?_
 refine G.m1 ?_
 refine G.callP (v := .agg (rbR (lo (runeK path (p.drop path.length)))).toArray) Tryd.call71 rfl rfl (fun w1 _ => c71_any w1 (lo (runeK path (p.drop path.length))) 0) ?_
 refine G.stA (cs := rbR (lo (runeK path (p.drop path.length)))) Tryd.sizeOf98 rfl rfl (rbR_one _) .z rfl ?_
 refine G.nil ?_
 refine GC.turn (H' := (⟨qb, true, .row (rbR (lo (runeK path (p.drop path.length)))) 98 (0, 0)⟩ :: ⟨bb, true, .row (bC bl) 5 (0, 0)⟩ :: Ht)) (fun w1 h1 => h1) ?_
 refine GC.seq ?_
 refine GC.reg ?_
 refine G.v (V.iaA (i := 0) Tryd.underlying98 Tryd.sizeOf5 rfl rfl (by decide)) rfl ?_
 refine G.v (V.ld (b := qb) (off := 0 + 0 * 1) (wf := true) (l := rbR (lo (runeK path (p.drop path.length)))) (T := 98) (fz := (0, 0)) (v := .int .u8 ((lo (runeK path (p.drop path.length))).toNat : Int)) Tryd.isAgg5 rfl (.head _) rfl) rfl ?_
 refine G.m2 ?_
 refine G.nil ?_
 exact gr hrk0 _ (.of rfl)
end Go.Proofs
