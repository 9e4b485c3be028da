/- Lemmas of the walk and plain facts (GtG1 .. HuN1). -/
import Derived.Test.YtdjnbehdiohggaaDoorP11
import Derived.Test.YtdjnbehdiohggaaDoorP01
import Derived.Laws.StructEq
/- getValue's loop as a machine, with the room that the engine gives it. No program in sight. -/
namespace Gt
open Gs Tr
/-- the last skipped one: none: not told; some none: there is none -/
def popC (path : List UInt8) (n : Nat) : List Sk → Option (Option (Sk × List Sk))
  | [] => some none
  | s :: l => if path <:+ s.path ∧ s.cnt ≤ n then some (some (s, l)) else none
/-- getValue's loop; sk: the skipped ones, the last one first; cP, cS: the room for parameters and for skipped ones -/
def getC (u : List UInt8 → List UInt8) (cP cS : Nat) : Nat → T0 → List UInt8 → List (List UInt8 × List UInt8) → List Sk → Option Res
  | 0, _, _, _, _ => none
  | f + 1, n, path, ps, sk =>
    if n.path.length < path.length ∧ path.take n.path.length = n.path then
      match idxOf ((path.drop n.path.length).headD 0) n.idx with
      | some i =>
        match n.kids[i]? with
        | some k => if n.wild then (if sk.length < cS then getC u cP cS f k (path.drop n.path.length) ps (⟨path, noIdx n, ps.length⟩ :: sk) else none) else getC u cP cS f k (path.drop n.path.length) ps sk
        | none => none
      | none =>
        if n.wild = false then
          match (if path.drop n.path.length ≠ [47] then popC (path.drop n.path.length) ps.length sk else some none) with
          | some (some (s, sk')) => getC u cP cS f s.node s.path (ps.take s.cnt) sk'
          | some none => some ⟨none, ps, decide (path.drop n.path.length = [47]) && n.h.isSome, []⟩
          | none => none
        else match n.kids[n.kids.length - 1]? with
        | none => none
        | some k =>
          if ¬ ps.length < cP ∨ k.path.length < 2 then none
          else if k.nt = 2 then
            if ((path.drop n.path.length).takeWhile (· ≠ 47)).length < (path.drop n.path.length).length then
              match k.kids with
              | c :: _ => getC u cP cS f c ((path.drop n.path.length).drop ((path.drop n.path.length).takeWhile (· ≠ 47)).length) (ps ++ [(k.path.drop 1, u ((path.drop n.path.length).takeWhile (· ≠ 47)))]) sk
              | [] => some ⟨none, ps ++ [(k.path.drop 1, u ((path.drop n.path.length).takeWhile (· ≠ 47)))], decide ((path.drop n.path.length).length = ((path.drop n.path.length).takeWhile (· ≠ 47)).length + 1), []⟩
            else if k.h.isSome then some ⟨k.h, ps ++ [(k.path.drop 1, u ((path.drop n.path.length).takeWhile (· ≠ 47)))], false, k.full⟩
            else match k.kids with
            | [c] => some ⟨none, ps ++ [(k.path.drop 1, u ((path.drop n.path.length).takeWhile (· ≠ 47)))], (decide (c.path = [47]) && c.h.isSome) || (decide (c.path = []) && decide (c.idx = [47])), []⟩
            | _ => some ⟨none, ps ++ [(k.path.drop 1, u ((path.drop n.path.length).takeWhile (· ≠ 47)))], false, []⟩
          else if k.nt = 3 then some ⟨k.h, ps ++ [(k.path.drop 2, u (path.drop n.path.length))], false, k.full⟩
          else none
    else if path = n.path then
      match (if n.h.isNone ∧ path ≠ [47] then popC path ps.length sk else some none) with
      | some (some (s, sk')) => getC u cP cS f s.node s.path (ps.take s.cnt) sk'
      | none => none
      | some none =>
        if n.h.isSome then some ⟨n.h, ps, false, n.full⟩
        else if path = [47] ∧ n.wild = true ∧ n.nt ≠ 1 then some ⟨none, ps, true, []⟩
        else if path = [47] ∧ n.nt = 0 then some ⟨none, ps, true, []⟩
        else match idxOf 47 n.idx with
        | some i =>
          match n.kids[i]? with
          | some k => (if k.nt = 3 ∧ k.kids = [] then none else some ⟨none, ps, (decide (k.path.length = 1) && k.h.isSome) || (decide (k.nt = 3) && ((k.kids.head?).map (·.h.isSome)).getD false), []⟩)
          | none => none
        | none => some ⟨none, ps, false, []⟩
    else
      match (if (decide (path = [47]) || (decide (n.path = path ++ [47]) && n.h.isSome)) = false then popC path ps.length sk else some none) with
      | some (some (s, sk')) => getC u cP cS f s.node s.path (ps.take s.cnt) sk'
      | some none => some ⟨none, ps, decide (path = [47]) || (decide (n.path = path ++ [47]) && n.h.isSome), []⟩
      | none => none
end Gt

/- HasPrefix, HasSuffix, zzQueryUnescape. Printed by wip/mk_gu20.py. -/
set_option maxRecDepth 20000
namespace Go.Proofs
open Go Bw
open Gt
theorem f69_any (w : World) (s p : List UInt8) (_hs : s.length ≤ 1000000000000) (_hp : p.length ≤ 1000000000000) : Calls Tryd.prog 34 #[S s, S p] w fun e w' => e = .returned (.bool (decide (p <+: s))) ∧ HF w (fun _ => False) [] w' := by
 refine enter (fun _ => False) [] Tryd.func34 rfl Tryd.ntmps34 rfl rfl (HF.start w _) fun c hc => ?_
 subst hc
 refine GC.seq ?_
 refine GC.reg ?_
 refine G.m2 ?_
 refine G.nil ?_
 refine GC.seq ?_
 refine GC.join (fun fr' H' => Sub [(4, .bool (decide (p <+: s)))] fr' ∧ H' = []) (fun J1 => ?_) ?_
 ·refine GC.reg ?_
  refine G.m1 ?_
  refine G.v (V.lenS Tryd.underlying9 rfl) rfl ?_
  refine G.m1 ?_
  refine G.v (V.lenS Tryd.underlying9 rfl) rfl ?_
  refine G.v (V.ge rfl rfl) rfl ?_
  refine G.m1 ?_
  refine G.bc 10 rfl (fun h10 => ?_) (fun h10 => ?_)
  ·refine G.m5 ?_
   refine G.m5 ?_
   refine G.vg rfl rfl (V.lenS Tryd.underlying9 rfl) rfl ?_
   have hle : p.length ≤ s.length := by have := of_decide_eq_true h10; omega
   refine G.vg rfl rfl (V.slH (j := p.length) Tryd.underlying9 rfl rfl hle) rfl ?_
   refine G.m5 ?_
   refine G.vg rfl rfl (V.eqS rfl rfl) rfl ?_
   refine G.m3 ?_
   refine G.m2 ?_
   refine G.nil ?_
   refine J1 _ _ ⟨?_, rfl⟩
   have e : decide (s.take p.length = p) = decide (p <+: s) := decide_eq_decide.2 ⟨fun h => by rw [List.prefix_iff_eq_take]; exact h.symm, fun h => (List.prefix_iff_eq_take.1 h).symm⟩
   rw [e]
   exact .cons rfl .nil
  ·refine G.s1 ?_
   refine G.s1 ?_
   refine G.s1 ?_
   refine G.s1 ?_
   refine G.s1 ?_
   refine G.s1 ?_
   refine G.m4 ?_
   refine G.m2 ?_
   refine G.nil ?_
   refine J1 _ _ ⟨?_, rfl⟩
   have e : decide (p <+: s) = false := decide_eq_false fun h => by have := h.length_le; have h2 := of_decide_eq_false h10; omega
   rw [e]
   exact .cons rfl .nil
 rintro fr' H' ⟨hs1, rfl⟩
 refine GC.weak hs1 ?_
 clear hs1
 exact GC.ret1 rfl rfl fun w' hw' => ⟨rfl, hw'⟩
theorem f70_any (w : World) (s p : List UInt8) (hs : s.length ≤ 1000000000000) (hp : p.length ≤ 1000000000000) : Calls Tryd.prog 44 #[S s, S p] w fun e w' => e = .returned (.bool (decide (p <:+ s))) ∧ HF w (fun _ => False) [] w' := by
 refine enter (fun _ => False) [] Tryd.func44 rfl Tryd.ntmps44 rfl rfl (HF.start w _) fun c hc => ?_
 subst hc
 refine GC.seq ?_
 refine GC.reg ?_
 refine G.m2 ?_
 refine G.nil ?_
 refine GC.seq ?_
 refine GC.join (fun fr' H' => Sub [(4, .bool (decide (p <:+ s)))] fr' ∧ H' = []) (fun J1 => ?_) ?_
 ·refine GC.reg ?_
  refine G.m1 ?_
  refine G.v (V.lenS Tryd.underlying9 rfl) rfl ?_
  refine G.m1 ?_
  refine G.v (V.lenS Tryd.underlying9 rfl) rfl ?_
  refine G.v (V.ge rfl rfl) rfl ?_
  refine G.m1 ?_
  refine G.bc 10 rfl (fun h10 => ?_) (fun h10 => ?_)
  ·refine G.m5 ?_
   refine G.m5 ?_
   refine G.vg rfl rfl (V.lenS Tryd.underlying9 rfl) rfl ?_
   refine G.m5 ?_
   refine G.vg rfl rfl (V.lenS Tryd.underlying9 rfl) rfl ?_
   have hle : p.length ≤ s.length := by have := of_decide_eq_true h10; omega
   refine G.vg rfl rfl (V.subI (r := ((s.length - p.length : Nat) : Int)) rfl rfl (by omega) (by omega) (by omega)) rfl ?_
   refine G.vg rfl rfl (V.slL (i := s.length - p.length) Tryd.underlying9 rfl rfl (by omega)) rfl ?_
   refine G.m5 ?_
   refine G.vg rfl rfl (V.eqS rfl rfl) rfl ?_
   refine G.m3 ?_
   refine G.m2 ?_
   refine G.nil ?_
   refine J1 _ _ ⟨?_, rfl⟩
   have e : decide (s.drop (s.length - p.length) = p) = decide (p <:+ s) := decide_eq_decide.2 ⟨fun h => by rw [List.suffix_iff_eq_drop]; exact h.symm, fun h => (List.suffix_iff_eq_drop.1 h).symm⟩
   rw [e]
   exact .cons rfl .nil
  ·refine G.s1 ?_
   refine G.s1 ?_
   refine G.s1 ?_
   refine G.s1 ?_
   refine G.s1 ?_
   refine G.s1 ?_
   refine G.s1 ?_
   refine G.s1 ?_
   refine G.s1 ?_
   refine G.m4 ?_
   refine G.m2 ?_
   refine G.nil ?_
   refine J1 _ _ ⟨?_, rfl⟩
   have e : decide (p <:+ s) = false := decide_eq_false fun h => by have := h.length_le; have h2 := of_decide_eq_false h10; omega
   rw [e]
   exact .cons rfl .nil
 rintro fr' H' ⟨hs1, rfl⟩
 refine GC.weak hs1 ?_
 clear hs1
 exact GC.ret1 rfl rfl fun w' hw' => ⟨rfl, hw'⟩
theorem f46_any (w : World) (s p : List UInt8) (hs : s.length ≤ 1000000000000) (hp : p.length ≤ 1000000000000) : Calls Tryd.prog 19 #[S s, S p] w fun e w' => e = .returned (.bool (decide (p <+: s))) ∧ HF w (fun _ => False) [] w' := by
 refine enter (fun _ => False) [] Tryd.func19 rfl Tryd.ntmps19 rfl rfl (HF.start w _) fun c hc => ?_
 subst hc
 refine GC.seq ?_
 refine GC.reg ?_
 refine G.m2 ?_
 refine G.nil ?_
 refine GC.seq ?_
 refine GC.reg ?_
 refine G.m1 ?_
 refine G.m1 ?_
 refine G.callP Tryd.call34 rfl rfl (fun w1 hw1 => f69_any w1 s p hs hp) ?_
 refine G.m2 ?_
 refine G.nil ?_
 exact GC.ret1 rfl rfl fun w' hw' => ⟨rfl, hw'⟩
theorem f50_any (w : World) (s p : List UInt8) (hs : s.length ≤ 1000000000000) (hp : p.length ≤ 1000000000000) : Calls Tryd.prog 30 #[S s, S p] w fun e w' => e = .returned (.bool (decide (p <:+ s))) ∧ HF w (fun _ => False) [] w' := by
 refine enter (fun _ => False) [] Tryd.func30 rfl Tryd.ntmps30 rfl rfl (HF.start w _) fun c hc => ?_
 subst hc
 refine GC.seq ?_
 refine GC.reg ?_
 refine G.m2 ?_
 refine G.nil ?_
 refine GC.seq ?_
 refine GC.reg ?_
 refine G.m1 ?_
 refine G.m1 ?_
 refine G.callP Tryd.call44 rfl rfl (fun w1 hw1 => f70_any w1 s p hs hp) ?_
 refine G.m2 ?_
 refine G.nil ?_
 exact GC.ret1 rfl rfl fun w' hw' => ⟨rfl, hw'⟩
end Go.Proofs

/- More rules: an empty row, an append of nothing, four results. No program in sight. -/
set_option maxRecDepth 20000
namespace Bw
open Go Go.Proofs
variable {P : Program} {c : Cx} {n : Nat} {k : List Item} {fr : SF} {H : SH} {ops : Array Oper} {rest : List Oper} {ty t : TypeId} {pos : String} {aft : Array Edge}
/-- []T{} -/
theorem G.bs0 {T e s d : Nat} {z : Value} (hT : P.underlying T = some (.slice e)) (hs : ∀ w, (Go.sizeOf e).run P w = .ok s w) (_hz : ∀ w, (zeroValue e).run P w = .ok z w) (hd : Nat.blt d n = true)
  (hk : ∀ b, c.w0.heap.size ≤ b → G P c n k ops rest ((d, .slice (some ⟨b, 0, none⟩) 0 0) :: fr) (⟨b, true, .row [] e (0, 0)⟩ :: H)) :
  G P c n k ops (⟨some d, .buildSlice T 0 #[], ty, pos, aft, none⟩ :: rest) fr H := by
 intro hf a w ha hw
 refine wpList_step fun K hK => ?_
 have hex : (execOp a.eval ⟨some d, .buildSlice T 0 #[], ty, pos, aft, none⟩).run P w = .ok (.value (.slice (some ⟨w.heap.size, 0, none⟩) 0 0)) { w with heap := w.heap.push (Blk.row [] e (0, 0)).den } := by
  have h0 : Array.range 0 = #[] := rfl
  simp [execOp, Instr.buildSlice, underlying, hT, hs, Instr.fill, newRow, Blk.den, h0]
 simp only [Region.wanted, if_true, Oper.wp, hex, Oper.upon]
 exact hK _ _ (hk w.heap.size hw.size hf _ _ (ha.put hd _) (hw.push (.row [] e (0, 0))))
/-- append(xs, ys...) where ys is empty -/
theorem G.app0 {T e : TypeId} {i : TypeInfo} {z : Value} {x y : Operand} {d n0 cap m2 : Nat} {ad ad2 : Option Addr} (hT : P.underlying T = some (.slice e)) (hi : P.info? e = some i) (hz : i.zero = some z)
  (hx : ev fr x = some (.slice ad n0 cap)) (hy : ev fr y = some (.slice ad2 0 m2)) (hle : n0 ≤ cap) (_h63 : n0 ≤ 9223372036854775807) (hd : Nat.blt d n = true)
  (hk : G P c n k ops rest ((d, .slice ad n0 cap) :: fr) H) :
  G P c n k ops (⟨some d, .call ⟨.builtin .append, #[x, y], #[T, T]⟩, ty, pos, aft, none⟩ :: rest) fr H := by
 intro hf a w ha hw
 refine wpList_step fun K hK => ?_
 have hr : (Builtin.append_ #[T, T] ty #[.slice ad n0 cap, .slice ad2 0 m2]).run P w = .ok (.slice ad n0 cap) w := by
  have hf : (Builtin.firstCells i.size 0 (.slice ad2 0 m2)).run P w = .ok #[] w := by
   cases ad2 with
   | none => exact run_firstCells_none (P := P) w _ _ _ _
   | some b => exact run_firstCells_some (P := P) w i.size 0 b 0 m2 [] (by simp) (fun j v hj => by simp at hj)
  cases ad <;> simp [Builtin.append_, run_underlying hT, Go.sizeOf, typeInfo, zeroValue, hi, hz, Builtin.lenOf, hle, hf, storeCells]
 have hex : (execOp a.eval ⟨some d, .call ⟨.builtin .append, #[x, y], #[T, T]⟩, ty, pos, aft, none⟩).run P w = .ok (.value (.slice ad n0 cap)) w := by
  simp [execOp, resolve, invoke, builtin, ha.eval hx, ha.eval hy, hr]
 simp only [Region.wanted, if_true, Oper.wp, hex, Oper.upon]
 exact hK _ _ (hk hf _ _ (ha.put hd _) hw)
theorem BS.two {T e : Nat} {z a b : Value} (hT : P.underlying T = some (.slice e)) (hs : ∀ w, (Go.sizeOf e).run P w = .ok 2 w) (hz : ∀ w, (zeroValue e).run P w = .ok z w) : BS P T e (.agg #[a, b]) [a, b] := by
 intro w
 have h1 : Array.range 2 = #[0, 1] := rfl
 simp [Instr.buildSlice, underlying, hT, hs, hz, Instr.fill, newRow, Value.cells, h1]
theorem BS.four {T e : Nat} {z a b c d : Value} (hT : P.underlying T = some (.slice e)) (hs : ∀ w, (Go.sizeOf e).run P w = .ok 4 w) (hz : ∀ w, (zeroValue e).run P w = .ok z w) : BS P T e (.agg #[a, b, c, d]) [a, b, c, d] := by
 intro w
 have h1 : Array.range 4 = #[0, 1, 2, 3] := rfl
 simp [Instr.buildSlice, underlying, hT, hs, hz, Instr.fill, newRow, Value.cells, h1]
end Bw

/- Rules and facts that were proved at the second seat. -/
set_option maxRecDepth 20000
namespace Go.Proofs
open Go Bw Gt
/-- parameters, their cells -/
def flatP : List (List UInt8 × List UInt8) → List Value
 | [] => []
 | (k, v) :: l => S k :: S v :: flatP l
theorem cells2 {w : World} {b o : Nat} {x y : Value} (h1 : w.cell? ⟨b, o, none⟩ = some x) (h2 : w.cell? ⟨b, o + 1, none⟩ = some y) : ∀ (j : Nat) v, [x, y][j]? = some v → w.cell? ⟨b, o + j, none⟩ = some v := fun j v hj => by
 match j, hj with
 | 0, hj => simp at hj; subst hj; exact h1
 | 1, hj => simp at hj; subst hj; exact h2
 | j + 2, hj => simp at hj
theorem takeW {e : List UInt8} (h : (47 : UInt8) ∉ e) : e.takeWhile (· ≠ 47) = e := by
 have := List.takeWhile_append_of_pos (p := fun x : UInt8 => decide (x ≠ 47)) (l₁ := e) (l₂ := []) (fun x hx => decide_eq_true (fun h1 => h (h1 ▸ hx)))
 simpa using this
/-- texts in a row that is known -/
theorem Txts.row {w0 w : World} {D : Nat → Prop} {H : SH} (hw : HF w0 D H w) {b cp : Nat} {l : List (List UInt8)} {e : TypeId} {fz : Nat × Nat} {wf : Bool} {z : List Value} (hm : (⟨b, wf, .row (l.map S ++ z) e fz⟩ : Ent) ∈ H) : Txts w (.slice (some ⟨b, 0, none⟩) l.length cp) l :=
 ⟨_, cp, rfl, fun j p hj => ⟨b, 0, rfl, cell_row hw hm (by
  have hl := (List.getElem?_eq_some_iff.1 hj).1
  rw [nth_eq, Nat.zero_add, List.getElem?_append_left (by simpa using hl), List.getElem?_map, hj]; rfl)⟩⟩
theorem eqIn9d (d : Nat) (a c : List UInt8) (w : World) : (Op.equalIn (d + 1) 9 (S a) (S c)).run Tryd.prog w = .ok (decide (a = c)) w := by
 simp [Op.equalIn, underlying, Tryd.underlying9]
 rw [Bool.eq_iff_iff, decide_eq_true_iff]
 show (a.toArray == c.toArray) = true ↔ a = c
 simp
theorem eqIn9 (a c : List UInt8) (w : World) : (Op.equalIn 9999 9 (S a) (S c)).run Tryd.prog w = .ok (decide (a = c)) w := eqIn9d 9998 a c w
end Go.Proofs

/- getC and more fuel. No program in sight. -/
namespace Gt
open Gs Tr
end Gt

/- Routes as parts, and what is asked of them. No program in sight. -/
namespace Gt
open Gs Tr
/-- a proposition as a bool -/
noncomputable def dec (p : Prop) : Bool := @decide p (Classical.propDecidable p)
theorem dec_true {p : Prop} : dec p = true ↔ p := by unfold dec; exact @decide_eq_true_iff p (Classical.propDecidable p)
theorem dec_false {p : Prop} : dec p = false ↔ ¬ p := by
  rw [← Bool.not_eq_true, dec_true]
theorem dec_t {p : Prop} (h : p) : true = dec p := (dec_true.2 h).symm
theorem dec_f {p : Prop} (h : ¬ p) : false = dec p := (dec_false.2 h).symm
theorem dec_d {p q : Prop} [Decidable q] (h : q ↔ p) : decide q = dec p := by
  by_cases hq : q
  · rw [decide_eq_true hq, dec_true.2 (h.1 hq)]
  · rw [decide_eq_false hq, dec_false.2 (fun hp => hq (h.2 hp))]
theorem dec_n {p q : Prop} [Decidable q] (h : ¬ q ↔ p) : (!decide q) = dec p := by
  by_cases hq : q
  · rw [decide_eq_true hq]; exact dec_f (fun hp => h.2 hp hq)
  · rw [decide_eq_false hq]; exact dec_t (h.1 hq)
/-- a part of a route: its kind, its name or text -/
structure Prt where
  k : UInt8
  nm : List UInt8
/-- a token: its kind, its byte, its name -/
structure Tk where
  k : UInt8
  c : UInt8
  nm : List UInt8
def plainN (c : UInt8) : Prop := c.toNat ≠ 58 ∧ c.toNat ≠ 42 ∧ c.toNat ≠ 92
def wordc (c : UInt8) : Prop := c.toNat = 95 ∨ (48 ≤ c.toNat ∧ c.toNat ≤ 57) ∨ (97 ≤ c.toNat ∧ c.toNat ≤ 122) ∨ (65 ≤ c.toNat ∧ c.toNat ≤ 90)
def wordN (s : List UInt8) : Prop := (∀ c ∈ s, wordc c) ∧ s ≠ [] ∧ s.length ≤ 20
/-- two slashes side by side -/
def Dbl (s : List UInt8) : Prop := ∃ i : Nat, s[i]? = some 47 ∧ s[i + 1]? = some 47
def Fits6 (p : Prt) : Prop := p.nm.length ≤ 2147483647
def Fits5 (l : List Prt) : Prop := l.length ≤ 2147483647 ∧ ∀ p ∈ l, Fits6 p
def Fits4 (l : List (List Prt)) : Prop := l.length ≤ 2147483647 ∧ ∀ r ∈ l, Fits5 r
/-- a part within a route -/
def OkP (l : List Prt) (i : Nat) (p : Prt) : Prop :=
  (p.k.toNat = 0 ↔ i % 2 = 0) ∧ p.k.toNat ≤ 2 ∧ (p.k.toNat = 2 → i + 1 = l.length) ∧
  (p.k.toNat = 0 → p.nm ≠ [] ∧ p.nm.length ≤ 100 ∧ ¬ Dbl p.nm ∧ (0 < i → p.nm.head? = some 47) ∧ ∀ c ∈ p.nm, plainN c) ∧
  (p.k.toNat ≠ 0 → wordN p.nm ∧ (∀ q, l[i - 1]? = some q → [47] <:+ q.nm) ∧ ∀ q ∈ l.take i, q.k.toNat ≠ 0 → q.nm ≠ p.nm)
def Clean (l : List Prt) : Prop := l ≠ [] ∧ l.length ≤ 12 ∧ (∀ p, l[0]? = some p → p.k.toNat = 0 ∧ [47] <+: p.nm) ∧ ∀ (i : Nat) p, l[i]? = some p → OkP l i p
def tkP (p : Prt) : List Tk := if p.k.toNat = 0 then p.nm.map fun c => ⟨0, c, []⟩ else [⟨p.k, 0, p.nm⟩]
def tks (l : List Prt) : List Tk := l.flatMap tkP
/-- they may stand in one tree -/
def ApartN : List Tk → List Tk → Prop
  | [], [] => False
  | [], y :: _ => y.k.toNat ≠ 2
  | x :: _, [] => x.k.toNat ≠ 2
  | x :: s, y :: r => (x = y ∧ ApartN s r) ∨ (x ≠ y ∧ x.k.toNat ≠ 2 ∧ y.k.toNat ≠ 2 ∧ ¬ (x.k.toNat = 1 ∧ y.k.toNat = 1))
def TableN (l : List (List Prt)) : Prop := ∀ (i : Nat) a, l[i]? = some a → Clean a ∧ ∀ b ∈ l.take i, ApartN (tks a) (tks b)
def FitsN (l : List (List Prt)) (p : List UInt8) : Prop := l.length ≤ 30 ∧ TableN l ∧ [47] <+: p ∧ ¬ Dbl p ∧ p.length ≤ 300
def rtP (p : Prt) : List UInt8 := (if p.k.toNat = 1 then [58] else if p.k.toNat = 2 then [42] else []) ++ p.nm
def rtT (l : List Prt) : List UInt8 := l.flatMap rtP
end Gt

/- Small questions on routes. Printed by wip/mk_gn1.py. -/
set_option maxRecDepth 20000
namespace Go.Proofs
open Go Bw
open Gt
/-- parts in memory -/
def Prts (w : World) (sv : Value) (l : List Prt) : Prop := ∃ ad cp, sv = .slice ad l.length cp ∧ l.length ≤ cp ∧ ∀ (j : Nat) p, l[j]? = some p → ∃ b o, ad = some ⟨b, o, none⟩ ∧ w.cell? ⟨b, o + j * 2, none⟩ = some (.int .u8 (p.k.toNat : Int)) ∧ w.cell? ⟨b, o + j * 2 + 1, none⟩ = some (S p.nm)
def Tbl (w : World) (sv : Value) (l : List (List Prt)) : Prop := ∃ ad cp, sv = .slice ad l.length cp ∧ l.length ≤ cp ∧ ∀ (j : Nat) r, l[j]? = some r → ∃ b o v, ad = some ⟨b, o, none⟩ ∧ w.cell? ⟨b, o + j, none⟩ = some v ∧ Prts w v r
theorem Prts.old {w w1 : World} {sv : Value} {l : List Prt} {H : SH} (h : Prts w sv l) (hw : HF w (fun _ => False) H w1) : Prts w1 sv l := by
 obtain ⟨ad, cp, rfl, hl, hc⟩ := h
 refine ⟨ad, cp, rfl, hl, fun j p hj => ?_⟩
 obtain ⟨b, o, e, h1, h2⟩ := hc j p hj
 exact ⟨b, o, e, hw.cellOld h1 id, hw.cellOld h2 id⟩
theorem Tbl.old {w w1 : World} {sv : Value} {l : List (List Prt)} {H : SH} (h : Tbl w sv l) (hw : HF w (fun _ => False) H w1) : Tbl w1 sv l := by
 obtain ⟨ad, cp, rfl, hl, hc⟩ := h
 refine ⟨ad, cp, rfl, hl, fun j p hj => ?_⟩
 obtain ⟨b, o, v, e, h1, h2⟩ := hc j p hj
 exact ⟨b, o, v, e, hw.cellOld h1 id, h2.old hw⟩
/-- a part as a value -/
def prV (p : Prt) : List Value := [.int .u8 (p.k.toNat : Int), S p.nm]
theorem f48_any (w : World) (c : UInt8) : Calls Tryd.prog 45 #[.int .u8 (c.toNat : Int)] w fun e w' => e = .returned (.bool (dec (plainN c))) ∧ HF w (fun _ => False) [] w' := by
 refine enter (fun _ => False) [] Tryd.func45 rfl Tryd.ntmps45 rfl rfl (HF.start w _) fun c hc => ?_
 subst hc
 refine GC.seq ?_
 refine GC.reg ?_
 refine G.m2 ?_
 refine G.nil ?_
 refine GC.seq ?_
 refine GC.reg ?_
 refine G.m1 ?_
 refine G.v (V.neI rfl rfl) rfl ?_
 refine G.m1 ?_
 refine G.bc 5 rfl (fun h5 => ?_) (fun h5 => ?_)
 ·refine G.m5 ?_
  refine G.vg rfl rfl (V.neI rfl rfl) rfl ?_
  refine G.m3 ?_
  refine G.m1 ?_
  refine G.bc 9 rfl (fun h9 => ?_) (fun h9 => ?_)
  ·refine G.m5 ?_
   refine G.vg rfl rfl (V.neI rfl rfl) rfl ?_
   refine G.m3 ?_
   refine G.m2 ?_
   refine G.nil ?_
   refine GC.ret1 rfl rfl fun w' hw' => ⟨?_, hw'⟩
   refine congrArg (fun b => Ending.returned (Value.bool b)) ?_
   simp only [decide_eq_false_iff_not, Bool.not_eq_true'] at *
   unfold plainN
   first | exact dec_n (by omega) | exact dec_d (by omega) | exact dec_f (by omega) | exact dec_t (by omega)
  ·refine G.s1 ?_
   refine G.s1 ?_
   refine G.m4 ?_
   refine G.m2 ?_
   refine G.nil ?_
   refine GC.ret1 rfl rfl fun w' hw' => ⟨?_, hw'⟩
   refine congrArg (fun b => Ending.returned (Value.bool b)) ?_
   simp only [decide_eq_true_eq, decide_eq_false_iff_not, Bool.not_eq_true', Bool.not_eq_false'] at *
   unfold plainN
   first | exact dec_n (by omega) | exact dec_d (by omega) | exact dec_f (by omega) | exact dec_t (by omega)
 ·refine G.s1 ?_
  refine G.s1 ?_
  refine G.m4 ?_
  refine G.m1 ?_
  refine G.s1 ?_
  refine G.s1 ?_
  refine G.m4 ?_
  refine G.m2 ?_
  refine G.nil ?_
  refine GC.ret1 rfl rfl fun w' hw' => ⟨?_, hw'⟩
  refine congrArg (fun b => Ending.returned (Value.bool b)) ?_
  simp only [decide_eq_true_eq, Bool.not_eq_false'] at *
  unfold plainN
  first | exact dec_n (by omega) | exact dec_d (by omega) | exact dec_f (by omega) | exact dec_t (by omega)
theorem f47_any (w : World) (s : List UInt8) (hs : s.length ≤ 1000000000000) : Calls Tryd.prog 20 #[S s] w fun e w' => e = .returned (.bool (dec (Dbl s))) ∧ HF w (fun _ => False) [] w' := by
 refine enter (fun _ => False) [] Tryd.func20 rfl Tryd.ntmps20 rfl rfl (HF.start w _) fun c hc => ?_
 subst hc
 refine GC.seq ?_
 refine GC.reg ?_
 refine G.m2 ?_
 refine G.nil ?_
 refine GC.seq ?_
 refine GC.seq ?_
 refine GC.reg ?_
 refine G.m2 ?_
 refine G.nil ?_
 refine GC.block ?_
 refine GC.loopJ (fun N fr' H' => ∃ i, i + N = s.length + 1 ∧ 1 ≤ i ∧ (∀ j : Nat, j + 1 < i → ¬ (s[j]? = some 47 ∧ s[j + 1]? = some 47)) ∧ Sub [(0, S s), (3, I (i : Nat))] fr' ∧ H' = []) s.length
  ⟨1, by omega, Nat.le_refl _, fun j hj => by omega, .of rfl, rfl⟩ ?_
 rintro N fr' H' ⟨i, hi, hi1, hno, hs2, rfl⟩ ih
 refine GC.weak hs2 ?_
 clear hs2
 refine GC.seq ?_
 refine GC.seq ?_
 refine GC.reg ?_
 refine G.m1 ?_
 refine G.m1 ?_
 refine G.v (V.lenS Tryd.underlying9 rfl) rfl ?_
 refine G.v (V.lt rfl rfl) rfl ?_
 refine G.nil ?_
 refine GC.condD rfl (fun h7 => ?_) (fun h7 => ?_)
 ·refine GC.skip ?_
  refine GC.seq ?_
  refine GC.block ?_
  refine GC.seq ?_
  have hil : i < s.length := by omega
  obtain ⟨i, rfl⟩ : ∃ k, i = k + 1 := ⟨i - 1, by omega⟩
  obtain ⟨x, hx⟩ : ∃ x, s[i + 1]? = some x := ⟨_, List.getElem?_eq_getElem hil⟩
  obtain ⟨y, hy⟩ : ∃ y, s[i]? = some y := ⟨_, List.getElem?_eq_getElem (by omega)⟩
  refine GC.join (fun fr' H' => Sub [(0, S s), (3, I ((i + 1 : Nat) : Int)), (20, .bool (dec (x = 47 ∧ y = 47)))] fr' ∧ H' = []) (fun J4 => ?_) ?_
  ·refine GC.reg ?_
   refine G.m1 ?_
   refine G.m1 ?_
   refine G.v (V.idx (i := i + 1) (b := x) Tryd.underlying9 rfl rfl hx) rfl ?_
   refine G.v (V.eqI rfl rfl) rfl ?_
   refine G.m1 ?_
   refine G.bc 14 rfl (fun h14 => ?_) (fun h14 => ?_)
   ·refine G.m5 ?_
    refine G.m5 ?_
    refine G.vg rfl rfl (V.subI (r := ((i : Nat) : Int)) rfl rfl (by omega) (by omega) (by omega)) rfl ?_
    refine G.vg rfl rfl (V.idx (i := i) (b := y) Tryd.underlying9 rfl rfl hy) rfl ?_
    refine G.vg rfl rfl (V.eqI rfl rfl) rfl ?_
    refine G.m3 ?_
    refine G.nil ?_
    refine J4 _ _ ⟨?_, rfl⟩
    have hx47 : x = 47 := u_eq (k := 47) (by have := of_decide_eq_true h14; omega) (by omega)
    have e : decide ((y.toNat : Int) = 47) = dec (x = 47 ∧ y = 47) := dec_d ⟨fun h => ⟨hx47, u_eq (k := 47) (by omega) (by omega)⟩, fun h => by rw [h.2]; rfl⟩
    rw [← e]
    exact .of rfl
   ·refine G.s1 ?_
    refine G.s1 ?_
    refine G.s1 ?_
    refine G.s1 ?_
    refine G.s1 ?_
    refine G.m4 ?_
    refine G.nil ?_
    refine J4 _ _ ⟨?_, rfl⟩
    have e : false = dec (x = 47 ∧ y = 47) := dec_f (fun h => of_decide_eq_false h14 (by rw [h.1]; rfl))
    rw [← e]
    exact .of rfl
  rintro fr' H' ⟨hs4, rfl⟩
  refine GC.weak hs4 ?_
  clear hs4
  refine GC.cond rfl (fun h20 => ?_) (fun h20 => ?_)
  ·refine GC.seq ?_
   refine GC.reg ?_
   refine G.m2 ?_
   refine G.nil ?_
   refine GC.ret1 rfl rfl fun w' hw' => ⟨?_, hw'⟩
   refine congrArg (fun b => Ending.returned (Value.bool b)) ?_
   have hh := dec_true.1 h20
   exact dec_t ⟨i, by rw [hy, hh.2], by rw [hx, hh.1]⟩
  refine GC.skip ?_
  refine GC.inBlock ?_
  refine GC.reg ?_
  refine G.m1 ?_
  refine G.v (V.addI (r := ((i + 1 + 1 : Nat) : Int)) rfl rfl (by omega) (by omega) (by omega)) rfl ?_
  refine G.m2 ?_
  refine G.nil ?_
  refine ih (N - 1) _ _ (by omega) ⟨i + 1 + 1, by omega, by omega, fun j hj => ?_, .of rfl, rfl⟩
  by_cases hji : j = i
  ·subst hji
   intro hh
   rw [hx, hy] at hh
   exact dec_false.1 h20 ⟨Option.some.inj hh.2, Option.some.inj hh.1⟩
  ·exact hno j (by omega)
 refine GC.exit rfl ?_
 refine GC.seq ?_
 refine GC.reg ?_
 refine G.m2 ?_
 refine G.nil ?_
 refine GC.ret1 rfl rfl fun w' hw' => ⟨?_, hw'⟩
 refine congrArg (fun b => Ending.returned (Value.bool b)) ?_
 refine dec_f fun ⟨j, h1, h2⟩ => ?_
 have := (List.getElem?_eq_some_iff.1 h2).1
 exact hno j (by omega) ⟨h1, h2⟩
end Go.Proofs
