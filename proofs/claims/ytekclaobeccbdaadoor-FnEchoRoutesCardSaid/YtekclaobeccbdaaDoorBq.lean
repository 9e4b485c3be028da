/- Rows of numbers; routes in another order; bytes as arguments. -/
import Derived.Test.YtekclaobeccbdaaDoorBo
import Derived.Test.YtekclaobeccbdaaDoorBg
import Derived.Test.YtekclaobeccbdaaDoorBj
import Derived.Test.YtekclaobeccbdaaDoorBi
import Derived.Test.YtekclaobeccbdaaDoorBk
import Derived.ChangeSlices
/- slices.Delete of numbers that the call owns; the rest of a division; a new row of numbers. -/
set_option maxRecDepth 20000
namespace Bw
open Go Go.Proofs Go.Sort

theorem V.rem {P : Program} {c : Cx} {n : Nat} {fr : SF} {H : SH} {x y : Operand} {t u ty : TypeId} {i j : Nat} (hx : ev fr x = some (I (i : Int))) (hy : ev fr y = some (I (j : Int))) (hj : 0 < j) (hi : i ≤ 9223372036854775807) : Val P c n (.binOp .rem t x y u) ty fr H (I ((i % j : Nat) : Int)) := by
  intro a w ha hw dst pos aft g
  have h0 : ¬ ((j : Int) = 0) := by omega
  have h1 : (Int.tmod (i : Int) (j : Int)) = ((i % j : Nat) : Int) := by rw [Int.tmod_eq_emod_of_nonneg (by omega)]; rfl
  simp [execOp, ha.eval hx, ha.eval hy, eqGuard, binOp, Op.intDiv, show ¬ (j = 0) by omega, h1]
theorem madeI (z : Nat) : (Go.madeCells (Value.cells (I 0)) z).toList = List.replicate z (I 0) := by
  simp only [Go.madeCells, Array.toList_map, Array.toList_range]
  have h : (I 0).cells = #[I 0] := rfl
  rw [h]
  refine List.ext_getElem? fun i => ?_
  by_cases hi : i < z
  · rw [List.getElem?_map, List.getElem?_range hi, List.getElem?_replicate_of_lt hi]
    simp [Nat.mod_one]
  · rw [List.getElem?_eq_none (by simpa using hi), List.getElem?_eq_none (by simpa using hi)]
theorem mkI {a : Act} {w1 : World} {n d z : Nat} {fr : SF} {x y : Operand} {ty : TypeId} {pos : String} {aft : Array Edge} (ha : Fr n fr a) (hx : ev fr x = some (I (z : Int))) (hy : ev fr y = some (I (z : Int))) (hz : z ≤ 1000) :
    (execOp a.eval ⟨some d, .makeSlice 59 x y, ty, pos, aft, none⟩).run Tryd.prog w1 = .ok (.value (.slice (some ⟨w1.heap.size, 0, none⟩) z z)) { w1 with heap := w1.heap.push (Blk.row (List.replicate z (I 0)) 3 (0, 0)).den } := by
  have hr := run_make (P := Tryd.prog) w1 59 3 Tryd.t3 (I 0) Tryd.underlying59 rfl rfl .i64 .i64 (z : Int) (z : Int) (by omega) (by omega) (by show ((8 : Nat) : Int) * _ ≤ _; omega) (by omega)
  have hs : (Tryd.t3).size = 1 := rfl
  rw [hs, Nat.mul_one, Int.toNat_natCast] at hr
  have hm : Go.madeCells (Value.cells (I 0)) z = (List.replicate z (I 0)).toArray := by rw [← madeI]
  rw [hm] at hr
  simp only [execOp, ha.eval hx, ha.eval hy, Sem.run_bind, Blk.den]
  rw [hr]
  rfl

def II (l : List Nat) : List Value := l.map fun x : Nat => I (x : Int)
theorem putCells_ints (xs ts : List Int) (spare : List Value) (hl : ts.length = xs.length) : putCells (Value.int .i64) 0 ts.toArray (xs.map (Value.int .i64) ++ spare).toArray = (ts.map (Value.int .i64) ++ spare).toArray := by
  apply Array.ext_getElem?
  intro j
  simp only [putCells, Array.getElem?_mapIdx, List.getElem?_toArray, List.size_toArray, Nat.zero_le, true_and, Nat.zero_add, Nat.sub_zero]
  by_cases hj : j < ts.length
  · rw [List.getElem?_append_left (by simp; omega), List.getElem?_append_left (by simpa using hj), List.getElem?_map, List.getElem?_map, List.getElem?_eq_getElem (by omega : j < xs.length), List.getElem?_eq_getElem hj]
    simp [hj]
  · rw [List.getElem?_append_right (by simp; omega), List.getElem?_append_right (by simp; omega)]
    simp only [List.length_map, hl]
    cases spare[j - xs.length]? <;> simp [hl ▸ hj]
theorem HF.putI {w0 : World} {D : Nat → Prop} {H : SH} {w : World} {b : Nat} {xs ts : List Int} {spare : List Value} (h : HF w0 D (⟨b, true, .row (xs.map (Value.int .i64) ++ spare) 3 (0, 0)⟩ :: H) w) (hl : ts.length = xs.length) (n : Nat) :
    HF w0 D (⟨b, true, .row (ts.map (Value.int .i64) ++ spare) 3 (0, 0)⟩ :: H) (putRow (Value.int .i64) (Sort.ahead w n) b 0 ts.toArray) := by
  have hb := h.has _ (.head _)
  simp only [Blk.den] at hb
  have := h.upd (w' := putRow (Value.int .i64) (Sort.ahead w n) b 0 ts.toArray) (e := ⟨b, true, .row (xs.map (Value.int .i64) ++ spare) 3 (0, 0)⟩) .z rfl (.row (ts.map (Value.int .i64) ++ spare) 3 (0, 0)) (by simp [putRow, mapBlock, Sort.ahead])
    (by simp only [Blk.den]; rw [← putCells_ints xs ts spare hl]; simp [putRow, mapBlock, Sort.ahead, Array.getElem?_modify, hb, onCells])
    (fun x hx => by simp only at hx; simp only [putRow, mapBlock, Sort.ahead]; rw [Array.getElem?_modify, if_neg (fun e => hx e.symm)]) rfl rfl rfl
  simpa [putE] using this
theorem f54_any (w : World) (lb cap : Nat) (zs : List Nat) (spare : List Value) (i : Nat) (hi : i < zs.length) (hcap : zs.length ≤ cap) (hm : cap ≤ 1000) (hb : w.heap[lb]? = some (Blk.row (II zs ++ spare) 3 (0, 0)).den) :
    Calls Tryd.prog 54 #[.slice (some ⟨lb, 0, none⟩) zs.length cap, I (i : Int), I ((i + 1 : Nat) : Int)] w fun e w' => e = .returned (.slice (some ⟨lb, 0, none⟩) (zs.length - 1) cap) ∧
      ∀ w0 D H, HF w0 D (⟨lb, true, .row (II zs ++ spare) 3 (0, 0)⟩ :: H) w → HF w0 D (⟨lb, true, .row (II (zs.eraseIdx i) ++ (I 0 :: spare)) 3 (0, 0)⟩ :: H) w' := by
  have eII : ∀ l : List Nat, II l = (l.map fun x : Nat => (x : Int)).map (Value.int .i64) := fun l => by simp [II]
  simp only [Blk.den] at hb
  have hzl : (zs.map fun x : Nat => (x : Int)).length = zs.length := List.length_map _
  have hH : Go.Sort.Holds (Value.int .i64) w lb 0 (zs.map fun x : Nat => (x : Int)).toArray := fun j hj => by
    have hj' : j < zs.length := by simpa using hj
    refine ⟨?_, by simp [World.frozen?, hb]⟩
    simp only [World.cell?, hb, Nat.zero_add, List.getElem?_toArray, Option.isSome_none, Bool.false_eq_true, if_false]
    rw [List.getElem?_append_left (by simpa [II] using hj'), II, List.getElem?_map, List.getElem?_eq_getElem hj']
    simp [hj']
  have hs := Tryd.slices_Delete_int lb 0 cap i (i + 1) (zs.map fun x : Nat => (x : Int)) w hH (by omega) (by omega) (by omega) (by omega)
  rw [hzl, show i + 1 - i = 1 by omega] at hs
  refine hs.mono fun e w' ⟨h1, q, h2⟩ => ⟨h1, fun w0 D H h => ?_⟩
  rw [h2]
  rw [eII] at h
  have h3 := HF.putI (ts := (zs.map fun x : Nat => (x : Int)).take i ++ (zs.map fun x : Nat => (x : Int)).drop (i + 1) ++ List.replicate 1 0) h (by simp; omega) q
  have e3 : ((zs.map fun x : Nat => (x : Int)).take i ++ (zs.map fun x : Nat => (x : Int)).drop (i + 1) ++ List.replicate 1 0).map (Value.int .i64) ++ spare = II (zs.eraseIdx i) ++ (I 0 :: spare) := by
    rw [List.eraseIdx_eq_take_drop_succ]
    simp only [II, List.map_take, List.map_drop, List.map_append, List.map_map, List.append_assoc, List.replicate, List.map_cons, List.map_nil, List.cons_append, List.nil_append]
    rfl
  rw [e3] at h3
  exact h3

/-- bytes in memory -/
def BytesAt (w : World) (ad : Option Addr) (bs : List UInt8) : Prop := ∀ i b, bs[i]? = some b → ∃ bk o, ad = some ⟨bk, o, none⟩ ∧ w.cell? ⟨bk, o + i * 1, none⟩ = some (.int .u8 (b.toNat : Int))
theorem erase_perm {l : List Nat} {i x : Nat} (h : l[i]? = some x) : (x :: l.eraseIdx i).Perm l := by
  obtain ⟨h1, h2⟩ := List.getElem?_eq_some_iff.1 h
  rw [List.eraseIdx_eq_take_drop_succ]
  have := List.perm_middle (a := x) (l₁ := l.take i) (l₂ := l.drop (i + 1))
  refine this.symm.trans ?_
  have e : l.take i ++ x :: l.drop (i + 1) = l := by rw [← drop_cons h, List.take_append_drop]
  rw [e]
end Bw

/- echoTurned. Printed by wip/mk_j3.py. -/
namespace Go.Proofs
open Go Bw
set_option maxRecDepth 20000

theorem _root_.Bw.GA.ldB {P : Program} {c : Cx} {n : Nat} {k : List Item} {fr : SF} {H : SH} {ops : Array Oper} {ty : TypeId} {pos : String} {aft : Array Edge} {S0 : World → Prop} {fuel : Nat} {listed : Array Bool} (i : Nat) {d : Nat} {t : TypeId} {x : Operand} {b off s : Nat} {cs : List Value} (hi : ops[i]? = some ⟨some d, .load t x, ty, pos, aft, none⟩) (hB : (Region.noSelect ops && Region.free .any ops listed i && (Region.ready .any ops listed).contains i) = true)
    (hS : ∀ w, HF c.w0 c.D H w → S0 w) (hA : ∀ w, (isAgg t).run P w = .ok true w) (hs : ∀ w, (Go.sizeOf t).run P w = .ok s w) (hx : ev fr x = some (Pt b off)) (hc : ∀ w, S0 w → ∀ j v, cs[j]? = some v → w.cell? ⟨b, off + j, none⟩ = some v) (hl : cs.length = s) (hd : Nat.blt d n = true)
    (h : GA P c n k ops S0 fuel (listed.setIfInBounds i true) ((d, .agg cs.toArray) :: fr) H) : GA P c n k ops S0 (fuel + 1) listed fr H :=
  GA.take hi hB hS (fun a w ha hS' dst pos aft g => by
    have hc' : ∀ j v, cs[j]? = some v → w.cell? ((⟨b, off, none⟩ : Addr).add j) = some v := by
      intro j v hj
      have h2 := hc w hS' j v hj
      by_cases h0 : j = 0
      · subst h0; simpa [Addr.add] using h2
      · simpa [Addr.add, h0] using h2
    have hrun := run_loadCells_list (P := P) (w := w) ⟨b, off, none⟩ cs hc'
    simp [execOp, ha.eval hx, Instr.loadAt, Instr.sureAddr, loadVar, hA, hs, ← hl, hrun]) hd h

def dR : RB := ⟨[], [], []⟩
theorem II_set {i n : Nat} (h : i < n) : setL (II (List.range i) ++ List.replicate (n - i) (I 0)) (0 + i * 1) (I ((i : Nat) : Int)) = II (List.range (i + 1)) ++ List.replicate (n - (i + 1)) (I 0) := by
  have e1 : n - i = (n - (i + 1)) + 1 := by omega
  rw [setL_set, Nat.zero_add, Nat.mul_one, List.set_append_right _ _ (by simp [II]), e1, List.replicate_succ]
  simp [II, List.range_succ]
theorem II_some {i n : Nat} (h : i < n) : (nth (II (List.range i) ++ List.replicate (n - i) (I 0)) (0 + i * 1)).isSome = true := by
  rw [nth_eq, List.getElem?_append_right (by simp [II])]
  simp [II]; omega

theorem f38_any (w : World) (ad : Option Addr) (cp : Nat) (Rs : List RB) (ad1 : Option Addr) (cp1 : Nat) (bs : List UInt8) (hat : RtsAt w ad Rs) (hlen : Rs.length ≤ 60) (hbs : BytesAt w ad1 bs) :
    Calls Tryd.prog 38 #[.slice ad Rs.length cp, .slice ad1 bs.length cp1] w fun e w' => ∃ v1 v2 ord H1 H2, e = .returned (.tuple #[v1, v2]) ∧ ord.Perm (List.range Rs.length) ∧ Own 23 3 v1 ord.length ((ord.map fun i => Rs.getD i dR).flatMap RB.cells) H1 ∧ Own 3 1 v2 ord.length (II ord) H2 ∧ HF w (fun _ => False) (H1 ++ H2) w' := by
  refine enter (fun _ => False) [] Tryd.func38 rfl Tryd.ntmps38 rfl rfl (HF.start w _) fun c hc => ?_
  subst hc
  refine GC.seq ?_
  refine GC.reg ?_  -- region 0, echo.go:103
  refine G.v (V.asg rfl) rfl ?_
  refine G.v (V.asg rfl) rfl ?_
  refine G.nil ?_
  refine GC.seq ?_
  refine GC.reg ?_  -- region 1, echo.go:104
  refine G.v (V.mv rfl) rfl ?_
  refine G.v (V.lenL Tryd.underlying28 rfl) rfl ?_
  refine G.new (kb := .row (List.replicate Rs.length (I 0)) 3 (0, 0)) (v := fun b => .slice (some ⟨b, 0, none⟩) Rs.length Rs.length) (fun a w1 ha hw1 => mkI ha rfl rfl (by omega)) rfl (fun lb hlb => ?_)
  refine G.v (V.asg rfl) rfl ?_
  refine G.nil ?_
  refine GC.seq ?_
  refine GC.seq ?_
  refine GC.reg ?_  -- region 2, echo.go:105
  refine G.v (V.mv rfl) rfl ?_
  refine G.v (V.lenL Tryd.underlying28 rfl) rfl ?_
  refine G.v (V.mv rfl) rfl ?_
  refine G.nil ?_
  refine GC.block ?_
  refine GC.loopJ (fun N fr' H' => ∃ i, i + N = Rs.length ∧ Sub [(13, .slice ad Rs.length cp), (14, I (Rs.length : Nat)), (15, I ((i : Nat) : Int)), (0, .slice ad Rs.length cp), (1, .slice ad1 bs.length cp1), (4, .slice none 0 0), (5, .slice none 0 0), (6, .slice (some ⟨lb, 0, none⟩) Rs.length Rs.length)] fr' ∧ H' = [⟨lb, true, .row (II (List.range i) ++ List.replicate (Rs.length - i) (I 0)) 3 (0, 0)⟩]) Rs.length
    ⟨0, by omega, .cons rfl (.cons rfl (.cons rfl (.cons rfl (.cons rfl (.cons rfl (.cons rfl (.cons rfl .nil))))))), rfl⟩ ?_
  rintro N fr' H' ⟨i, hi, hs, rfl⟩ ih
  refine GC.weak hs ?_
  clear hs
  refine GC.seq ?_
  refine GC.reg ?_  -- region 3, echo.go:105
  refine G.v (V.lt rfl rfl) rfl ?_
  refine G.nil ?_
  refine GC.seq ?_
  refine GC.condD rfl (fun h16 => ?_) (fun h16 => ?_)
  · refine GC.skip ?_
    refine GC.seq ?_
    refine GC.block ?_
    refine GC.seq ?_
    have hlt : i < Rs.length := by omega
    refine GC.reg ?_  -- region 4, echo.go:105
    refine G.v (V.mv rfl) rfl ?_
    refine G.v (V.asg rfl) rfl ?_
    refine G.nil ?_
    refine GC.reg ?_  -- region 5, echo.go:106
    refine G.v (V.mv rfl) rfl ?_
    refine G.v (V.mv rfl) rfl ?_
    refine G.v (V.mv rfl) rfl ?_
    refine G.v (V.ia (i := i) Tryd.underlying59 Tryd.sizeOf3 rfl rfl hlt) rfl ?_
    refine G.st Tryd.sizeOf3 rfl rfl rfl .z (II_some hlt) rfl ?_
    refine G.nil ?_
    refine GC.inBlock ?_
    refine GC.reg ?_  -- region 6, echo.go:105
    refine G.turn (H' := [⟨lb, true, .row (II (List.range (i + 1)) ++ List.replicate (Rs.length - (i + 1)) (I 0)) 3 (0, 0)⟩]) (fun w1 hw1 => by rw [← II_set hlt]; exact hw1) ?_
    refine G.v (V.addI (r := ((i + 1 : Nat) : Int)) rfl rfl rfl (by omega) (by omega)) rfl ?_
    refine G.v (V.mv rfl) rfl ?_
    refine G.nil ?_
    exact ih (N - 1) _ _ (by omega) ⟨i + 1, by omega, .cons rfl (.cons rfl (.cons rfl (.cons rfl (.cons rfl (.cons rfl (.cons rfl (.cons rfl .nil))))))), rfl⟩
  refine GC.exit rfl ?_
  refine GC.seq ?_
  refine GC.seq ?_
  refine GC.reg ?_  -- region 7, echo.go:108
  refine G.v (V.asg rfl) rfl ?_
  refine G.nil ?_
  refine GC.block ?_
  have hie : i = Rs.length := by omega
  subst hie
  refine GC.loopJ (fun N fr' H' => ∃ (k : Nat) (left idx : List Nat) (spare : List Value) (svo svi : Value) (Ho Hi : SH), left.length = N ∧ k + N = Rs.length ∧ (idx ++ left).Perm (List.range Rs.length) ∧ Own 23 3 svo idx.length ((idx.map fun i => Rs.getD i dR).flatMap RB.cells) Ho ∧ Own 3 1 svi idx.length (II idx) Hi ∧ Sub [(0, .slice ad Rs.length cp), (1, .slice ad1 bs.length cp1), (4, svo), (5, svi), (6, .slice (some ⟨lb, 0, none⟩) left.length Rs.length), (8, I ((k : Nat) : Int))] fr' ∧ H' = ⟨lb, true, .row (II left ++ spare) 3 (0, 0)⟩ :: (Ho ++ Hi)) Rs.length
    ⟨0, List.range Rs.length, [], _, _, _, [], [], List.length_range, by omega, by simp, .nil, .nil, .cons rfl (.cons rfl (.cons rfl (.cons rfl (.cons (by rw [List.length_range]; rfl) (.cons rfl .nil))))), rfl⟩ ?_
  rintro N fr' H' ⟨k, left, idx, spare, svo, svi, Ho, Hi, hln, hk, hperm, howno, howni, hs, rfl⟩ ih
  refine GC.weak hs ?_
  clear hs
  obtain ⟨ado, cpo, rfl⟩ := howno.slice
  obtain ⟨adi, cpi, rfl⟩ := howni.slice
  refine GC.seq ?_
  refine GC.seq ?_
  refine GC.reg ?_  -- region 8, echo.go:108
  refine G.v (V.mv rfl) rfl ?_
  refine G.v (V.lenL Tryd.underlying59 rfl) rfl ?_
  refine G.v (V.gt rfl rfl) rfl ?_
  refine G.nil ?_
  refine GC.condD rfl (fun h25 => ?_) (fun h25 => ?_)
  · refine GC.skip ?_
    refine GC.seq ?_
    refine GC.block ?_
    refine GC.seq ?_
    have hpos : 0 < left.length := by omega
    have hil : idx.length + left.length = Rs.length := by have := hperm.length_eq; rw [List.length_append, List.length_range] at this; exact this
    refine GC.reg ?_  -- region 10, echo.go:109
    refine G.v (V.asg rfl) rfl ?_
    refine G.nil ?_
    refine GC.seq ?_
    refine GC.seq ?_
    refine GC.reg ?_  -- region 11, echo.go:110
    refine G.v (V.mv rfl) rfl ?_
    refine G.v (V.mv rfl) rfl ?_
    refine G.v (V.lenL Tryd.underlying58 rfl) rfl ?_
    refine G.v (V.lt rfl rfl) rfl ?_
    refine G.nil ?_
    refine GC.join (fun fr' H' => ∃ at0 : Nat, at0 < left.length ∧ Sub [(0, .slice ad Rs.length cp), (1, .slice ad1 bs.length cp1), (4, .slice ado idx.length cpo), (5, .slice adi idx.length cpi), (6, .slice (some ⟨lb, 0, none⟩) left.length Rs.length), (8, I ((k : Nat) : Int)), (9, I ((at0 : Nat) : Int))] fr' ∧ ⟨lb, true, .row (II left ++ spare) 3 (0, 0)⟩ :: (Ho ++ Hi) = H') (fun K31 => ?_) ?_
    · refine GC.condD rfl (fun h31 => ?_) (fun h31 => ?_)
      · have hkb : k < bs.length := by omega
        obtain ⟨bt, hbt⟩ : ∃ bt, bs[k]? = some bt := ⟨_, List.getElem?_eq_getElem hkb⟩
        obtain ⟨bk, bo, rfl, hbc⟩ := hbs k bt hbt
        have hwr : IntKind.i64.wrap (bt.toNat : Int) = (bt.toNat : Int) := wrap_i64 (by omega) (by have := bt.toNat_lt; omega)
        refine GC.reg ?_  -- region 12, echo.go:111
        refine G.v (V.mv rfl) rfl ?_
        refine G.v (V.mv rfl) rfl ?_
        refine G.v (V.ia (i := k) Tryd.underlying58 Tryd.sizeOf5 rfl rfl hkb) rfl ?_
        refine G.v (V.ldC (v := .int .u8 (bt.toNat : Int)) Tryd.isAgg5 rfl hbc id) rfl ?_
        refine G.v (V.cvI Tryd.underlying5 Tryd.underlying3 rfl) rfl ?_
        rw [hwr]
        refine G.v (V.mv rfl) rfl ?_
        refine G.v (V.lenL Tryd.underlying59 rfl) rfl ?_
        refine G.v (V.rem (i := bt.toNat) (j := left.length) rfl rfl hpos (by have := bt.toNat_lt; omega)) rfl ?_
        refine G.v (V.asg rfl) rfl ?_
        refine G.nil ?_
        exact K31 _ _ ⟨bt.toNat % left.length, Nat.mod_lt _ hpos, .cons rfl (.cons rfl (.cons rfl (.cons rfl (.cons rfl (.cons rfl (.cons rfl .nil)))))), rfl⟩
      refine GC.skip ?_
      exact K31 _ _ ⟨0, hpos, .cons rfl (.cons rfl (.cons rfl (.cons rfl (.cons rfl (.cons rfl (.cons rfl .nil)))))), rfl⟩
    rintro fr' H' ⟨at0, hat0, hs31, rfl⟩
    refine GC.weak hs31 ?_
    clear hs31
    refine GC.seq ?_
    refine GC.join (fun fr' H' => ∃ (x : Nat) (r : RB) (ab ao : Nat) (ado2 : Option Addr) (cpo2 : Nat) (adi2 : Option Addr) (cpi2 : Nat) (Ho2 Hi2 : SH), left[at0]? = some x ∧ Rs.getD x dR = r ∧ ad = some ⟨ab, ao, none⟩ ∧ Own 23 3 (.slice ado2 (idx.length + 1) cpo2) (idx.length + 1) (((idx.map fun i => Rs.getD i dR).flatMap RB.cells) ++ r.cells) Ho2 ∧ Own 3 1 (.slice adi2 (idx.length + 1) cpi2) (idx.length + 1) (II idx ++ [I ((x : Nat) : Int)]) Hi2 ∧ Sub [(0, .slice (some ⟨ab, ao, none⟩) Rs.length cp), (1, .slice ad1 bs.length cp1), (4, .slice ado2 (idx.length + 1) cpo2), (5, .slice adi2 (idx.length + 1) cpi2), (6, .slice (some ⟨lb, 0, none⟩) left.length Rs.length), (8, I ((k : Nat) : Int)), (9, I ((at0 : Nat) : Int))] fr' ∧ (∀ w1, HF w (fun _ => False) H' w1 → HF w (fun _ => False) (⟨lb, true, .row (II left ++ spare) 3 (0, 0)⟩ :: (Ho2 ++ Hi2)) w1)) (fun J13 => ?_) ?_
    · obtain ⟨x, hx⟩ : ∃ x, left[at0]? = some x := ⟨_, List.getElem?_eq_getElem hat0⟩
      have hxr : x < Rs.length := List.mem_range.1 (hperm.mem_iff.1 (List.mem_append_right _ (List.mem_of_getElem? hx)))
      obtain ⟨r, hr⟩ : ∃ r, Rs[x]? = some r := ⟨_, List.getElem?_eq_getElem hxr⟩
      have hrd : Rs.getD x dR = r := by rw [List.getD_eq_getElem?_getD, hr]; rfl
      obtain ⟨ab, ao, rfl, hcell⟩ := hat x r hr
      have hSb : ∀ (H : SH) w1, HF w (fun _ => False) H w1 → (⟨lb, true, .row (II left ++ spare) 3 (0, 0)⟩ : Ent) ∈ H → w1.cell? ⟨lb, 0 + at0 * 1, none⟩ = some (I ((x : Nat) : Int)) ∧ ∀ k v, r.cells[k]? = some v → w1.cell? ⟨ab, ao + x * 3 + k, none⟩ = some v := fun H w1 hw hm => ⟨cell_row hw hm (by rw [nth_eq, Nat.zero_add, Nat.mul_one, List.getElem?_append_left (by simpa [II] using hat0), II, List.getElem?_map, hx]; rfl), fun k v hk => hw.cellOld (hcell k v hk) id⟩
      refine GC.regA (fun w1 => w1.cell? ⟨lb, 0 + at0 * 1, none⟩ = some (I ((x : Nat) : Int)) ∧ ∀ k v, r.cells[k]? = some v → w1.cell? ⟨ab, ao + x * 3 + k, none⟩ = some v) mixed ?_
      refine GA.p 0 rfl (by kernel_rfl) (fun w1 hw1 => hSb _ w1 hw1 (by simp)) (fun _ => V.mv rfl) rfl ?_
      refine GA.p 1 rfl (by kernel_rfl) (fun w1 hw1 => hSb _ w1 hw1 (by simp)) (fun _ => V.mv rfl) rfl ?_
      refine GA.p 2 rfl (by kernel_rfl) (fun w1 hw1 => hSb _ w1 hw1 (by simp)) (fun _ => V.mv rfl) rfl ?_
      refine GA.p 3 rfl (by kernel_rfl) (fun w1 hw1 => hSb _ w1 hw1 (by simp)) (fun _ => V.mv rfl) rfl ?_
      refine GA.p 4 rfl (by kernel_rfl) (fun w1 hw1 => hSb _ w1 hw1 (by simp)) (fun _ => V.ia (i := at0) Tryd.underlying59 Tryd.sizeOf3 rfl rfl hat0) rfl ?_
      refine GA.ld 5 rfl (by kernel_rfl) (fun w1 hw1 => hSb _ w1 hw1 (by simp)) Tryd.isAgg3 rfl (fun w1 h => h.1) rfl ?_
      refine GA.p 6 rfl (by kernel_rfl) (fun w1 hw1 => hSb _ w1 hw1 (by simp)) (fun _ => V.ia (i := x) Tryd.underlying28 Tryd.sizeOf23 rfl rfl hxr) rfl ?_
      refine GA.ldB 7 (cs := r.cells) rfl (by kernel_rfl) (fun w1 hw1 => hSb _ w1 hw1 (by simp)) Tryd.isAgg23 Tryd.sizeOf23 rfl (fun w1 h => h.2) rfl rfl ?_
      refine GA.p 10 rfl (by kernel_rfl) (fun w1 hw1 => hSb _ w1 hw1 (by simp)) (fun _ => V.mv rfl) rfl ?_
      refine GA.p 11 rfl (by kernel_rfl) (fun w1 hw1 => hSb _ w1 hw1 (by simp)) (fun _ => V.mv rfl) rfl ?_
      refine GA.p 12 rfl (by kernel_rfl) (fun w1 hw1 => hSb _ w1 hw1 (by simp)) (fun _ => V.mv rfl) rfl ?_
      refine GA.p 13 rfl (by kernel_rfl) (fun w1 hw1 => hSb _ w1 hw1 (by simp)) (fun _ => V.ia (i := at0) Tryd.underlying59 Tryd.sizeOf3 rfl rfl hat0) rfl ?_
      refine GA.ld 14 rfl (by kernel_rfl) (fun w1 hw1 => hSb _ w1 hw1 (by simp)) Tryd.isAgg3 rfl (fun w1 h => h.1) rfl ?_
      refine GA.via (fun fr' H' => ∃ tb2 ado2 cpo2 Ho2, Own 23 3 (.slice ado2 (idx.length + 1) cpo2) (idx.length + 1) (((idx.map fun i => Rs.getD i dR).flatMap RB.cells) ++ r.cells) Ho2 ∧ Sub [(0, .slice (some ⟨ab, ao, none⟩) Rs.length cp), (1, .slice ad1 bs.length cp1), (4, .slice ado idx.length cpo), (5, .slice adi idx.length cpi), (6, .slice (some ⟨lb, 0, none⟩) left.length Rs.length), (8, I ((k : Nat) : Int)), (9, I ((at0 : Nat) : Int)), (49, .slice ado2 (idx.length + 1) cpo2), (50, .slice adi idx.length cpi), (55, .slice (some ⟨tb2, 0, none⟩) 1 1)] fr' ∧ (∀ w1, HF w (fun _ => False) H' w1 → HF w (fun _ => False) (⟨tb2, true, .row [I ((x : Nat) : Int)] 3 (0, 0)⟩ :: ⟨lb, true, .row (II left ++ spare) 3 (0, 0)⟩ :: (Ho2 ++ Hi)) w1)) #[true, true, true, true, true, true, true, true, true, true, true, true, true, true, true, true, false, false, false] 3 ?_ (fun finV => ?_)
      · rintro fr' H' ⟨tb2, ado2, cpo2, Ho2, howno2, hs9, hH⟩
        refine GA.weak hs9 ?_
        clear hs9
        refine GA.turn hH ?_
        refine GA.one 16 rfl (by kernel_rfl) ?_
        refine GB.app (i := Tryd.t3) (sz := 1) (by_ := 8) Tryd.underlying59 rfl rfl rfl rfl rfl rfl rfl howni (H' := [⟨tb2, true, .row [I ((x : Nat) : Int)] 3 (0, 0)⟩, ⟨lb, true, .row (II left ++ spare) 3 (0, 0)⟩] ++ Ho2) ?_ (src_row (vs := [I ((x : Nat) : Int)]) (r := []) (.head _)) rfl (by simp [Value.oneCell']) (by omega) (by omega) (by omega) (fun w1 hw1 => hSb _ w1 hw1 (by simp)) rfl (fun svi2 Hi2 howni2 => ?_)
        · have p0 := perm_idx [([⟨tb2, true, .row [I ((x : Nat) : Int)] 3 (0, 0)⟩, ⟨lb, true, .row (II left ++ spare) 3 (0, 0)⟩] : SH), Ho2, Hi] [0, 1, 2] [2, 0, 1] (by decide)
          exact List.Perm.trans (.of_eq (by simp)) (p0.trans (.of_eq (by simp)))
        obtain ⟨adi2, cpi2, rfl⟩ := howni2.slice
        refine GA.p 17 rfl (by kernel_rfl) (fun w1 hw1 => hSb _ w1 hw1 (by simp)) (fun _ => V.asg rfl) rfl ?_
        refine GA.p 18 rfl (by kernel_rfl) (fun w1 hw1 => hSb _ w1 hw1 (by simp)) (fun _ => V.asg rfl) rfl ?_
        refine GA.done (by kernel_rfl) ?_
        exact J13 _ _ ⟨x, r, ab, ao, ado2, cpo2, adi2, cpi2, Ho2, Hi2, hx, hrd, rfl, howno2, howni2, .cons rfl (.cons rfl (.cons rfl (.cons rfl (.cons rfl (.cons rfl (.cons rfl .nil)))))), fun w1 h => by have := h.sub (List.sublist_cons_self _ _); simpa using this⟩
      refine GA.two 8 15 rfl rfl (by kernel_rfl) ?_ ?_
      · refine GB.bs (BS.three (a := S r.m) (b := S r.p) (c := S r.nm) Tryd.underlying28 Tryd.sizeOf23 Tryd.zeroValue23) rfl (fun w1 hw1 => hSb _ w1 hw1 (by simp)) rfl (fun tb => ?_)
        refine GA.two 9 15 rfl rfl (by kernel_rfl) ?_ ?_
        · refine GB.app (i := Tryd.t23) (sz := 3) (by_ := 48) Tryd.underlying28 rfl rfl rfl rfl rfl rfl rfl howno (H' := [⟨tb, true, .row r.cells 23 (0, 0)⟩, ⟨lb, true, .row (II left ++ spare) 3 (0, 0)⟩] ++ Hi) ?_ (src_row (vs := r.cells) (r := []) (.head _)) rfl (fun v hv => ?_) (by omega) (by omega) (by omega) (fun w1 hw1 => hSb _ w1 hw1 (by simp)) rfl (fun svo2 Ho2 howno2 => ?_)
          · have p0 := perm_idx [([⟨tb, true, .row r.cells 23 (0, 0)⟩, ⟨lb, true, .row (II left ++ spare) 3 (0, 0)⟩] : SH), Ho, Hi] [0, 1, 2] [1, 0, 2] (by decide)
            exact List.Perm.trans (.of_eq (by simp [RB.cells])) (p0.trans (.of_eq (by simp [RB.cells])))
          · simp only [RB.cells, List.mem_cons, List.not_mem_nil, or_false] at hv
            rcases hv with rfl | rfl | rfl <;> rfl
          obtain ⟨ado2, cpo2, rfl⟩ := howno2.slice
          refine GA.one 15 rfl (by kernel_rfl) ?_
          refine GB.bs (BS.one Tryd.underlying59 Tryd.sizeOf3 Tryd.zeroValue3 (v := I ((x : Nat) : Int)) rfl) rfl (fun w1 hw1 => hSb _ w1 hw1 (by simp)) rfl (fun tb2 => ?_)
          refine finV _ _ _ (by kernel_rfl) ⟨tb2, ado2, cpo2, Ho2, howno2, .cons rfl (.cons rfl (.cons rfl (.cons rfl (.cons rfl (.cons rfl (.cons rfl (.cons rfl (.cons rfl (.cons rfl .nil))))))))), fun w1 h => ?_⟩
          have p0 := perm_idx [([⟨tb2, true, .row [I ((x : Nat) : Int)] 3 (0, 0)⟩] : SH), ([⟨tb, true, .row r.cells 23 (0, 0)⟩] : SH), ([⟨lb, true, .row (II left ++ spare) 3 (0, 0)⟩] : SH), Hi, Ho2] [0, 1, 2, 3, 4] [1, 0, 2, 4, 3] (by decide)
          have h2 := h.perm (List.Perm.trans (.of_eq (by simp)) p0)
          exact h2.sub (by simp)
        · refine GB.bs (BS.one Tryd.underlying59 Tryd.sizeOf3 Tryd.zeroValue3 (v := I ((x : Nat) : Int)) rfl) rfl (fun w1 hw1 => hSb _ w1 hw1 (by simp)) rfl (fun tb2 => ?_)
          refine GA.one 9 rfl (by kernel_rfl) ?_
          refine GB.app (i := Tryd.t23) (sz := 3) (by_ := 48) Tryd.underlying28 rfl rfl rfl rfl rfl rfl rfl howno (H' := [⟨tb2, true, .row [I ((x : Nat) : Int)] 3 (0, 0)⟩, ⟨tb, true, .row r.cells 23 (0, 0)⟩, ⟨lb, true, .row (II left ++ spare) 3 (0, 0)⟩] ++ Hi) ?_ (src_row (vs := r.cells) (r := []) (.tail _ (.head _))) rfl (fun v hv => ?_) (by omega) (by omega) (by omega) (fun w1 hw1 => hSb _ w1 hw1 (by simp)) rfl (fun svo2 Ho2 howno2 => ?_)
          · have p0 := perm_idx [([⟨tb2, true, .row [I ((x : Nat) : Int)] 3 (0, 0)⟩, ⟨tb, true, .row r.cells 23 (0, 0)⟩, ⟨lb, true, .row (II left ++ spare) 3 (0, 0)⟩] : SH), Ho, Hi] [0, 1, 2] [1, 0, 2] (by decide)
            exact List.Perm.trans (.of_eq (by simp [RB.cells])) (p0.trans (.of_eq (by simp [RB.cells])))
          · simp only [RB.cells, List.mem_cons, List.not_mem_nil, or_false] at hv
            rcases hv with rfl | rfl | rfl <;> rfl
          obtain ⟨ado2, cpo2, rfl⟩ := howno2.slice
          refine finV _ _ _ (by kernel_rfl) ⟨tb2, ado2, cpo2, Ho2, howno2, .cons rfl (.cons rfl (.cons rfl (.cons rfl (.cons rfl (.cons rfl (.cons rfl (.cons rfl (.cons rfl (.cons rfl .nil))))))))), fun w1 h => ?_⟩
          have p0 := perm_idx [([⟨tb2, true, .row [I ((x : Nat) : Int)] 3 (0, 0)⟩] : SH), ([⟨tb, true, .row r.cells 23 (0, 0)⟩] : SH), ([⟨lb, true, .row (II left ++ spare) 3 (0, 0)⟩] : SH), Hi, Ho2] [0, 1, 2, 3, 4] [1, 0, 2, 4, 3] (by decide)
          have h2 := h.perm (List.Perm.trans (.of_eq (by simp)) p0)
          exact h2.sub (by simp)
      · refine GB.bs (BS.one Tryd.underlying59 Tryd.sizeOf3 Tryd.zeroValue3 (v := I ((x : Nat) : Int)) rfl) rfl (fun w1 hw1 => hSb _ w1 hw1 (by simp)) rfl (fun tb2 => ?_)
        refine GA.one 8 rfl (by kernel_rfl) ?_
        refine GB.bs (BS.three (a := S r.m) (b := S r.p) (c := S r.nm) Tryd.underlying28 Tryd.sizeOf23 Tryd.zeroValue23) rfl (fun w1 hw1 => hSb _ w1 hw1 (by simp)) rfl (fun tb => ?_)
        refine GA.one 9 rfl (by kernel_rfl) ?_
        refine GB.app (i := Tryd.t23) (sz := 3) (by_ := 48) Tryd.underlying28 rfl rfl rfl rfl rfl rfl rfl howno (H' := [⟨tb, true, .row r.cells 23 (0, 0)⟩, ⟨tb2, true, .row [I ((x : Nat) : Int)] 3 (0, 0)⟩, ⟨lb, true, .row (II left ++ spare) 3 (0, 0)⟩] ++ Hi) ?_ (src_row (vs := r.cells) (r := []) (.head _)) rfl (fun v hv => ?_) (by omega) (by omega) (by omega) (fun w1 hw1 => hSb _ w1 hw1 (by simp)) rfl (fun svo2 Ho2 howno2 => ?_)
        · have p0 := perm_idx [([⟨tb, true, .row r.cells 23 (0, 0)⟩, ⟨tb2, true, .row [I ((x : Nat) : Int)] 3 (0, 0)⟩, ⟨lb, true, .row (II left ++ spare) 3 (0, 0)⟩] : SH), Ho, Hi] [0, 1, 2] [1, 0, 2] (by decide)
          exact List.Perm.trans (.of_eq (by simp [RB.cells])) (p0.trans (.of_eq (by simp [RB.cells])))
        · simp only [RB.cells, List.mem_cons, List.not_mem_nil, or_false] at hv
          rcases hv with rfl | rfl | rfl <;> rfl
        obtain ⟨ado2, cpo2, rfl⟩ := howno2.slice
        refine finV _ _ _ (by kernel_rfl) ⟨tb2, ado2, cpo2, Ho2, howno2, .cons rfl (.cons rfl (.cons rfl (.cons rfl (.cons rfl (.cons rfl (.cons rfl (.cons rfl (.cons rfl (.cons rfl .nil))))))))), fun w1 h => ?_⟩
        have p0 := perm_idx [([⟨tb, true, .row r.cells 23 (0, 0)⟩] : SH), ([⟨tb2, true, .row [I ((x : Nat) : Int)] 3 (0, 0)⟩] : SH), ([⟨lb, true, .row (II left ++ spare) 3 (0, 0)⟩] : SH), Hi, Ho2] [0, 1, 2, 3, 4] [0, 1, 2, 4, 3] (by decide)
        have h2 := h.perm (List.Perm.trans (.of_eq (by simp)) p0)
        exact h2.sub (by simp)
    rintro fr' H' ⟨x, r, ab, ao, ado2, cpo2, adi2, cpi2, Ho2, Hi2, hx, hrd, rfl, howno2, howni2, hs13, hH13⟩
    refine GC.weak hs13 ?_
    clear hs13
    refine GC.turn hH13 ?_
    refine GC.reg ?_  -- region 14, echo.go:114
    refine G.v (V.mv rfl) rfl ?_
    refine G.v (V.mv rfl) rfl ?_
    refine G.v (V.mv rfl) rfl ?_
    refine G.v (V.addI (r := ((at0 + 1 : Nat) : Int)) rfl rfl rfl (by omega) (by omega)) rfl ?_
    refine G.callW (fun v H2 => v = .slice (some ⟨lb, 0, none⟩) (left.length - 1) Rs.length ∧ H2 = ⟨lb, true, .row (II (left.eraseIdx at0) ++ (I 0 :: spare)) 3 (0, 0)⟩ :: (Ho2 ++ Hi2)) Tryd.call54 rfl rfl (fun w1 hw1 => ?_) ?_
    · exact (f54_any w1 lb Rs.length left spare at0 hat0 (by omega) (by omega) (hw1.has _ (.head _))).mono fun e w' ⟨h1, h2⟩ => ⟨_, _, h1, h2 _ _ _ hw1, rfl, rfl⟩
    rintro v H2 ⟨rfl, rfl⟩
    refine G.v (V.asg rfl) rfl ?_
    refine G.nil ?_
    refine GC.inBlock ?_
    refine GC.reg ?_  -- region 9, echo.go:108
    refine G.v (V.mv rfl) rfl ?_
    refine G.v (V.addI (r := ((k + 1 : Nat) : Int)) rfl rfl rfl (by omega) (by omega)) rfl ?_
    refine G.v (V.asg rfl) rfl ?_
    refine G.nil ?_
    have hel : (left.eraseIdx at0).length = left.length - 1 := List.length_eraseIdx_of_lt hat0
    have hil2 : (idx ++ [x]).length = idx.length + 1 := by simp
    have hp2 : ((idx ++ [x]) ++ left.eraseIdx at0).Perm (List.range Rs.length) := by
      rw [List.append_assoc]
      exact ((erase_perm hx).append_left idx).trans hperm
    have ho : Own 23 3 (.slice ado2 (idx ++ [x]).length cpo2) (idx ++ [x]).length (((idx ++ [x]).map fun i => Rs.getD i dR).flatMap RB.cells) Ho2 := by
      rw [hil2, List.map_append, List.flatMap_append]
      simp only [List.map_cons, List.map_nil, List.flatMap_cons, List.flatMap_nil, List.append_nil, hrd]
      exact howno2
    have hi2 : Own 3 1 (.slice adi2 (idx ++ [x]).length cpi2) (idx ++ [x]).length (II (idx ++ [x])) Hi2 := by
      rw [hil2]
      have : II (idx ++ [x]) = II idx ++ [I ((x : Nat) : Int)] := by simp [II]
      rw [this]; exact howni2
    refine ih (N - 1) _ _ (by omega) ⟨k + 1, left.eraseIdx at0, (idx ++ [x]), _, _, _, Ho2, Hi2, by omega, by omega, hp2, ho, hi2, .cons rfl (.cons rfl (.cons (by rw [hil2]; rfl) (.cons (by rw [hil2]; rfl) (.cons (by rw [hel]; rfl) (.cons rfl .nil))))), rfl⟩
  refine GC.exit rfl ?_
  refine GC.seq ?_
  refine GC.reg ?_  -- region 15, echo.go:116
  refine G.v (V.mv rfl) rfl ?_
  refine G.v (V.mv rfl) rfl ?_
  refine G.v (V.asg rfl) rfl ?_
  refine G.v (V.asg rfl) rfl ?_
  refine G.nil ?_
  have hl0 : left = [] := List.length_eq_zero_iff.1 (by omega)
  subst hl0
  rw [List.append_nil] at hperm
  refine GC.retR (v := .tuple #[.slice ado idx.length cpo, .slice adi idx.length cpi]) (fun a w1 ha hw1 => ?_) fun w' hw' => ?_
  · have g4 := ha.at_ 4 (.slice ado idx.length cpo) rfl
    have g5 := ha.at_ 5 (.slice adi idx.length cpi) rfl
    simp [results, g4, g5]
  · exact ⟨_, _, idx, Ho, Hi, rfl, hperm, howno, howni, hw'.sub (List.sublist_cons_self _ _)⟩
end Go.Proofs

/- From a law's walk to its row: bytes. -/
set_option maxRecDepth 100000
namespace Go.Proofs
open Go Bw Go.ChangeShapes Go.WideShapes Go.ChangeAt Go.RowKit
theorem tryd_c5 : Tryd.prog.cellsOf 5 = 1 := by kernel_rfl
section
variable {H : Type} {enc : TypeId × Value → H} {P : Program} {W : World} {b0 : Nat} {v : Value} {d : DataW H} {ps : List MemPlace}
theorem u8_of {n : Int} (h : (Lit.int .u8 n).wf = true) : ∃ b : UInt8, n = (b.toNat : Int) := by
  simp only [Lit.wf, Bool.and_eq_true, decide_eq_true_eq] at h
  have h0 : 0 ≤ n := h.1
  have h1 : n ≤ 255 := h.2
  refine ⟨UInt8.ofNat n.toNat, ?_⟩
  rw [UInt8.toNat_ofNat']
  omega
theorem open_u8 {t : TypeId} (ht : P.underlying t = some (.int .u8)) (hval : Value.okWide P W .any b0 t v) (hd : DataW.Trod enc P W 0 (fun _ => true) true t v d ps) : ∃ b : UInt8, v = .int .u8 (b.toNat : Int) := by
  obtain ⟨n, rfl, _, _, hw⟩ := open_int ht hval hd
  obtain ⟨b, rfl⟩ := u8_of hw
  exact ⟨b, rfl⟩
theorem open_bytes {t e : TypeId} (ht : P.underlying t = some (.slice e)) (he : P.underlying e = some (.int .u8)) (hc : P.cellsOf e = 1) (hval : Value.okWide P W .any b0 t v) (hd : DataW.Trod enc P W 0 (fun _ => true) true t v d ps) :
    ∃ ad cp bs, v = .slice ad bs.length cp ∧ bs.length ≤ cp ∧ BytesAt W ad bs := by
  obtain ⟨a0, len0, cap0, rfl⟩ := okWide_slice ht hval
  obtain ⟨fuel, hf⟩ := hd
  have hcs0 : (Value.slice a0 len0 cap0).cells.toList = [.slice a0 len0 cap0] := rfl
  rw [hcs0] at hf
  rcases open_ints ht he hc hf with ⟨h1, _⟩ | ⟨a, len, cap, zs, h1, _, hl, hm, hz, _, hcell, hwf⟩
  · simp only [List.cons.injEq, Value.slice.injEq, and_true] at h1
    obtain ⟨rfl, rfl, rfl⟩ := h1
    exact ⟨none, 0, [], rfl, Nat.le_refl _, fun j x hx => by simp at hx⟩
  · simp only [List.cons.injEq, Value.slice.injEq, and_true] at h1
    obtain ⟨rfl, rfl, rfl⟩ := h1
    simp only [if_true] at hz
    have hlen : (zs.take len0).length = len0 := by rw [List.length_take]; omega
    refine ⟨some a, cap0, (zs.take len0).map fun n => UInt8.ofNat n.toNat, ?_, ?_, fun j x hx => ?_⟩
    · rw [List.length_map, hlen]
    · rw [List.length_map, hlen]; exact hl
    · rw [List.getElem?_map, List.getElem?_take] at hx
      split at hx
      · obtain ⟨n, hs, rfl⟩ := Option.map_eq_some_iff.1 hx
        have hlt := (List.getElem?_eq_some_iff.1 hs).1
        have h2 := hcell j hlt
        obtain ⟨b, o, rfl⟩ := addr_of (show W.cell? a = _ by simpa [Addr.add] using hcell 0 (by omega))
        refine ⟨b, o, rfl, ?_⟩
        rw [add_at] at h2
        obtain ⟨c, hcn⟩ := u8_of (hwf n (List.mem_of_getElem? hs))
        rw [Nat.mul_one, h2, List.getD_eq_getElem?_getD, hs, Option.getD_some, hcn]
        simp
      · cases hx
end
end Go.Proofs
