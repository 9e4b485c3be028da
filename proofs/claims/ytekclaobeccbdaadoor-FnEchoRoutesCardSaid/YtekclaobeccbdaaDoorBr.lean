/- Router.Reverse: a route of a name, found in the map of routes. -/
import Derived.Test.YtekclaobeccbdaaDoorBi
import Derived.Test.YtekclaobeccbdaaDoorBa
import Derived.Test.YtekclaobeccbdaaDoorBj
import Derived.Test.YtekclaobeccbdaaDoorBb
/- Quiet regions: guarded operations; the first part of a slice. No program in sight. -/
namespace Bw
open Go Go.Proofs
theorem GQ.gd {P : Program} {c : Cx} {n : Nat} {k : List Item} {fr : SF} {H : SH} {ops : Array Oper} {rest : List Oper} {op : Op} {ty : TypeId} {d : Option Tmp} {j t : Nat} {b : Bool} {pos : String} {aft : Array Edge} (hj : (ops[j]?).bind (·.dst) = some t) (hb : look t fr = some (.bool b))
    (h : GQ P c n k ops (⟨d, op, ty, pos, aft, none⟩ :: rest) fr H) : GQ P c n k ops (⟨d, op, ty, pos, aft, some (j, b)⟩ :: rest) fr H := by
  intro hf a ha
  have h1 := h hf a ha
  have hy : yielded ops a.tmps j = some b := by simp [yielded, hj, ha.at_ t _ hb]
  have w1 : Region.wanted ⟨d, op, ty, pos, aft, some (j, b)⟩ (yielded ops a.tmps) = true := by simp [Region.wanted, hy]
  have w0 : Region.wanted ⟨d, op, ty, pos, aft, none⟩ (yielded ops a.tmps) = true := rfl
  unfold wpQuiet at h1 ⊢
  rw [if_pos w0] at h1
  rw [if_pos w1]
  exact h1
theorem GQ.sgU {P : Program} {c : Cx} {n : Nat} {k : List Item} {fr : SF} {H : SH} {ops : Array Oper} {rest : List Oper} {o : Oper} {j t d : Nat} {want : Bool} (hg : o.guard = some (j, want)) (hdst : o.dst = some d) (hj : (ops[j]?).bind (·.dst) = some t) (hb : look t fr = some undef) (hd : Nat.blt d n = true)
    (hk : GQ P c n k ops rest ((d, undef) :: fr) H) : GQ P c n k ops (o :: rest) fr H := by
  intro hf a ha
  refine wpQuiet_step fun K hK => ?_
  have hy : yielded ops a.tmps j = none := by simp [yielded, hj, ha.at_ t _ hb, undef]
  have hwn : Region.wanted o (yielded ops a.tmps) = false := by simp [Region.wanted, hg, hy]
  simp only [hwn, hdst]
  exact hK _ (hk hf _ (ha.put hd undef))
theorem V.slTH {P : Program} {c : Cx} {n : Nat} {fr : SF} {H : SH} {ty t e : TypeId} {x y : Operand} {ad : Option Addr} {len cp i s : Nat} {kd : IntKind} (hU : P.underlying t = some (.slice e)) (hs : ∀ w, (Go.sizeOf e).run P w = .ok s w) (hx : ev fr x = some (.slice ad len cp)) (hy : ev fr y = some (.int kd (i : Int))) (hi : i ≤ cp) :
    Val P c n (.slice t x none (some y) none) ty fr H (.slice ad i cp) := by
  intro a w ha hw dst pos aft g
  simp [execOp, ha.eval hx, ha.eval hy, Instr.sliceAt, Instr.slice, underlying, hU, Instr.sliceBounds, Instr.sliceBound, asIntOf, hi, hs]
  intro _; cases ad <;> simp [Addr.add]
end Bw

/- EchoKeys. Printed by wip/mk_j5.py. -/
namespace Go.Proofs
open Go Bw
set_option maxRecDepth 20000

/-- no two routes whose methods and paths run together to the same -/
def Keyed (Rs : List RB) : Prop := ∀ (i j : Nat) (a b : RB), j < i → Rs[i]? = some a → Rs[j]? = some b → a.m ++ a.p = b.m ++ b.p → a.m = b.m ∧ a.p = b.p

theorem f26_any (w : World) (ad : Option Addr) (cp : Nat) (Rs : List RB) (hat : RtsAt w ad Rs) (hRt : Right Rs) (hcp : Rs.length ≤ cp) : Calls Tryd.prog 26 #[.slice ad Rs.length cp] w fun e w' => ∃ b : Bool, (b = true → Keyed Rs) ∧ e = .returned (.bool b) ∧ HF w (fun _ => False) [] w' := by
  refine enter (fun _ => False) [] Tryd.func26 rfl Tryd.ntmps26 rfl rfl (HF.start w _) fun c hc => ?_
  subst hc
  have hlen := hRt.1
  refine GC.seq ?_
  refine GC.reg ?_  -- region 0, echo.go:199
  refine G.v (V.asg rfl) rfl ?_
  refine G.nil ?_
  refine GC.seq ?_
  refine GC.seq ?_
  refine GC.reg ?_  -- region 1, echo.go:200
  refine G.v (V.mv rfl) rfl ?_
  refine G.v (V.lenL Tryd.underlying28 rfl) rfl ?_
  refine G.v (V.mv rfl) rfl ?_
  refine G.nil ?_
  refine GC.block ?_
  refine GC.loopJ (fun N fr' H' => ∃ i, i + N = Rs.length ∧ (∀ i' j' a b, i' < i → j' < i' → Rs[i']? = some a → Rs[j']? = some b → a.m ++ a.p = b.m ++ b.p → a.m = b.m ∧ a.p = b.p) ∧ Sub [(9, .slice ad Rs.length cp), (10, I (Rs.length : Nat)), (11, I ((i : Nat) : Int)), (0, .slice ad Rs.length cp)] fr' ∧ H' = []) Rs.length
    ⟨0, by omega, fun i' j' a b h => absurd h (Nat.not_lt_zero i'), .cons rfl (.cons rfl (.cons rfl (.cons rfl .nil))), rfl⟩ ?_
  rintro N fr' H' ⟨i, hi, hall, hs, rfl⟩ ih
  refine GC.weak hs ?_
  clear hs
  refine GC.seq ?_
  refine GC.reg ?_  -- region 2, echo.go:200
  refine G.v (V.lt rfl rfl) rfl ?_
  refine G.nil ?_
  refine GC.seq ?_
  refine GC.condD rfl (fun h12 => ?_) (fun h12 => ?_)
  · refine GC.skip ?_
    refine GC.seq ?_
    refine GC.block ?_
    refine GC.seq ?_
    have hlt : i < Rs.length := by omega
    obtain ⟨r, hr⟩ : ∃ r, Rs[i]? = some r := ⟨_, List.getElem?_eq_getElem hlt⟩
    have hR := hRt.2 r (List.mem_of_getElem? hr)
    have heP := ePath_of hR.hd
    have hrpl := hR.pl
    have hrml := hR.ml
    have hcell : ∃ ab o, ad = some ⟨ab, o, none⟩ ∧ ∀ k v, r.cells[k]? = some v → w.cell? ⟨ab, o + i * 3 + k, none⟩ = some v := hat i r hr
    obtain ⟨ab, o, rfl, hcell⟩ := hcell
    refine GC.reg ?_  -- region 3, echo.go:200
    refine G.v (V.mv rfl) rfl ?_
    refine G.v (V.ia (i := i) Tryd.underlying28 Tryd.sizeOf23 rfl rfl hlt) rfl ?_
    refine G.v (V.ldAC (cs := r.cells) Tryd.isAgg23 Tryd.sizeOf23 rfl hcell rfl id) rfl ?_
    refine G.al Tryd.zeroValue23 rfl rfl (fun xb hxb => ?_)
    refine G.v (V.asg rfl) rfl ?_
    refine G.stA (cs := r.cells) Tryd.sizeOf23 rfl rfl (fun v hv => ?_) .z rfl ?_
    · simp only [RB.cells, List.mem_cons, List.not_mem_nil, or_false] at hv
      rcases hv with rfl | rfl | rfl <;> rfl
    refine G.nil ?_
    refine GC.seq ?_
    refine GC.turn (H' := [⟨xb, true, .row r.cells 23 (0, 0)⟩]) (fun w1 hw1 => hw1) ?_
    refine GC.reg ?_  -- region 4, echo.go:201
    refine G.v (V.mv rfl) rfl ?_
    refine G.v (V.mv rfl) rfl ?_
    refine G.v (V.slTH (i := i) Tryd.underlying28 Tryd.sizeOf23 rfl rfl (by omega)) rfl ?_
    refine G.v (V.lenL Tryd.underlying28 rfl) rfl ?_
    refine G.v (V.mv rfl) rfl ?_
    refine G.nil ?_
    refine GC.block ?_
    refine GC.loopJ (fun M fr2 H2 => ∃ j, j + M = i ∧ (∀ j' b, j' < j → Rs[j']? = some b → r.m ++ r.p = b.m ++ b.p → r.m = b.m ∧ r.p = b.p) ∧ Sub [(9, .slice (some ⟨ab, o, none⟩) Rs.length cp), (10, I (Rs.length : Nat)), (11, I ((i : Nat) : Int)), (0, .slice (some ⟨ab, o, none⟩) Rs.length cp), (4, Pt xb 0), (18, .slice (some ⟨ab, o, none⟩) i cp), (19, I ((i : Nat) : Int)), (20, I ((j : Nat) : Int))] fr2 ∧ H2 = [⟨xb, true, .row r.cells 23 (0, 0)⟩]) i
      ⟨0, by omega, fun j' b h => absurd h (Nat.not_lt_zero j'), .cons rfl (.cons rfl (.cons rfl (.cons rfl (.cons rfl (.cons rfl (.cons rfl (.cons rfl .nil))))))), rfl⟩ ?_
    rintro M fr2 H2 ⟨j, hj, hin, hs, rfl⟩ ih2
    refine GC.weak hs ?_
    clear hs
    refine GC.seq ?_
    refine GC.reg ?_  -- region 5, echo.go:201
    refine G.v (V.lt rfl rfl) rfl ?_
    refine G.nil ?_
    refine GC.seq ?_
    refine GC.condD rfl (fun h21 => ?_) (fun h21 => ?_)
    · refine GC.skip ?_
      refine GC.seq ?_
      refine GC.block ?_
      refine GC.seq ?_
      have hjl : j < i := by omega
      obtain ⟨q, hq⟩ : ∃ q, Rs[j]? = some q := ⟨_, List.getElem?_eq_getElem (by omega)⟩
      have hQ := hRt.2 q (List.mem_of_getElem? hq)
      have heQ := ePath_of hQ.hd
      have hqpl := hQ.pl
      have hqml := hQ.ml
      have hqc : ∀ k v, q.cells[k]? = some v → w.cell? ⟨ab, o + j * 3 + k, none⟩ = some v := by
        obtain ⟨b2, o2, e, h⟩ := hat j q hq
        cases e
        exact h
      refine GC.reg ?_  -- region 6, echo.go:201
      refine G.v (V.ia (i := j) Tryd.underlying28 Tryd.sizeOf23 rfl rfl hjl) rfl ?_
      refine G.v (V.ldAC (cs := q.cells) Tryd.isAgg23 Tryd.sizeOf23 rfl hqc rfl id) rfl ?_
      refine G.al Tryd.zeroValue23 rfl rfl (fun yb hyb => ?_)
      refine G.stA (cs := q.cells) Tryd.sizeOf23 rfl rfl (fun v hv => ?_) .z rfl ?_
      · simp only [RB.cells, List.mem_cons, List.not_mem_nil, or_false] at hv
        rcases hv with rfl | rfl | rfl <;> rfl
      refine G.nil ?_
      refine GC.seq ?_
      refine GC.turn (H' := [⟨yb, true, .row q.cells 23 (0, 0)⟩, ⟨xb, true, .row r.cells 23 (0, 0)⟩]) (fun w1 hw1 => hw1) ?_
      refine GC.regQ mixed (by kernel_rfl) ?_  -- region 7, echo.go:202
      refine GQ.v (V.fa F23_1 rfl) rfl ?_
      refine GQ.v (V.ld (b := xb) (off := 0 + 1) (wf := true) (l := r.cells) (T := 23) (fz := (0, 0)) (v := S r.p) Tryd.isAgg9 rfl (.tail _ (.head _)) rfl) rfl ?_
      refine GQ.callP (v := S r.p) Tryd.call21 rfl rfl (fun w1 hw1 => (f21_any w1 r.p (by omega)).mono fun e w' h => by rw [heP] at h; exact h) ?_
      refine GQ.v (V.fa F23_1 rfl) rfl ?_
      refine GQ.v (V.ld (b := yb) (off := 0 + 1) (wf := true) (l := q.cells) (T := 23) (fz := (0, 0)) (v := S q.p) Tryd.isAgg9 rfl (.head _) rfl) rfl ?_
      refine GQ.callP (v := S q.p) Tryd.call21 rfl rfl (fun w1 hw1 => (f21_any w1 q.p (by omega)).mono fun e w' h => by rw [heQ] at h; exact h) ?_
      refine GQ.v (V.asg rfl) rfl ?_
      refine GQ.v (V.asg rfl) rfl ?_
      refine GQ.nil ?_
      refine GC.seq ?_
      refine GC.join (fun fr2 H2 => ∃ b : Bool, (b = false → r.m ++ r.p = q.m ++ q.p → r.m = q.m ∧ r.p = q.p) ∧ Sub [(9, .slice (some ⟨ab, o, none⟩) Rs.length cp), (10, I (Rs.length : Nat)), (11, I ((i : Nat) : Int)), (0, .slice (some ⟨ab, o, none⟩) Rs.length cp), (4, Pt xb 0), (18, .slice (some ⟨ab, o, none⟩) i cp), (19, I ((i : Nat) : Int)), (20, I ((j : Nat) : Int)), (50, .bool b)] fr2 ∧ [⟨yb, true, .row q.cells 23 (0, 0)⟩, ⟨xb, true, .row r.cells 23 (0, 0)⟩] = H2) (fun J8 => ?_) ?_
      · refine GC.reg ?_  -- region 8, echo.go:202
        refine G.v (V.fa F23_0 rfl) rfl ?_
        refine G.v (V.ld (b := xb) (off := 0 + 0) (wf := true) (l := r.cells) (T := 23) (fz := (0, 0)) (v := S r.m) Tryd.isAgg9 rfl (.tail _ (.head _)) rfl) rfl ?_
        refine G.v (V.fa F23_0 rfl) rfl ?_
        refine G.v (V.ld (b := yb) (off := 0 + 0) (wf := true) (l := q.cells) (T := 23) (fz := (0, 0)) (v := S q.m) Tryd.isAgg9 rfl (.head _) rfl) rfl ?_
        refine G.v (V.neS rfl rfl) rfl ?_
        refine G.v (V.mv rfl) rfl ?_
        refine G.bc 35 rfl (fun h35 => ?_) (fun h35 => ?_)
        · refine G.sg rfl rfl rfl rfl rfl rfl ?_
          refine G.sg rfl rfl rfl rfl rfl rfl ?_
          refine G.sg rfl rfl rfl rfl rfl rfl ?_
          refine G.v (V.pickT rfl rfl) rfl ?_
          refine G.v (V.mv rfl) rfl ?_
          refine G.vg rfl rfl (V.fa F23_0 rfl) rfl ?_
          refine G.vg rfl rfl (V.ld (b := xb) (off := 0 + 0) (wf := true) (l := r.cells) (T := 23) (fz := (0, 0)) (v := S r.m) Tryd.isAgg9 rfl (.tail _ (.head _)) rfl) rfl ?_
          refine G.vg rfl rfl (V.mv rfl) rfl ?_
          refine G.vg rfl rfl (V.cat rfl rfl (by omega)) rfl ?_
          refine G.vg rfl rfl (V.fa F23_0 rfl) rfl ?_
          refine G.vg rfl rfl (V.ld (b := yb) (off := 0 + 0) (wf := true) (l := q.cells) (T := 23) (fz := (0, 0)) (v := S q.m) Tryd.isAgg9 rfl (.head _) rfl) rfl ?_
          refine G.vg rfl rfl (V.mv rfl) rfl ?_
          refine G.vg rfl rfl (V.cat rfl rfl (by omega)) rfl ?_
          refine G.vg rfl rfl (V.eqS rfl rfl) rfl ?_
          refine G.v (V.pickT rfl rfl) rfl ?_
          refine G.nil ?_
          exact J8 _ _ ⟨_, fun h e => absurd e (of_decide_eq_false h), .cons rfl (.cons rfl (.cons rfl (.cons rfl (.cons rfl (.cons rfl (.cons rfl (.cons rfl (.cons rfl .nil)))))))), rfl⟩
        · refine G.vg rfl rfl (V.mv rfl) rfl ?_
          refine G.vg rfl rfl (V.mv rfl) rfl ?_
          refine G.vg rfl rfl (V.neS rfl rfl) rfl ?_
          refine G.v (V.pickF rfl rfl) rfl ?_
          refine G.v (V.mv rfl) rfl ?_
          refine G.bc 40 rfl (fun h40 => ?_) (fun h40 => ?_)
          · refine G.vg rfl rfl (V.fa F23_0 rfl) rfl ?_
            refine G.vg rfl rfl (V.ld (b := xb) (off := 0 + 0) (wf := true) (l := r.cells) (T := 23) (fz := (0, 0)) (v := S r.m) Tryd.isAgg9 rfl (.tail _ (.head _)) rfl) rfl ?_
            refine G.vg rfl rfl (V.mv rfl) rfl ?_
            refine G.vg rfl rfl (V.cat rfl rfl (by omega)) rfl ?_
            refine G.vg rfl rfl (V.fa F23_0 rfl) rfl ?_
            refine G.vg rfl rfl (V.ld (b := yb) (off := 0 + 0) (wf := true) (l := q.cells) (T := 23) (fz := (0, 0)) (v := S q.m) Tryd.isAgg9 rfl (.head _) rfl) rfl ?_
            refine G.vg rfl rfl (V.mv rfl) rfl ?_
            refine G.vg rfl rfl (V.cat rfl rfl (by omega)) rfl ?_
            refine G.vg rfl rfl (V.eqS rfl rfl) rfl ?_
            refine G.v (V.pickT rfl rfl) rfl ?_
            refine G.nil ?_
            exact J8 _ _ ⟨_, fun h e => absurd e (of_decide_eq_false h), .cons rfl (.cons rfl (.cons rfl (.cons rfl (.cons rfl (.cons rfl (.cons rfl (.cons rfl (.cons rfl .nil)))))))), rfl⟩
          · refine G.sg rfl rfl rfl rfl rfl rfl ?_
            refine G.sg rfl rfl rfl rfl rfl rfl ?_
            refine G.sg rfl rfl rfl rfl rfl rfl ?_
            refine G.sg rfl rfl rfl rfl rfl rfl ?_
            refine G.sg rfl rfl rfl rfl rfl rfl ?_
            refine G.sg rfl rfl rfl rfl rfl rfl ?_
            refine G.sg rfl rfl rfl rfl rfl rfl ?_
            refine G.sg rfl rfl rfl rfl rfl rfl ?_
            refine G.sg rfl rfl rfl rfl rfl rfl ?_
            refine G.v (V.pickF rfl rfl) rfl ?_
            refine G.nil ?_
            exact J8 _ _ ⟨_, fun h e => ⟨by simpa using h35, by simpa using h40⟩, .cons rfl (.cons rfl (.cons rfl (.cons rfl (.cons rfl (.cons rfl (.cons rfl (.cons rfl (.cons rfl .nil)))))))), rfl⟩
      rintro fr2 H2 ⟨b8, hb8, hs8, rfl⟩
      refine GC.weak hs8 ?_
      clear hs8
      refine GC.cond rfl (fun h50 => ?_) (fun h50 => ?_)
      · refine GC.seq ?_
        refine GC.reg ?_  -- region 9, echo.go:203
        refine G.v (V.asg rfl) rfl ?_
        refine G.nil ?_
        exact GC.ret1 rfl rfl fun w' hw' => ⟨false, fun h => (by cases h), rfl, hw'.sub (List.nil_sublist _)⟩
      refine GC.skip ?_
      refine GC.inBlock ?_
      refine GC.reg ?_  -- region 10, echo.go:201
      refine G.v (V.addI (r := ((j + 1 : Nat) : Int)) rfl rfl rfl (by omega) (by omega)) rfl ?_
      refine G.v (V.mv rfl) rfl ?_
      refine G.nil ?_
      refine GC.weakH (List.sublist_cons_self _ _) (ih2 (M - 1) _ _ (by omega) ⟨j + 1, by omega, fun j' b h1 h2 => ?_, .cons rfl (.cons rfl (.cons rfl (.cons rfl (.cons rfl (.cons rfl (.cons rfl (.cons rfl .nil))))))), rfl⟩)
      by_cases hjj : j' = j
      · subst hjj; rw [hq] at h2; cases h2; exact hb8 h50
      · exact hin j' b (by omega) h2
    refine GC.exit rfl ?_
    refine GC.inBlock ?_
    refine GC.reg ?_  -- region 11, echo.go:200
    refine G.v (V.addI (r := ((i + 1 : Nat) : Int)) rfl rfl rfl (by omega) (by omega)) rfl ?_
    refine G.v (V.mv rfl) rfl ?_
    refine G.nil ?_
    refine GC.weakH (List.nil_sublist _) (ih (N - 1) _ _ (by omega) ⟨i + 1, by omega, fun i' j' a b h1 h2 h3 h4 => ?_, .cons rfl (.cons rfl (.cons rfl (.cons rfl .nil))), rfl⟩)
    by_cases hii : i' = i
    · subst hii; rw [hr] at h3; cases h3; exact hin j' b (by omega) h4
    · exact hall i' j' a b (by omega) h2 h3 h4
  refine GC.exit rfl ?_
  refine GC.seq ?_
  refine GC.reg ?_  -- region 12, echo.go:207
  refine G.v (V.asg rfl) rfl ?_
  refine G.nil ?_
  exact GC.ret1 rfl rfl fun w' hw' => ⟨true, fun _ i' j' a b h1 h2 h3 => hall i' j' a b (by have := (List.getElem?_eq_some_iff.1 h2).1; omega) h1 h2 h3, rfl, hw'.sub (List.nil_sublist _)⟩
end Go.Proofs

/- Router.Reverse. Printed by wip/mk_j6.py. -/
namespace Go.Proofs
open Go Bw
set_option maxRecDepth 20000

/-- the shape of WriteByte's contract -/
def _root_.Bw.BSpec (P : Program) (f : FuncId) (T e : TypeId) : Prop :=
  ∀ (B b : Nat) (bs : List Value) (c : Int) (w : World), Lib.IsBuffer T e B b bs w → B ≤ w.heap.size → (∀ v ∈ bs, v.oneCell' = true) → bs.length + 1 ≤ 140737488355328 →
    Calls P f #[.pointer (some ⟨b, 0, none⟩), .int .u8 c] w fun e' w' => e' = .returned .nilIface ∧ Lib.IsBuffer T e B b (bs ++ [.int .u8 c]) w' ∧ RowKit.Below B w w' ∧ Lib.OthersKept e (some b) w w'
theorem bspec : Bw.BSpec Tryd.prog 117 175 5 := fun B b bs c w h1 h2 h3 h4 => Tryd.Buffer_WriteByte_k B b bs c w h1 h2 h3 h4
theorem _root_.Bw.G.wb {P : Program} {c : Cx} {n : Nat} {k : List Item} {fr : SF} {H : SH} {ops : Array Oper} {rest : List Oper} {ty : TypeId} {pos : String} {aft : Array Edge} {f T e : Nat} (hws : Bw.BSpec P f T e) (hg : ∀ (args : Array Value) w, (callFunc f args).run P w = .ok (.enter f args) w) {x y : Operand} {b : Nat} {bs : List UInt8} {u : UInt8} {HB : SH} {tys : Array TypeId} {d : Nat} (hx : ev fr x = some (Pt b 0)) (hy : ev fr y = some (.int .u8 (u.toNat : Int)))
    (hd : Nat.blt d n = true) (hB : Buf T e c.w0.heap.size b bs HB) (hn : NoRow e c.w0.heap.size H) (hl : bs.length + 1 ≤ 140737488355328)
    (hk : ∀ HB', Buf T e c.w0.heap.size b (bs ++ [u]) HB' → G P c n k ops rest ((d, .nilIface) :: fr) (HB' ++ H)) :
    G P c n k ops (⟨some d, .call ⟨.value (.func f), #[x, y], tys⟩, ty, pos, aft, none⟩ :: rest) fr (HB ++ H) := by
  refine G.callW (xs := [x, y]) (vs := [Pt b 0, .int .u8 (u.toNat : Int)]) (fun v H' => v = .nilIface ∧ ∃ HB', Buf T e c.w0.heap.size b (bs ++ [u]) HB' ∧ H' = HB' ++ H) hg (by simp [evs, hx, hy]) hd (fun w hw => ?_) (fun v H' ⟨h1, HB', h2, h3⟩ => ?_)
  · refine (hws c.w0.heap.size b (bC bs) (u.toNat : Int) w (hB.is hw) hw.size (bC_one bs) (by rw [bC_len]; exact hl)).mono fun e' w' ⟨h1, h2, h3, h4⟩ => ?_
    have h2' : Lib.IsBuffer T e c.w0.heap.size b (bC (bs ++ [u])) w' := by rw [bC_app]; simpa [bC, Lib.byteCells] using h2
    obtain ⟨HB', b1, b2⟩ := hB.kept hw hn h2' h3 h4
    exact ⟨_, _, h1, b2, rfl, HB', b1, rfl⟩
  · subst h1; subst h3
    exact hk HB' h2
theorem rvf_nil (c : UInt8) (r : List UInt8) : rv false (c :: r) [] = c :: rv false r [] := rfl
theorem rvf_val {c : UInt8} {r : List UInt8} {v : List UInt8} {ws : List (List UInt8)} (h : c = 58 ∨ c = 42) : rv false (c :: r) (v :: ws) = v ++ rv true r ws := by rw [rv, if_pos h]
theorem rvf_no {c : UInt8} {r : List UInt8} {ws : List (List UInt8)} (h : ws = [] ∨ ¬ (c = 58 ∨ c = 42)) : rv false (c :: r) ws = c :: rv false r ws := by
  cases ws with
  | nil => rfl
  | cons v ws => rw [rv, if_neg (h.resolve_left (by simp))]
theorem rvt_no {c : UInt8} {r : List UInt8} {ws : List (List UInt8)} (h : c ≠ 47) : rv true (c :: r) ws = rv true r ws := by rw [rv, if_neg h]
theorem rvt_sl {r : List UInt8} {ws : List (List UInt8)} : rv true (47 :: r) ws = 47 :: rv false r ws := by rw [rv, if_pos rfl]

theorem f79_any (w : World) (rb rt : Nat) (kv : KV) (Qs : List RB) (nm : List UInt8) (adv : Option Addr) (cpv : Nat) (ws : List (List UInt8)) (hrb : w.cell? ⟨rb, 1, none⟩ = some (.map (some rt))) (hkv : w.heap[rt]? = some (mkM kv)) (hql : Qs.length = kv.length)
    (hQ : ∀ (j : Nat) p, kv[j]? = some p → ∃ nb q, p.2 = Pt nb 0 ∧ Qs[j]? = some q ∧ ∀ k v, q.cells[k]? = some v → w.cell? ⟨nb, k, none⟩ = some v) (hok : ∀ q ∈ Qs, 92 ∉ q.p ∧ q.p.length ≤ 100000) (hx0 : TxAt w adv ws) (hwl : ws.length ≤ 1000) (hwb : ∀ x ∈ ws, x.length ≤ 1000) :
    Calls Tryd.prog 79 #[Pt rb 0, S nm, .slice adv ws.length cpv] w fun e w' => ∃ R, e = .returned (S R) ∧ ((∃ q ∈ Qs, q.nm = nm ∧ R = rv false q.p ws) ∨ (∀ q ∈ Qs, q.nm ≠ nm)) ∧ HF w (fun _ => False) [] w' := by
  refine enter (fun _ => False) [] Tryd.func79 rfl Tryd.ntmps79 rfl rfl (HF.start w _) fun c hc => ?_
  subst hc
  refine GC.seq ?_
  refine GC.reg ?_  -- region 0, router.go:157
  refine G.v (V.asg rfl) rfl ?_
  refine G.nil ?_
  refine GC.seq ?_
  refine GC.reg ?_  -- region 1, router.go:158
  refine G.al Tryd.zeroValue175 rfl rfl (fun b hb => ?_)
  replace hb : w.heap.size ≤ b := hb
  refine G.v (V.asg rfl) rfl ?_
  refine G.nil ?_
  refine GC.seq ?_
  refine GC.reg ?_  -- region 2, router.go:159
  refine G.v (V.mv rfl) rfl ?_
  refine G.v (V.lenL Tryd.underlying24 rfl) rfl ?_
  refine G.v (V.asg rfl) rfl ?_
  refine G.nil ?_
  refine GC.seq ?_
  refine GC.reg ?_  -- region 3, router.go:160
  refine G.v (V.asg rfl) rfl ?_
  refine G.nil ?_
  refine GC.seq ?_
  refine GC.seq ?_
  refine GC.reg ?_  -- region 4, router.go:161
  refine G.v (V.mv rfl) rfl ?_
  refine G.v (V.nc rfl) rfl ?_
  refine G.v (V.fa F139_1 rfl) rfl ?_
  refine G.v (V.ldC (v := .map (some rt)) Tryd.isAgg137 rfl hrb id) rfl ?_
  have hrtl : rt < w.heap.size := (Array.getElem?_eq_some_iff.1 hkv).1
  refine G.turn (H' := [⟨rt, false, .obj (mkM kv)⟩, ⟨b, true, .row [.slice none 0 0, .int .i64 0, .int .i8 0] 175 (0, 0)⟩]) (fun w1 hw1 => hw1.add (hw1.old hkv id) (fun h => by cases h) (fun e he h => ?_)) ?_
  · simp only [List.mem_singleton] at he
    subst he
    have : b = rt := h
    omega
  refine G.rng (kv := kv) Tryd.underlying137 rfl (.head _) rfl (fun it hit => ?_)
  have hB0 : Buf 175 5 w.heap.size b [] [⟨b, true, .row [.slice none 0 0, .int .i64 0, .int .i8 0] 175 (0, 0)⟩] := .nil hb rfl
  have hnr : ∀ s, NoRow 5 w.heap.size [⟨it, true, .obj (mkIt rt kv.length s kv.length)⟩, ⟨rt, false, .obj (mkM kv)⟩] := fun s => .cons (.inr (fun c fz h => by cases h)) (.cons (.inl hrtl) .nil)
  refine G.nil ?_
  refine GC.join (fun fr' H' => ∃ R HB Hx, Buf 175 5 w.heap.size b R HB ∧ ((∃ q ∈ Qs, q.nm = nm ∧ R = rv false q.p ws) ∨ (∀ q ∈ Qs, q.nm ≠ nm)) ∧ Sub [(7, Pt b 0)] fr' ∧ H' = HB ++ Hx) (fun J21 => ?_) ?_
  · refine GC.block ?_
    refine GC.loopJ (fun N fr' H' => ∃ rem seen, List.length rem = N ∧ (rem ++ seen).Perm (List.range kv.length) ∧ (∀ j ∈ seen, ∀ q, Qs[j]? = some q → q.nm ≠ nm) ∧ Sub [(0, Pt rb 0), (1, S nm), (2, .slice adv ws.length cpv), (7, Pt b 0), (8, I (ws.length : Nat)), (9, I 0), (22, Pt it 0)] fr' ∧ ∀ w1, HF w (fun _ => False) H' w1 → HF w (fun _ => False) ([⟨it, true, .obj (mkIt rt kv.length seen kv.length)⟩, ⟨rt, false, .obj (mkM kv)⟩] ++ [⟨b, true, .row [.slice none 0 0, .int .i64 0, .int .i8 0] 175 (0, 0)⟩]) w1) kv.length
      ⟨List.range kv.length, [], List.length_range, by simp, fun j h => (by cases h), .cons rfl (.cons rfl (.cons rfl (.cons rfl (.cons rfl (.cons rfl (.cons rfl .nil)))))), fun w1 h => h⟩ ?_
    rintro N fr' H' ⟨rem, seen, hN, hp1, hno, hs, hH⟩ ih
    refine GC.weak hs ?_
    clear hs
    refine GC.turn hH ?_
    refine GC.seq ?_
    refine GC.reg ?_  -- region 5, router.go:161
    refine G.nxt (kv := kv) rfl .z (.tail _ (.head _)) rfl (fun hall => ?_) (fun j p hj hns => ?_)
    · have hnone : ∀ q ∈ Qs, q.nm ≠ nm := fun q hq => by
        obtain ⟨j, hj⟩ := List.getElem?_of_mem hq
        exact hno j (hall j (by rw [← hql]; exact (List.getElem?_eq_some_iff.1 hj).1)) q hj
      refine G.v (V.ex rfl rfl) rfl ?_
      refine G.nil ?_
      refine GC.seq ?_
      refine GC.condF rfl ?_
      refine GC.exit rfl ?_
      exact GC.turn (H' := [⟨b, true, .row [.slice none 0 0, .int .i64 0, .int .i8 0] 175 (0, 0)⟩] ++ [⟨it, true, .obj (mkIt rt kv.length seen kv.length)⟩, ⟨rt, false, .obj (mkM kv)⟩]) (fun w1 hw1 => hw1.perm List.perm_append_comm) (J21 _ _ ⟨[], _, _, hB0, .inr hnone, .cons rfl .nil, rfl⟩)
    · obtain ⟨nb, q, hpe, hq, hqc⟩ := hQ j p hj
      obtain ⟨hq92, hqpl⟩ := hok q (List.mem_of_getElem? hq)
      refine G.v (V.ex rfl rfl) rfl ?_
      refine G.nil ?_
      refine GC.seq ?_
      refine GC.condT rfl ?_
      refine GC.skip ?_
      refine GC.block ?_
      refine GC.seq ?_
      refine GC.reg ?_  -- region 6, router.go:161
      refine G.v (V.ent (kv := kv) rfl (.head _) (.tail _ (.head _)) hj) rfl ?_
      rw [hpe]
      refine G.v (V.ex rfl rfl) rfl ?_
      refine G.v (V.asg rfl) rfl ?_
      refine G.nil ?_
      refine GC.seq ?_
      refine GC.reg ?_  -- region 7, router.go:162
      refine G.v (V.mv rfl) rfl ?_
      refine G.v (V.nc rfl) rfl ?_
      refine G.v (V.fa F81_2 rfl) rfl ?_
      refine G.v (V.ldC (v := S q.nm) Tryd.isAgg9 rfl (hqc 2 _ rfl) id) rfl ?_
      refine G.v (V.mv rfl) rfl ?_
      refine G.v (V.eqS rfl rfl) rfl ?_
      refine G.nil ?_
      refine GC.condD rfl (fun h32 => ?_) (fun h32 => ?_)
      · refine GC.seq ?_
        refine GC.seq ?_
        have hnmq : q.nm = nm := h32
        refine GC.turn (H' := [⟨b, true, .row [.slice none 0 0, .int .i64 0, .int .i8 0] 175 (0, 0)⟩] ++ [⟨it, true, .obj (mkIt rt kv.length (seen ++ [j]) kv.length)⟩, ⟨rt, false, .obj (mkM kv)⟩]) (fun w1 hw1 => HF.perm (H := [⟨it, true, .obj (mkIt rt kv.length (seen ++ [j]) kv.length)⟩, ⟨rt, false, .obj (mkM kv)⟩] ++ [⟨b, true, .row [.slice none 0 0, .int .i64 0, .int .i8 0] 175 (0, 0)⟩]) hw1 List.perm_append_comm) ?_
        refine GC.regQ mixed (by kernel_rfl) ?_  -- region 8, router.go:163
        refine GQ.v (V.mv rfl) rfl ?_
        refine GQ.v (V.nc rfl) rfl ?_
        refine GQ.v (V.fa F81_1 rfl) rfl ?_
        refine GQ.v (V.ldC (v := S q.p) Tryd.isAgg9 rfl (hqc 1 _ rfl) id) rfl ?_
        refine GQ.v (V.lenS Tryd.underlying9 rfl) rfl ?_
        refine GQ.v (V.asg rfl) rfl ?_
        refine GQ.v (V.asg rfl) rfl ?_
        refine GQ.nil ?_
        refine GC.block ?_
        have hRl := rv_len (Bd := 1000) false q.p ws hwb
        refine GC.loopJ (fun M fr' H' => ∃ i n o HB, i + M = q.p.length + 1 ∧ n ≤ ws.length ∧ o ++ rv false (q.p.drop i) (ws.drop n) = (rv false q.p ws) ∧ Buf 175 5 w.heap.size b o HB ∧ Sub [(1, S nm), (2, .slice adv ws.length cpv), (7, Pt b 0), (8, I (ws.length : Nat)), (9, I ((n : Nat) : Int)), (11, Pt nb 0), (12, I ((i : Nat) : Int)), (13, I (q.p.length : Nat))] fr' ∧ H' = HB ++ [⟨it, true, .obj (mkIt rt kv.length (seen ++ [j]) kv.length)⟩, ⟨rt, false, .obj (mkM kv)⟩]) (q.p.length + 1)
          ⟨0, 0, [], _, by omega, Nat.zero_le _, rfl, hB0, .cons rfl (.cons rfl (.cons rfl (.cons rfl (.cons rfl (.cons rfl (.cons rfl (.cons rfl .nil))))))), rfl⟩ ?_
        rintro M fr' H' ⟨i, n, o, HB, hi, hn, hinv, hB, hs, rfl⟩ ih2
        refine GC.weak hs ?_
        clear hs
        have hol : o.length ≤ (rv false q.p ws).length := by rw [← hinv, List.length_append]; omega
        refine GC.seq ?_
        refine GC.seq ?_
        refine GC.reg ?_  -- region 9, router.go:163
        refine G.v (V.mv rfl) rfl ?_
        refine G.v (V.mv rfl) rfl ?_
        refine G.v (V.lt rfl rfl) rfl ?_
        refine G.nil ?_
        refine GC.condD rfl (fun h40 => ?_) (fun h40 => ?_)
        · refine GC.skip ?_
          refine GC.seq ?_
          refine GC.block ?_
          refine GC.seq ?_
          have hil : i < q.p.length := by omega
          obtain ⟨x, hx⟩ : ∃ x, q.p[i]? = some x := ⟨_, List.getElem?_eq_getElem hil⟩
          have hx92 : x ≠ 92 := fun e => hq92 (by rw [← e]; exact List.mem_of_getElem? hx)
          have hdx := drop_cons hx
          rw [hdx] at hinv
          refine GC.reg ?_  -- region 11, router.go:164
          refine G.v (V.mv rfl) rfl ?_
          refine G.v (V.nc rfl) rfl ?_
          refine G.v (V.fa F81_1 rfl) rfl ?_
          refine G.v (V.ldC (v := S q.p) Tryd.isAgg9 rfl (hqc 1 _ rfl) id) rfl ?_
          refine G.v (V.mv rfl) rfl ?_
          refine G.v (V.idx (i := i) (b := x) Tryd.underlying9 rfl rfl hx) rfl ?_
          have hx92d : decide ((x.toNat : Int) = 92) = false := decide_eq_false (fun h => hx92 (UInt8.toNat_inj.1 (show x.toNat = 92 by omega)))
          refine G.v (V.eqI rfl rfl) rfl ?_
          rw [hx92d]
          refine G.v (V.asg rfl) rfl ?_
          refine G.nil ?_
          refine GC.seq ?_
          refine GC.seq ?_
          refine GC.reg ?_  -- region 12, router.go:165
          refine G.v (V.mv rfl) rfl ?_
          refine G.v (V.mv rfl) rfl ?_
          refine G.bc 51 rfl (fun h51 => ?_) (fun h51 => ?_)
          · exact absurd h51 (by decide)
          · refine G.sg rfl rfl rfl rfl rfl rfl ?_
            refine G.sg rfl rfl rfl rfl rfl rfl ?_
            refine G.sg rfl rfl rfl rfl rfl rfl ?_
            refine G.sg rfl rfl rfl rfl rfl rfl ?_
            refine G.v (V.pickF rfl rfl) rfl ?_
            refine G.v (V.mv rfl) rfl ?_
            refine G.sg rfl rfl rfl rfl rfl rfl ?_
            refine G.sg rfl rfl rfl rfl rfl rfl ?_
            refine G.sg rfl rfl rfl rfl rfl rfl ?_
            refine G.sg rfl rfl rfl rfl rfl rfl ?_
            refine G.sg rfl rfl rfl rfl rfl rfl ?_
            refine G.sg rfl rfl rfl rfl rfl rfl ?_
            refine G.sg rfl rfl rfl rfl rfl rfl ?_
            refine G.sg rfl rfl rfl rfl rfl rfl ?_
            refine G.v (V.pickF rfl rfl) rfl ?_
            refine G.nil ?_
            refine GC.condF rfl ?_
            refine GC.skip ?_
            refine GC.seq ?_
            refine GC.seq ?_
            refine GC.join (fun fr' H' => ∃ b0 : Bool, (b0 = true ↔ n < ws.length ∧ (x = 58 ∨ x = 42)) ∧ Sub [(1, S nm), (2, .slice adv ws.length cpv), (7, Pt b 0), (8, I (ws.length : Nat)), (9, I ((n : Nat) : Int)), (11, Pt nb 0), (12, I ((i : Nat) : Int)), (13, I (q.p.length : Nat)), (93, .bool b0)] fr' ∧ HB ++ [⟨it, true, .obj (mkIt rt kv.length (seen ++ [j]) kv.length)⟩, ⟨rt, false, .obj (mkM kv)⟩] = H') (fun J14 => ?_) ?_
            · refine GC.reg ?_  -- region 14, router.go:168
              refine G.v (V.mv rfl) rfl ?_
              refine G.v (V.mv rfl) rfl ?_
              refine G.v (V.lt rfl rfl) rfl ?_
              refine G.v (V.mv rfl) rfl ?_
              refine G.bc 72 rfl (fun h72 => ?_) (fun h72 => ?_)
              · refine G.vg rfl rfl (V.mv rfl) rfl ?_
                refine G.vg rfl rfl (V.nc rfl) rfl ?_
                refine G.vg rfl rfl (V.fa F81_1 rfl) rfl ?_
                refine G.vg rfl rfl (V.ldC (v := S q.p) Tryd.isAgg9 rfl (hqc 1 _ rfl) id) rfl ?_
                refine G.vg rfl rfl (V.mv rfl) rfl ?_
                refine G.vg rfl rfl (V.idx (i := i) (b := x) Tryd.underlying9 rfl rfl hx) rfl ?_
                refine G.vg rfl rfl (V.eqI rfl rfl) rfl ?_
                refine G.vg rfl rfl (V.mv rfl) rfl ?_
                refine G.bc 80 rfl (fun h80 => ?_) (fun h80 => ?_)
                · refine G.sg rfl rfl rfl rfl rfl rfl ?_
                  refine G.sg rfl rfl rfl rfl rfl rfl ?_
                  refine G.sg rfl rfl rfl rfl rfl rfl ?_
                  refine G.sgU rfl rfl rfl rfl rfl ?_
                  refine G.sgU rfl rfl rfl rfl rfl ?_
                  refine G.sgU rfl rfl rfl rfl rfl ?_
                  refine G.sgU rfl rfl rfl rfl rfl ?_
                  refine G.sgU rfl rfl rfl rfl rfl ?_
                  refine G.sgU rfl rfl rfl rfl rfl ?_
                  refine G.sgU rfl rfl rfl rfl rfl ?_
                  refine G.sg rfl rfl rfl rfl rfl rfl ?_
                  refine G.vg rfl rfl (V.pickT rfl rfl) rfl ?_
                  refine G.v (V.pickT rfl rfl) rfl ?_
                  refine G.nil ?_
                  have hnl : n < ws.length := by have := of_decide_eq_true h72; omega
                  have hx42 : x = 42 := UInt8.toNat_inj.1 (show x.toNat = 42 by have := of_decide_eq_true h80; omega)
                  exact J14 _ _ ⟨true, ⟨fun _ => ⟨hnl, .inr hx42⟩, fun _ => rfl⟩, .cons rfl (.cons rfl (.cons rfl (.cons rfl (.cons rfl (.cons rfl (.cons rfl (.cons rfl (.cons rfl .nil)))))))), rfl⟩
                · refine G.vg rfl rfl (V.mv rfl) rfl ?_
                  refine G.vg rfl rfl (V.not rfl) rfl ?_
                  refine G.vg rfl rfl (V.mv rfl) rfl ?_
                  refine G.bc 83 rfl (fun h83 => ?_) (fun h83 => ?_)
                  · refine G.vg rfl rfl (V.mv rfl) rfl ?_
                    refine G.vg rfl rfl (V.nc rfl) rfl ?_
                    refine G.vg rfl rfl (V.fa F81_1 rfl) rfl ?_
                    refine G.vg rfl rfl (V.ldC (v := S q.p) Tryd.isAgg9 rfl (hqc 1 _ rfl) id) rfl ?_
                    refine G.vg rfl rfl (V.mv rfl) rfl ?_
                    refine G.vg rfl rfl (V.idx (i := i) (b := x) Tryd.underlying9 rfl rfl hx) rfl ?_
                    refine G.vg rfl rfl (V.eqI rfl rfl) rfl ?_
                    refine G.vg rfl rfl (V.pickT rfl rfl) rfl ?_
                    refine G.vg rfl rfl (V.pickF rfl rfl) rfl ?_
                    refine G.v (V.pickT rfl rfl) rfl ?_
                    refine G.nil ?_
                    have hnl : n < ws.length := by have := of_decide_eq_true h72; omega
                    have hx42 : x ≠ 42 := fun e => by rw [e] at h80; cases h80
                    refine J14 _ _ ⟨_, ⟨fun h => ⟨hnl, .inl (UInt8.toNat_inj.1 (show x.toNat = 58 by have := of_decide_eq_true h; omega))⟩, fun h => ?_⟩, .cons rfl (.cons rfl (.cons rfl (.cons rfl (.cons rfl (.cons rfl (.cons rfl (.cons rfl (.cons rfl .nil)))))))), rfl⟩
                    rw [h.2.resolve_right hx42]; rfl
                  · exact absurd h83 (by decide)
              · refine G.sg rfl rfl rfl rfl rfl rfl ?_
                refine G.sg rfl rfl rfl rfl rfl rfl ?_
                refine G.sg rfl rfl rfl rfl rfl rfl ?_
                refine G.sg rfl rfl rfl rfl rfl rfl ?_
                refine G.sg rfl rfl rfl rfl rfl rfl ?_
                refine G.sg rfl rfl rfl rfl rfl rfl ?_
                refine G.sg rfl rfl rfl rfl rfl rfl ?_
                refine G.sg rfl rfl rfl rfl rfl rfl ?_
                refine G.sgU rfl rfl rfl rfl rfl ?_
                refine G.sgU rfl rfl rfl rfl rfl ?_
                refine G.sgU rfl rfl rfl rfl rfl ?_
                refine G.sgU rfl rfl rfl rfl rfl ?_
                refine G.sgU rfl rfl rfl rfl rfl ?_
                refine G.sgU rfl rfl rfl rfl rfl ?_
                refine G.sgU rfl rfl rfl rfl rfl ?_
                refine G.sgU rfl rfl rfl rfl rfl ?_
                refine G.sgU rfl rfl rfl rfl rfl ?_
                refine G.sgU rfl rfl rfl rfl rfl ?_
                refine G.sgU rfl rfl rfl rfl rfl ?_
                refine G.sg rfl rfl rfl rfl rfl rfl ?_
                refine G.v (V.pickF rfl rfl) rfl ?_
                refine G.nil ?_
                exact J14 _ _ ⟨false, ⟨fun h => (by cases h), fun h => by have := of_decide_eq_false h72; omega⟩, .cons rfl (.cons rfl (.cons rfl (.cons rfl (.cons rfl (.cons rfl (.cons rfl (.cons rfl (.cons rfl .nil)))))))), rfl⟩
            rintro fr' H' ⟨b14, hb14, hs14, rfl⟩
            refine GC.weak hs14 ?_
            clear hs14
            refine GC.join (fun fr' H' => ∃ i2 n2 o2 HB2, i ≤ i2 ∧ i2 ≤ q.p.length ∧ n2 ≤ ws.length ∧ (∀ y, q.p[i2]? = some y → o2 ++ y :: rv false (q.p.drop (i2 + 1)) (ws.drop n2) = (rv false q.p ws)) ∧ (q.p[i2]? = none → o2 = (rv false q.p ws)) ∧ Buf 175 5 w.heap.size b o2 HB2 ∧ Sub [(1, S nm), (2, .slice adv ws.length cpv), (7, Pt b 0), (8, I (ws.length : Nat)), (9, I ((n2 : Nat) : Int)), (11, Pt nb 0), (12, I ((i2 : Nat) : Int)), (13, I (q.p.length : Nat))] fr' ∧ H' = HB2 ++ [⟨it, true, .obj (mkIt rt kv.length (seen ++ [j]) kv.length)⟩, ⟨rt, false, .obj (mkM kv)⟩]) (fun K93 => ?_) ?_
            · refine GC.cond rfl (fun h93 => ?_) (fun h93 => ?_)
              · refine GC.seq ?_
                refine GC.block ?_
                obtain ⟨hnl, hxo⟩ := hb14.1 h93
                obtain ⟨v, hv⟩ : ∃ v, ws[n]? = some v := ⟨_, List.getElem?_eq_getElem hnl⟩
                rw [drop_cons hv, rvf_val hxo] at hinv
                have hx47 : x ≠ 47 := fun e => by rcases hxo with h | h <;> rw [h] at e <;> cases e
                rw [← rvt_no hx47, ← hdx] at hinv
                refine GC.loopJ (fun K fr' H' => ∃ i2, i2 + K = q.p.length ∧ i ≤ i2 ∧ rv true (q.p.drop i2) (ws.drop (n + 1)) = rv true (q.p.drop i) (ws.drop (n + 1)) ∧ Sub [(1, S nm), (2, .slice adv ws.length cpv), (7, Pt b 0), (8, I (ws.length : Nat)), (9, I ((n : Nat) : Int)), (11, Pt nb 0), (12, I ((i2 : Nat) : Int)), (13, I (q.p.length : Nat))] fr' ∧ H' = HB ++ [⟨it, true, .obj (mkIt rt kv.length (seen ++ [j]) kv.length)⟩, ⟨rt, false, .obj (mkM kv)⟩]) (q.p.length - i)
                  ⟨i, by omega, Nat.le_refl _, rfl, .cons rfl (.cons rfl (.cons rfl (.cons rfl (.cons rfl (.cons rfl (.cons rfl (.cons rfl .nil))))))), rfl⟩ ?_
                rintro K fr' H' ⟨i2, hi2, hii, hrv, hs, rfl⟩ ih3
                refine GC.weak hs ?_
                clear hs
                refine GC.seq ?_
                refine GC.seq ?_
                refine GC.join (fun fr' H' => ∃ b0 : Bool, (b0 = true ↔ i2 < q.p.length ∧ q.p[i2]? ≠ some 47) ∧ Sub [(1, S nm), (2, .slice adv ws.length cpv), (7, Pt b 0), (8, I (ws.length : Nat)), (9, I ((n : Nat) : Int)), (11, Pt nb 0), (12, I ((i2 : Nat) : Int)), (13, I (q.p.length : Nat)), (105, .bool b0)] fr' ∧ HB ++ [⟨it, true, .obj (mkIt rt kv.length (seen ++ [j]) kv.length)⟩, ⟨rt, false, .obj (mkM kv)⟩] = H') (fun J15 => ?_) ?_
                · refine GC.reg ?_  -- region 15, router.go:170
                  refine G.v (V.mv rfl) rfl ?_
                  refine G.v (V.mv rfl) rfl ?_
                  refine G.v (V.lt rfl rfl) rfl ?_
                  refine G.v (V.mv rfl) rfl ?_
                  refine G.bc 97 rfl (fun h97 => ?_) (fun h97 => ?_)
                  · refine G.vg rfl rfl (V.mv rfl) rfl ?_
                    refine G.vg rfl rfl (V.nc rfl) rfl ?_
                    refine G.vg rfl rfl (V.fa F81_1 rfl) rfl ?_
                    refine G.vg rfl rfl (V.ldC (v := S q.p) Tryd.isAgg9 rfl (hqc 1 _ rfl) id) rfl ?_
                    refine G.vg rfl rfl (V.mv rfl) rfl ?_
                    have hi2l : i2 < q.p.length := by have := of_decide_eq_true h97; omega
                    obtain ⟨y, hy⟩ : ∃ y, q.p[i2]? = some y := ⟨_, List.getElem?_eq_getElem hi2l⟩
                    refine G.vg rfl rfl (V.idx (i := i2) (b := y) Tryd.underlying9 rfl rfl hy) rfl ?_
                    refine G.vg rfl rfl (V.neI rfl rfl) rfl ?_
                    refine G.v (V.pickT rfl rfl) rfl ?_
                    refine G.nil ?_
                    refine J15 _ _ ⟨_, ⟨fun h => ⟨hi2l, fun e => ?_⟩, fun h => ?_⟩, .cons rfl (.cons rfl (.cons rfl (.cons rfl (.cons rfl (.cons rfl (.cons rfl (.cons rfl (.cons rfl .nil)))))))), rfl⟩
                    · rw [hy] at e; cases e; cases h
                    · have h2 : y ≠ 47 := fun e => h.2 (by rw [hy, e])
                      have h3 : decide ((y.toNat : Int) = 47) = false := decide_eq_false (fun h => h2 (UInt8.toNat_inj.1 (show y.toNat = 47 by omega)))
                      rw [h3]; rfl
                  · refine G.sg rfl rfl rfl rfl rfl rfl ?_
                    refine G.sg rfl rfl rfl rfl rfl rfl ?_
                    refine G.sg rfl rfl rfl rfl rfl rfl ?_
                    refine G.sg rfl rfl rfl rfl rfl rfl ?_
                    refine G.sg rfl rfl rfl rfl rfl rfl ?_
                    refine G.sg rfl rfl rfl rfl rfl rfl ?_
                    refine G.sg rfl rfl rfl rfl rfl rfl ?_
                    refine G.v (V.pickF rfl rfl) rfl ?_
                    refine G.nil ?_
                    exact J15 _ _ ⟨false, ⟨fun h => (by cases h), fun h => by have := of_decide_eq_false h97; omega⟩, .cons rfl (.cons rfl (.cons rfl (.cons rfl (.cons rfl (.cons rfl (.cons rfl (.cons rfl (.cons rfl .nil)))))))), rfl⟩
                rintro fr' H' ⟨b15, hb15, hs15, rfl⟩
                refine GC.weak hs15 ?_
                clear hs15
                refine GC.cond rfl (fun h105 => ?_) (fun h105 => ?_)
                · refine GC.skip ?_
                  refine GC.seq ?_
                  refine GC.block ?_
                  refine GC.skip ?_
                  refine GC.inBlock ?_
                  obtain ⟨hi2l, hyn⟩ := hb15.1 h105
                  obtain ⟨y, hy⟩ : ∃ y, q.p[i2]? = some y := ⟨_, List.getElem?_eq_getElem hi2l⟩
                  have hy47 : y ≠ 47 := fun e => hyn (by rw [hy, e])
                  rw [drop_cons hy, rvt_no hy47] at hrv
                  refine GC.reg ?_  -- region 16, router.go:170
                  refine G.v (V.mv rfl) rfl ?_
                  refine G.v (V.addI (r := ((i2 + 1 : Nat) : Int)) rfl rfl rfl (by omega) (by omega)) rfl ?_
                  refine G.v (V.asg rfl) rfl ?_
                  refine G.nil ?_
                  exact ih3 (K - 1) _ _ (by omega) ⟨i2 + 1, by omega, by omega, hrv, .cons rfl (.cons rfl (.cons rfl (.cons rfl (.cons rfl (.cons rfl (.cons rfl (.cons rfl .nil))))))), rfl⟩
                refine GC.exit rfl ?_
                refine GC.seq ?_
                obtain ⟨bv, ov, rfl, hvc⟩ := hx0 n v hv
                refine GC.reg ?_  -- region 17, router.go:172
                refine G.v (V.mv rfl) rfl ?_
                refine G.v (V.mv rfl) rfl ?_
                refine G.v (V.mv rfl) rfl ?_
                refine G.v (V.ia (i := n) Tryd.underlying24 Tryd.sizeOf9 rfl rfl hnl) rfl ?_
                refine G.v (V.ldC (v := S v) Tryd.isAgg9 rfl (by rw [Nat.mul_one]; exact hvc) id) rfl ?_
                have hvl := hwb v (List.mem_of_getElem? hv)
                have hwm : 1000 * ws.length ≤ 1000 * 1000 := Nat.mul_le_mul_left _ hwl
                refine G.ws (s := v) wspec Tryd.call116 rfl rfl rfl hB (hnr _) (by omega) (fun HB2 hB2 => ?_)
                refine G.nil ?_
                refine GC.reg ?_  -- region 18, router.go:173
                refine G.v (V.mv rfl) rfl ?_
                refine G.v (V.addI (r := ((n + 1 : Nat) : Int)) rfl rfl rfl (by omega) (by omega)) rfl ?_
                refine G.v (V.asg rfl) rfl ?_
                refine G.nil ?_
                have hnb : ¬ (i2 < q.p.length ∧ q.p[i2]? ≠ some 47) := fun h => by rw [hb15.2 h] at h105; cases h105
                refine K93 _ _ ⟨i2, n + 1, o ++ v, HB2, hii, by omega, by omega, fun y hy => ?_, fun hy => ?_, hB2, .cons rfl (.cons rfl (.cons rfl (.cons rfl (.cons rfl (.cons rfl (.cons rfl (.cons rfl .nil))))))), rfl⟩
                · have hy47 : y = 47 := by
                    have hl := (List.getElem?_eq_some_iff.1 hy).1
                    exact Classical.byContradiction fun h => hnb ⟨hl, fun e => h (by rw [hy] at e; exact Option.some.inj e)⟩
                  subst hy47
                  rw [drop_cons hy, rvt_sl] at hrv
                  rw [← hinv, ← hrv]; simp
                · have hl := List.getElem?_eq_none_iff.1 hy
                  rw [List.drop_eq_nil_of_le hl] at hrv
                  rw [← hinv, ← hrv]; simp [rv]
              refine GC.skip ?_
              have hnb : ¬ (n < ws.length ∧ (x = 58 ∨ x = 42)) := fun h => by rw [hb14.2 h] at h93; cases h93
              have hno2 : ws.drop n = [] ∨ ¬ (x = 58 ∨ x = 42) := by
                by_cases hnl : n < ws.length
                · exact .inr fun h => hnb ⟨hnl, h⟩
                · exact .inl (List.drop_eq_nil_of_le (by omega))
              rw [rvf_no hno2] at hinv
              exact K93 _ _ ⟨i, n, o, HB, Nat.le_refl _, by omega, hn, fun y hy => (by rw [hx] at hy; cases hy; exact hinv), fun hy => (by rw [hx] at hy; cases hy), hB, .cons rfl (.cons rfl (.cons rfl (.cons rfl (.cons rfl (.cons rfl (.cons rfl (.cons rfl .nil))))))), rfl⟩
            rintro fr' H' ⟨i2, n2, o2, HB2, hi2, hi2l, hn2, hst1, hst2, hB2, hs93, rfl⟩
            refine GC.weak hs93 ?_
            clear hs93
            refine GC.seq ?_
            refine GC.reg ?_  -- region 19, router.go:175
            refine G.v (V.mv rfl) rfl ?_
            refine G.v (V.mv rfl) rfl ?_
            refine G.v (V.lt rfl rfl) rfl ?_
            refine G.nil ?_
            refine GC.condD rfl (fun h118 => ?_) (fun h118 => ?_)
            · have hi2lt : i2 < q.p.length := by omega
              obtain ⟨y, hy⟩ : ∃ y, q.p[i2]? = some y := ⟨_, List.getElem?_eq_getElem hi2lt⟩
              have hst := hst1 y hy
              have hol2 : o2.length ≤ (rv false q.p ws).length := by rw [← hst, List.length_append]; omega
              have hwm : 1000 * ws.length ≤ 1000 * 1000 := Nat.mul_le_mul_left _ hwl
              refine GC.reg ?_  -- region 20, router.go:176
              refine G.v (V.mv rfl) rfl ?_
              refine G.v (V.mv rfl) rfl ?_
              refine G.v (V.nc rfl) rfl ?_
              refine G.v (V.fa F81_1 rfl) rfl ?_
              refine G.v (V.ldC (v := S q.p) Tryd.isAgg9 rfl (hqc 1 _ rfl) id) rfl ?_
              refine G.v (V.mv rfl) rfl ?_
              refine G.v (V.idx (i := i2) (b := y) Tryd.underlying9 rfl rfl hy) rfl ?_
              refine G.wb (u := y) bspec Tryd.call117 rfl rfl rfl hB2 (hnr _) (by omega) (fun HB3 hB3 => ?_)
              refine G.nil ?_
              refine GC.inBlock ?_
              refine GC.reg ?_  -- region 10, router.go:163
              refine G.v (V.mv rfl) rfl ?_
              refine G.v (V.addI (r := ((i2 + 1 : Nat) : Int)) rfl rfl rfl (by omega) (by omega)) rfl ?_
              refine G.v (V.asg rfl) rfl ?_
              refine G.nil ?_
              exact ih2 (M - 1 - (i2 - i)) _ _ (by omega) ⟨i2 + 1, n2, o2 ++ [y], HB3, by omega, hn2, by rw [List.append_assoc]; exact hst, hB3, .cons rfl (.cons rfl (.cons rfl (.cons rfl (.cons rfl (.cons rfl (.cons rfl (.cons rfl .nil))))))), rfl⟩
            refine GC.skip ?_
            refine GC.inBlock ?_
            refine GC.reg ?_  -- region 10, router.go:163
            refine G.v (V.mv rfl) rfl ?_
            refine G.v (V.addI (r := ((i2 + 1 : Nat) : Int)) rfl rfl rfl (by omega) (by omega)) rfl ?_
            refine G.v (V.asg rfl) rfl ?_
            refine G.nil ?_
            have hnone2 : q.p[i2]? = none := List.getElem?_eq_none (by omega)
            exact ih2 (M - 1 - (i2 - i)) _ _ (by omega) ⟨i2 + 1, n2, o2, HB2, by omega, hn2, by rw [List.drop_eq_nil_of_le (by omega), hst2 hnone2]; simp [rv], hB2, .cons rfl (.cons rfl (.cons rfl (.cons rfl (.cons rfl (.cons rfl (.cons rfl (.cons rfl .nil))))))), rfl⟩
        refine GC.exit rfl ?_
        refine GC.exit rfl ?_
        have hiq : q.p.length ≤ i := by omega
        rw [List.drop_eq_nil_of_le hiq] at hinv
        have hRe : o = rv false q.p ws := by rw [← hinv]; simp [rv]
        exact J21 _ _ ⟨o, HB, _, hB, .inl ⟨q, List.mem_of_getElem? hq, hnmq, hRe⟩, .cons rfl .nil, rfl⟩
      refine GC.skip ?_
      refine GC.inBlock ?_
      have hnq : q.nm ≠ nm := h32
      have hjr : j ∈ rem := by
        have hjk : j < kv.length := (List.getElem?_eq_some_iff.1 hj).1
        rcases List.mem_append.1 (hp1.mem_iff.2 (List.mem_range.2 hjk)) with h | h
        · exact h
        · exact absurd h hns
      have hlen := List.length_erase_of_mem hjr
      have hpos := List.length_pos_of_mem hjr
      have hp2 : (rem.erase j ++ (seen ++ [j])).Perm (List.range kv.length) := by
        refine List.Perm.trans ?_ hp1
        have h1 := (List.perm_cons_erase hjr).symm
        have h2 : (rem.erase j ++ (seen ++ [j])).Perm (j :: rem.erase j ++ seen) := by
          rw [← List.append_assoc]
          exact List.perm_append_singleton j _
        exact h2.trans (h1.append_right seen)
      refine ih (N - 1) _ _ (by omega) ⟨rem.erase j, seen ++ [j], by omega, hp2, fun k hk q' hq' => ?_, .cons rfl (.cons rfl (.cons rfl (.cons rfl (.cons rfl (.cons rfl (.cons rfl .nil)))))), fun w1 h => h⟩
      rcases List.mem_append.1 hk with hk | hk
      · exact hno k hk q' hq'
      · rw [List.mem_singleton.1 hk, hq] at hq'; cases hq'; exact hnq
  rintro fr' H' ⟨R, HB, Hx, hB, hres, hs21, rfl⟩
  refine GC.weak hs21 ?_
  clear hs21
  refine GC.seq ?_
  refine GC.reg ?_  -- region 21, router.go:182
  refine G.v (V.mv rfl) rfl ?_
  refine G.callP (v := S R) Tryd.call118 rfl rfl (fun w1 hw1 => sPost sspec hB w1 hw1) ?_
  refine G.v (V.asg rfl) rfl ?_
  refine G.nil ?_
  exact GC.ret1 rfl rfl fun w' hw' => ⟨R, rfl, hres, hw'.sub (List.nil_sublist _)⟩
end Go.Proofs

/- The map of a router's routes; ZZ.Reverse, impl.EchoReverse. Printed by wip/mk_j7.py. -/
namespace Bw
open Go Go.Proofs

def Rt.kk (r : Rt) : List UInt8 := r.rb.m ++ r.rb.p
/-- the routes that the map tells, in the order of its making -/
def rput : List Rt → Rt → List Rt
  | [], r => [r]
  | a :: l, r => if a.kk = r.kk then r :: l else a :: rput l r
def rks : List Rt → List Rt
  | [] => []
  | r :: L => rput (rks L) r
theorem rput_kv (r : Rt) : ∀ l : List Rt, kvPut (l.map fun x => (x.kk, Pt x.nb 0)) r.kk (Pt r.nb 0) = (rput l r).map fun x => (x.kk, Pt x.nb 0)
  | [] => rfl
  | a :: l => by
    simp only [List.map_cons, kvPut, rput]
    split
    · rename_i h; rw [List.map_cons, h]
    · rw [List.map_cons, rput_kv r l]
theorem rkv_rks : ∀ L : List Rt, rkv L = (rks L).map fun x => (x.kk, Pt x.nb 0)
  | [] => rfl
  | r :: L => by rw [rkv, rkv_rks L]; exact rput_kv r (rks L)
theorem rput_mem {r x : Rt} : ∀ {l : List Rt}, x ∈ rput l r → x = r ∨ x ∈ l
  | [], h => .inl (List.mem_singleton.1 h)
  | a :: l, h => by
    unfold rput at h
    split at h
    · rcases List.mem_cons.1 h with h | h
      · exact .inl h
      · exact .inr (.tail _ h)
    · rcases List.mem_cons.1 h with h | h
      · exact .inr (by rw [h]; exact .head _)
      · rcases rput_mem h with h | h
        · exact .inl h
        · exact .inr (.tail _ h)
theorem rput_has {r : Rt} : ∀ (l : List Rt), r ∈ rput l r
  | [] => .head _
  | a :: l => by
    unfold rput
    split
    · exact .head _
    · exact .tail _ (rput_has l)
theorem rput_keep {r x : Rt} : ∀ {l : List Rt}, x ∈ l → ∃ y ∈ rput l r, y.kk = x.kk
  | a :: l, h => by
    unfold rput
    split
    · rename_i hk
      rcases List.mem_cons.1 h with rfl | h
      · exact ⟨r, .head _, hk.symm⟩
      · exact ⟨x, .tail _ h, rfl⟩
    · rcases List.mem_cons.1 h with rfl | h
      · exact ⟨x, .head _, rfl⟩
      · obtain ⟨y, hy, e⟩ := rput_keep (r := r) h
        exact ⟨y, .tail _ hy, e⟩
theorem rks_mem {x : Rt} : ∀ {L : List Rt}, x ∈ rks L → x ∈ L
  | [], h => h
  | r :: L, h => by
    rcases rput_mem h with h | h
    · rw [h]; exact .head _
    · exact .tail _ (rks_mem h)
theorem rks_has {x : Rt} : ∀ {L : List Rt}, x ∈ L → ∃ y ∈ rks L, y.kk = x.kk
  | r :: L, h => by
    rcases List.mem_cons.1 h with rfl | h
    · exact ⟨x, rput_has _, rfl⟩
    · obtain ⟨y, hy, e⟩ := rks_has h
      obtain ⟨z, hz, e2⟩ := rput_keep (r := r) hy
      exact ⟨z, hz, e2.trans e⟩
/-- the routes of a router are those of the list -/
theorem key_mem {L : List Rt} {Rs : List RB} (h : L.reverse.map Rt.key = Rs.zipIdx) {r : Rt} (hr : r ∈ L) : r.rb ∈ Rs := by
  have h1 : Rt.key r ∈ Rs.zipIdx := by rw [← h]; exact List.mem_map_of_mem (List.mem_reverse.2 hr)
  have h2 := List.mem_zipIdx_iff_getElem?.1 h1
  exact List.mem_of_getElem? h2
theorem mem_key {L : List Rt} {Rs : List RB} (h : L.reverse.map Rt.key = Rs.zipIdx) {q : RB} (hq : q ∈ Rs) : ∃ r ∈ L, r.rb = q := by
  obtain ⟨i, hi⟩ := List.getElem?_of_mem hq
  have h1 : (q, i) ∈ Rs.zipIdx := List.mem_zipIdx_iff_getElem?.2 hi
  rw [← h] at h1
  obtain ⟨r, hr, e⟩ := List.mem_map.1 h1
  exact ⟨r, List.mem_reverse.1 hr, congrArg Prod.fst e⟩
theorem okR_92 : ∀ {p : List UInt8}, okR p → 92 ∉ p
  | [], _ => by simp
  | c :: p, h => by
    intro hh
    rcases List.mem_cons.1 hh with e | hh
    · exact h.1 e.symm
    · exact okR_92 h.2.2 hh
end Bw
namespace Go.Proofs
open Go Bw
set_option maxRecDepth 20000
theorem f52_any (w : World) (rb root rt eb zb z : Nat) (T : List NR) (L : List Rt) (nm : List UInt8) (adv : Option Addr) (cpv : Nat) (ws : List (List UInt8)) (hh : ∀ e ∈ RH rb root rt eb zb z T L, w.heap[e.b]? = some e.k.den) (hok : ∀ r ∈ L, r.rb.ok) (hx : TxAt w adv ws) (hwl : ws.length ≤ 1000) (hwb : ∀ x ∈ ws, x.length ≤ 1000) :
    Calls Tryd.prog 52 #[Pt zb 0, S nm, .slice adv ws.length cpv] w fun e w' => ∃ R, e = .returned (S R) ∧ ((∃ q ∈ (rks L).map (·.rb), q.nm = nm ∧ R = rv false q.p ws) ∨ (∀ q ∈ (rks L).map (·.rb), q.nm ≠ nm)) ∧ HF w (fun _ => False) [] w' := by
  refine enter (fun _ => False) [] Tryd.func52 rfl Tryd.ntmps52 rfl rfl (HF.start w _) fun c hc => ?_
  subst hc
  have cells : ∀ (b : Nat) (l : List Value) (t : TypeId), w.heap[b]? = some (Blk.row l t (0, 0)).den → ∀ k v, l[k]? = some v → w.cell? ⟨b, k, none⟩ = some v := fun b l t h k v hk => by
    simp only [Blk.den] at h
    simp only [World.cell?, h, List.getElem?_toArray, Option.isSome_none, Bool.false_eq_true, if_false]
    exact hk
  have hz0 := cells zb _ _ (hh (zzE zb rb z) (.tail _ (.tail _ (.head _)))) 0 (Pt rb 0) rfl
  have hr1 := cells rb _ _ (hh (rtE rb root rt eb) (.head _)) 1 (.map (some rt)) rfl
  have hmp : w.heap[rt]? = some (mkM (rkv L)) := hh (mpE rt (rkv L)) (.tail _ (.tail _ (.tail _ (.head _))))
  refine GC.seq ?_
  refine GC.reg ?_  -- region 0, zz_context.go:72
  refine G.v (V.asg rfl) rfl ?_
  refine G.nil ?_
  refine GC.seq ?_
  refine GC.reg ?_  -- region 1, zz_context.go:72
  refine G.v (V.mv rfl) rfl ?_
  refine G.v (V.nc rfl) rfl ?_
  refine G.v (V.fa F93_0 rfl) rfl ?_
  refine G.v (V.ldC (v := Pt rb 0) Tryd.isAgg91 rfl hz0 id) rfl ?_
  refine G.v (V.mv rfl) rfl ?_
  refine G.v (V.mv rfl) rfl ?_
  refine G.callW (fun v H2 => ∃ R, v = S R ∧ ((∃ q ∈ ((rks L).map (·.rb)), q.nm = nm ∧ R = rv false q.p ws) ∨ (∀ q ∈ ((rks L).map (·.rb)), q.nm ≠ nm)) ∧ H2 = []) Tryd.call79 rfl rfl (fun w1 hw1 => ?_) ?_
  · refine (f79_any w1 rb rt (rkv L) ((rks L).map (·.rb)) nm adv cpv ws (hw1.cellOld hr1 id) (hw1.old hmp id) (by rw [rkv_rks, List.length_map, List.length_map]) (fun j p hp => ?_) (fun q hq => ?_) (fun j x hj => ?_) hwl hwb).mono fun e w' ⟨R, h1, h2, h3⟩ => ⟨_, _, h1, hw1.after0 h3 (fun e he => by cases he), R, rfl, h2, rfl⟩
    · rw [rkv_rks, List.getElem?_map] at hp
      obtain ⟨r, hr, rfl⟩ := Option.map_eq_some_iff.1 hp
      have hrL := rks_mem (List.mem_of_getElem? hr)
      have hro := hh (roE r.nb r.rb.m r.rb.p r.rb.nm) (.tail _ (.tail _ (.tail _ (.tail _ (List.mem_append_right _ (List.mem_flatMap.2 ⟨r, hrL, .tail _ (.head _)⟩))))))
      refine ⟨r.nb, r.rb, rfl, by rw [List.getElem?_map, hr]; rfl, fun k v hk => hw1.cellOld (cells r.nb _ _ hro k v hk) id⟩
    · obtain ⟨r, hr, rfl⟩ := List.mem_map.1 hq
      have hro := hok r (rks_mem hr)
      exact ⟨okR_92 hro.okR, by have := hro.pl; omega⟩
    · obtain ⟨b, o, h1, h2⟩ := hx j x hj
      exact ⟨b, o, h1, hw1.cellOld h2 id⟩
  rintro v H2 ⟨R, rfl, hres, rfl⟩
  refine G.v (V.asg rfl) rfl ?_
  refine G.nil ?_
  exact GC.ret1 rfl rfl fun w' hw' => ⟨R, rfl, hres, hw'⟩

theorem f33_any (w : World) (ad : Option Addr) (cp : Nat) (Rs : List RB) (nm : List UInt8) (adv : Option Addr) (cpv : Nat) (ws : List (List UInt8)) (hat : RtsAt w ad Rs) (hok : ∀ r ∈ Rs, r.ok) (hlen : Rs.length ≤ 60) (hx : TxAt w adv ws) (hwl : ws.length ≤ 1000) (hwb : ∀ x ∈ ws, x.length ≤ 1000) :
    Calls Tryd.prog 33 #[.slice ad Rs.length cp, S nm, .slice adv ws.length cpv] w fun e w' => ∃ R, e = .returned (S R) ∧ (∃ Qs : List RB, (∀ q ∈ Qs, q ∈ Rs) ∧ (∀ r ∈ Rs, ∃ q ∈ Qs, q.m ++ q.p = r.m ++ r.p) ∧ ((∃ q ∈ Qs, q.nm = nm ∧ R = rv false q.p ws) ∨ (∀ q ∈ Qs, q.nm ≠ nm))) ∧ HF w (fun _ => False) [] w' := by
  refine enter (fun _ => False) [] Tryd.func33 rfl Tryd.ntmps33 rfl rfl (HF.start w _) fun c hc => ?_
  subst hc
  refine GC.seq ?_
  refine GC.reg ?_  -- region 0, echo.go:38
  refine G.v (V.asg rfl) rfl ?_
  refine G.nil ?_
  refine GC.seq ?_
  refine GC.reg ?_  -- region 1, echo.go:39
  refine G.v (V.mv rfl) rfl ?_
  refine G.callW (fun v H2 => ∃ rb root rt eb zb z B T q R L, v = Pt zb 0 ∧ RInv T q R root L z B ∧ L.reverse.map Rt.key = Rs.zipIdx ∧ H2 = RH rb root rt eb zb z T L) Tryd.call40 rfl rfl (fun w1 hw1 => ?_) ?_
  · refine (f40_any w1 ad cp Rs (fun i r hr => by obtain ⟨b, o, h1, h2⟩ := hat i r hr; exact ⟨b, o, h1, fun j v hj => hw1.cellOld (h2 j v hj) id⟩) hok hlen).mono fun e w' ⟨rb, root, rt, eb, zb, z, B, T, q, R, L, h1, h2, h3, h4, h5⟩ => ?_
    have := hw1.after0 h5 (RH_w h2)
    exact ⟨_, _, h1, by simpa using this, rb, root, rt, eb, zb, z, B, T, q, R, L, rfl, h2, h4, rfl⟩
  rintro v H2 ⟨rb, root, rt, eb, zb, z, B, T, q, R, L, rfl, hinv, hkey, rfl⟩
  refine G.v (V.mv rfl) rfl ?_
  refine G.v (V.mv rfl) rfl ?_
  refine G.callW (fun v H2 => ∃ R, v = S R ∧ ((∃ q ∈ ((rks L).map (·.rb)), q.nm = nm ∧ R = rv false q.p ws) ∨ (∀ q ∈ ((rks L).map (·.rb)), q.nm ≠ nm))) Tryd.call52 rfl rfl (fun w1 hw1 => ?_) ?_
  · refine (f52_any w1 rb root rt eb zb z T L nm adv cpv ws (fun e he => hw1.has e he) hinv.rb (fun j x hj => ?_) hwl hwb).mono fun e w' ⟨R, h1, h2, h3⟩ => ⟨_, _, h1, hw1.after0 h3 (fun e he => by cases he), R, rfl, h2⟩
    obtain ⟨b, o, h1, h2⟩ := hx j x hj
    exact ⟨b, o, h1, hw1.cellOld h2 id⟩
  rintro v H2 ⟨R2, rfl, hres⟩
  refine G.v (V.asg rfl) rfl ?_
  refine G.nil ?_
  refine GC.ret1 rfl rfl fun w' hw' => ⟨R2, rfl, ⟨((rks L).map (·.rb)), fun q hq => ?_, fun r hr => ?_, hres⟩, hw'.sub (List.nil_sublist _)⟩
  · obtain ⟨x, hx, rfl⟩ := List.mem_map.1 hq
    exact key_mem hkey (rks_mem hx)
  · obtain ⟨x, hx, rfl⟩ := mem_key hkey hr
    obtain ⟨y, hy, e⟩ := rks_has hx
    exact ⟨y.rb, List.mem_map_of_mem hy, e⟩
end Go.Proofs
