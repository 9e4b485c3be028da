/- Lemmas of the walk and plain facts (HuC1 .. GtD1). -/
import Derived.Test.YtdjnbehdiohggaaDoorP12
import Derived.Test.YtdjnbehdiohggaaDoorP14
import Derived.Test.YtdjnbehdiohggaaDoorShelf
import Derived.Test.YtdjnbehdiohggaaDoorP11
import Derived.Test.YtdjnbehdiohggaaDoorP16
import Derived.Test.YtdjnbehdiohggaaDoorP01
import Derived.Laws.RangeAny
/- The small functions of the search whatever the letters are. Printed by wip/mk_hv1.py. -/
set_option maxRecDepth 20000
namespace Go.Proofs
open Go Bw
open Gt
/-- an array of four bytes, the first one told -/
def rbR (a : UInt8) : List Value := [.int .u8 (a.toNat : Int), .int .u8 0, .int .u8 0, .int .u8 0]
theorem rbR_one (a : UInt8) : ∀ v ∈ rbR a, v.oneCell' = true := by
 intro v hv
 simp only [rbR, List.mem_cons, List.not_mem_nil, or_false] at hv
 rcases hv with rfl | rfl | rfl | rfl <;> rfl
theorem bd98 (w : World) : (Instr.build 98 #[]).run Tryd.prog w = .ok (.agg (rbR 0).toArray) w := by
 simp [Instr.build, Tryd.zeroValue98, Tryd.runUnderlying98, Tryd.sizeOf5, cells_agg, Instr.fill, rbR]
theorem bd98_1 (x : Value) (h : x.cells = #[x]) (w : World) : (Instr.build 98 #[(0, x)]).run Tryd.prog w = .ok (.agg #[x, .int .u8 0, .int .u8 0, .int .u8 0]) w := by
 simp [Instr.build, Tryd.zeroValue98, Tryd.runUnderlying98, Tryd.sizeOf5, cells_agg, Instr.fill, h]
theorem bd98_2 (x y : Value) (h : x.cells = #[x]) (h2 : y.cells = #[y]) (w : World) : (Instr.build 98 #[(0, x), (1, y)]).run Tryd.prog w = .ok (.agg #[x, y, .int .u8 0, .int .u8 0]) w := by
 simp [Instr.build, Tryd.zeroValue98, Tryd.runUnderlying98, Tryd.sizeOf5, cells_agg, Instr.fill, h, h2]
theorem bd98_4 (x y z u : Value) (h : x.cells = #[x]) (h2 : y.cells = #[y]) (h3 : z.cells = #[z]) (h4 : u.cells = #[u]) (w : World) : (Instr.build 98 #[(0, x), (1, y), (2, z), (3, u)]).run Tryd.prog w = .ok (.agg #[x, y, z, u]) w := by
 simp [Instr.build, Tryd.zeroValue98, Tryd.runUnderlying98, Tryd.sizeOf5, cells_agg, Instr.fill, h, h2, h3, h4]
theorem c71_any (w : World) (a : UInt8) (m : Nat) : Calls Tryd.prog 71 #[.agg (rbR a).toArray, I (m : Nat)] w fun e w' => e = .returned (.agg (rbR (if m = 0 then a else 0)).toArray) ∧ HF w (fun _ => False) [] w' := by
 refine enter (fun _ => False) [] Tryd.func71 rfl Tryd.ntmps71 rfl rfl (HF.start w _) fun c hc => ?_
 subst hc
 refine GC.seq ?_
 refine GC.reg ?_
 refine G.bx (l := rbR a) rfl (by simp [cells_agg, rbR]) rfl (fun qb hqb => ?_)
 refine G.al (l := rbR 0) Tryd.zeroValue98 (by simp [cells_agg, rbR]) rfl (fun zb hzb => ?_)
 refine G.nil ?_
 refine GC.seq ?_
 refine GC.reg ?_
 refine G.m1 ?_
 refine G.nil ?_
 refine GC.block ?_
 refine GC.seq ?_
 refine GC.reg ?_
 refine G.v (V.eqI rfl rfl) rfl ?_
 refine G.m2 ?_
 refine G.nil ?_
 refine GC.condD rfl (fun h7 => ?_) (fun h7 => ?_)
 ·refine GC.seq ?_
  refine GC.reg ?_
  refine G.v (V.ldA (b := qb) (off := 0) (s := 4) (wf := true) (l := rbR a) (T := 98) (fz := (0, 0)) (cs := rbR a) Tryd.isAgg98 Tryd.sizeOf98 rfl (.tail _ (.head _)) rfl rfl) rfl ?_
  refine G.stA (cs := rbR a) Tryd.sizeOf98 rfl rfl (rbR_one _) .z rfl ?_
  refine G.nil ?_
  refine GC.retC (cs := rbR a) rfl Tryd.isAgg98 Tryd.sizeOf98 rfl (.head _) rfl fun w' hw' => ⟨?_, hw'.sub (List.nil_sublist _)⟩
  rw [if_pos (by omega)]
 refine GC.seq ?_
 refine GC.reg ?_
 refine G.v (V.eqI rfl rfl) rfl ?_
 refine G.m2 ?_
 refine G.nil ?_
 refine GC.condD rfl (fun h10 => ?_) (fun h10 => ?_)
 ·refine GC.seq ?_
  refine GC.reg ?_
  refine G.v (V.iaA (i := 1) Tryd.underlying98 Tryd.sizeOf5 rfl rfl (by decide)) rfl ?_
  refine G.v (V.ld (b := qb) (off := 0 + 1 * 1) (wf := true) (l := rbR a) (T := 98) (fz := (0, 0)) (v := .int .u8 0) Tryd.isAgg5 rfl (.tail _ (.head _)) rfl) rfl ?_
  refine G.v (V.iaA (i := 2) Tryd.underlying98 Tryd.sizeOf5 rfl rfl (by decide)) rfl ?_
  refine G.v (V.ld (b := qb) (off := 0 + 2 * 1) (wf := true) (l := rbR a) (T := 98) (fz := (0, 0)) (v := .int .u8 0) Tryd.isAgg5 rfl (.tail _ (.head _)) rfl) rfl ?_
  refine G.v (V.iaA (i := 3) Tryd.underlying98 Tryd.sizeOf5 rfl rfl (by decide)) rfl ?_
  refine G.v (V.ld (b := qb) (off := 0 + 3 * 1) (wf := true) (l := rbR a) (T := 98) (fz := (0, 0)) (v := .int .u8 0) Tryd.isAgg5 rfl (.tail _ (.head _)) rfl) rfl ?_
  refine G.v (V.bd (vs := [(0, .int .u8 0), (1, .int .u8 0), (2, .int .u8 0), (3, .int .u8 0)]) rfl (fun w1 => bd98_4 _ _ _ _ rfl rfl rfl rfl w1)) rfl ?_
  refine G.stA (cs := rbR 0) Tryd.sizeOf98 rfl rfl (rbR_one _) .z rfl ?_
  refine G.nil ?_
  refine GC.retC (cs := rbR 0) rfl Tryd.isAgg98 Tryd.sizeOf98 rfl (.head _) rfl fun w' hw' => ⟨?_, hw'.sub (List.nil_sublist _)⟩
  rw [if_neg (by omega)]
 refine GC.seq ?_
 refine GC.reg ?_
 refine G.v (V.eqI rfl rfl) rfl ?_
 refine G.m2 ?_
 refine G.nil ?_
 refine GC.condD rfl (fun h19 => ?_) (fun h19 => ?_)
 ·refine GC.seq ?_
  refine GC.reg ?_
  refine G.v (V.iaA (i := 2) Tryd.underlying98 Tryd.sizeOf5 rfl rfl (by decide)) rfl ?_
  refine G.v (V.ld (b := qb) (off := 0 + 2 * 1) (wf := true) (l := rbR a) (T := 98) (fz := (0, 0)) (v := .int .u8 0) Tryd.isAgg5 rfl (.tail _ (.head _)) rfl) rfl ?_
  refine G.v (V.iaA (i := 3) Tryd.underlying98 Tryd.sizeOf5 rfl rfl (by decide)) rfl ?_
  refine G.v (V.ld (b := qb) (off := 0 + 3 * 1) (wf := true) (l := rbR a) (T := 98) (fz := (0, 0)) (v := .int .u8 0) Tryd.isAgg5 rfl (.tail _ (.head _)) rfl) rfl ?_
  refine G.v (V.bd (vs := [(0, .int .u8 0), (1, .int .u8 0)]) rfl (fun w1 => bd98_2 _ _ rfl rfl w1)) rfl ?_
  refine G.stA (cs := rbR 0) Tryd.sizeOf98 rfl rfl (rbR_one _) .z rfl ?_
  refine G.nil ?_
  refine GC.retC (cs := rbR 0) rfl Tryd.isAgg98 Tryd.sizeOf98 rfl (.head _) rfl fun w' hw' => ⟨?_, hw'.sub (List.nil_sublist _)⟩
  rw [if_neg (by omega)]
 refine GC.seq ?_
 refine GC.reg ?_
 refine G.v (V.eqI rfl rfl) rfl ?_
 refine G.m2 ?_
 refine G.nil ?_
 refine GC.condD rfl (fun h26 => ?_) (fun h26 => ?_)
 ·refine GC.seq ?_
  refine GC.reg ?_
  refine G.v (V.iaA (i := 3) Tryd.underlying98 Tryd.sizeOf5 rfl rfl (by decide)) rfl ?_
  refine G.v (V.ld (b := qb) (off := 0 + 3 * 1) (wf := true) (l := rbR a) (T := 98) (fz := (0, 0)) (v := .int .u8 0) Tryd.isAgg5 rfl (.tail _ (.head _)) rfl) rfl ?_
  refine G.v (V.bd (vs := [(0, .int .u8 0)]) rfl (fun w1 => bd98_1 _ rfl w1)) rfl ?_
  refine G.stA (cs := rbR 0) Tryd.sizeOf98 rfl rfl (rbR_one _) .z rfl ?_
  refine G.nil ?_
  refine GC.retC (cs := rbR 0) rfl Tryd.isAgg98 Tryd.sizeOf98 rfl (.head _) rfl fun w' hw' => ⟨?_, hw'.sub (List.nil_sublist _)⟩
  rw [if_neg (by omega)]
 refine GC.seq ?_
 refine GC.reg ?_
 refine G.v (V.bd (vs := []) rfl (fun w1 => bd98 w1)) rfl ?_
 refine G.stA (cs := rbR 0) Tryd.sizeOf98 rfl rfl (rbR_one _) .z rfl ?_
 refine G.nil ?_
 refine GC.retC (cs := rbR 0) rfl Tryd.isAgg98 Tryd.sizeOf98 rfl (.head _) rfl fun w' hw' => ⟨?_, hw'.sub (List.nil_sublist _)⟩
 rw [if_neg (by omega)]
theorem low_wrap (r : Nat) (h : r < 128) : IntKind.u32.wrap (r : Int) = (r : Int) ∧ IntKind.u8.wrap (r : Int) = (r : Int) := by
 constructor <;> simp [IntKind.wrap, IntKind.bits, IntKind.signed] <;> omega
theorem c75_any (w : World) (D : Nat → Prop) {qb : Nat} {a x : UInt8} {H : SH} (hx : x.toNat < 128) (hH : HF w D (⟨qb, true, .row (rbR a) 98 (0, 0)⟩ :: H) w) : Calls Tryd.prog 75 #[.slice (some ⟨qb, 0, none⟩) 4 4, .int .i32 (x.toNat : Int)] w fun e w' => e = .returned (I 1) ∧ HF w D (⟨qb, true, .row (rbR x) 98 (0, 0)⟩ :: H) w' := by
 refine enter D (⟨qb, true, .row (rbR a) 98 (0, 0)⟩ :: H) Tryd.func75 rfl Tryd.ntmps75 rfl rfl hH fun c hc => ?_
 subst hc
 refine GC.seq ?_
 refine GC.reg ?_
 refine G.m2 ?_
 refine G.nil ?_
 refine GC.seq ?_
 refine GC.seq ?_
 refine GC.reg ?_
 refine G.m1 ?_
 refine G.v (V.cvW (i := (x.toNat : Int)) Tryd.underlying21 Tryd.underlying89 rfl (low_wrap _ hx).1) rfl ?_
 refine G.v (V.le rfl rfl) rfl ?_
 refine G.nil ?_
 refine GC.condD rfl (fun h7 => ?_) (fun h7 => absurd h7 (by omega))
 refine GC.seq ?_
 refine GC.reg ?_
 refine G.m1 ?_
 refine G.m1 ?_
 refine G.v (V.cvW (i := (x.toNat : Int)) Tryd.underlying21 Tryd.underlying5 rfl (low_wrap _ hx).2) rfl ?_
 refine G.v (V.ia (i := 0) Tryd.underlying44 Tryd.sizeOf5 rfl rfl (by decide)) rfl ?_
 refine G.st (b := qb) (off := 0 + 0 * 1) (l := rbR a) (T := 98) (fz := (0, 0)) (v := .int .u8 (x.toNat : Int)) Tryd.sizeOf5 rfl rfl rfl .z rfl rfl ?_
 refine G.nil ?_
 refine GC.seq ?_
 refine GC.reg ?_
 refine G.m2 ?_
 refine G.nil ?_
 exact GC.ret1 rfl rfl fun w' hw' => ⟨rfl, hw'⟩
theorem f72_low (w : World) (x : UInt8) (hx : x.toNat < 128) : Calls Tryd.prog 72 #[.int .u8 (x.toNat : Int)] w fun e w' => e = .returned (.bool true) ∧ HF w (fun _ => False) [] w' := by
 refine (Tryd.utf8_RuneStart (x.toNat : Int) w (by omega) (by omega)).mono fun e w' ⟨h1, h2⟩ => ?_
 subst h2
 refine ⟨?_, HF.start _ _⟩
 rw [h1]
 have : Lib.runeStart (x.toNat : Int) = true := by simp [Lib.runeStart]; omega
 rw [this]
theorem f73_low (w : World) (q : List UInt8) (x : UInt8) (h0 : q[0]? = some x) (hx : x.toNat < 128) : Calls Tryd.prog 73 #[S q] w fun e w' => e = .returned (.tuple #[.int .i32 (x.toNat : Int), I 1]) ∧ HF w (fun _ => False) [] w' := by
 refine (Tryd.utf8_DecodeRuneInString_ascii ⟨q.toArray⟩ x w h0 hx).mono fun e w' ⟨h1, h2⟩ => ?_
 subst h2
 exact ⟨h1, HF.start _ _⟩
theorem f74_low (w : World) (x : UInt8) (hx : x.toNat < 128) : Calls Tryd.prog 74 #[.int .i32 (x.toNat : Int)] w fun e w' => e = .returned (.int .i32 ((lo x).toNat : Int)) ∧ HF w (fun _ => False) [] w' := by
 refine (Tryd.unicode_ToLower (x.toNat : Int) w (by omega)).mono fun e w' ⟨h1, h2⟩ => ?_
 subst h2
 refine ⟨?_, HF.start _ _⟩
 rw [h1, lo_nat]
 have : Lib.toLowerR (x.toNat : Int) = ((if 65 ≤ x.toNat ∧ x.toNat ≤ 90 then x.toNat + 32 else x.toNat : Nat) : Int) := by
  unfold Lib.toLowerR
  split <;> split <;> omega
 rw [this]
theorem f76_low (w : World) (x : UInt8) (hx : x.toNat < 128) : Calls Tryd.prog 76 #[.int .i32 (x.toNat : Int)] w fun e w' => e = .returned (.int .i32 ((up x).toNat : Int)) ∧ HF w (fun _ => False) [] w' := by
 refine (Tryd.unicode_ToUpper (x.toNat : Int) w (by omega)).mono fun e w' ⟨h1, h2⟩ => ?_
 subst h2
 refine ⟨?_, HF.start _ _⟩
 rw [h1, up_nat]
 have : Lib.toUpperR (x.toNat : Int) = ((if 97 ≤ x.toNat ∧ x.toNat ≤ 122 then x.toNat - 32 else x.toNat : Nat) : Int) := by
  unfold Lib.toUpperR
  split <;> split <;> omega
 rw [this]
theorem lo_low {x : UInt8} (hx : x.toNat < 128) : (lo x).toNat < 128 := by
 rw [lo_nat]; split <;> omega
theorem up_low {x : UInt8} (hx : x.toNat < 128) : (up x).toNat < 128 := by
 rw [up_nat]; split <;> omega
end Go.Proofs

/- The trees' strings are not long. -/
set_option maxRecDepth 20000
namespace Go.Proofs
open Go Bw Gt Gs Tr
/-- the tree's strings are not long -/
inductive Ln : T0 → Prop
 | mk {path idx : List UInt8} {wild : Bool} {nt pr : Nat} {h : Option Nat} {full : List UInt8} {kids : List T0} (hp : path.length ≤ 100000) (hi : idx.length ≤ 100000) (hf : full.length ≤ 100000) (hn : kids.length ≤ 100000) (hk : ∀ k ∈ kids, Ln k) : Ln (.node () path idx wild nt pr h full kids)
theorem nodup_257 {idx : List UInt8} {wild : Bool} (h : idx.Nodup) : idx.length + wild.toNat ≤ 100000 ∧ idx.length ≤ 100000 := by
 have := nodup_256 h
 cases wild <;> simp <;> omega
theorem Rep.ln {t : T0} (hn : NB t) : ∀ (b : Bool) (f : F), Rep b t f → Ln t := by
 induction hn with
 | @mk path idx wild nt pr h full kids hp hi hf hk ih =>
  intro b f hr
  have l1 := hp.1
  have l2 := hf.1
  cases hr with
  | st wn wk hp2 hnt hpre hh hnd hpl hlen hk2 hkn hne hno hw hwr hnw hA hmin =>
   refine .mk (by omega) (nodup_257 (wild := true) hnd).2 (by omega) (by rw [hlen]; exact (nodup_257 hnd).1) fun k hkm => ?_
   obtain ⟨j, hj⟩ := List.getElem?_of_mem hkm
   have hjl := (List.getElem?_eq_some_iff.1 hj).1
   rcases Nat.lt_or_ge j idx.length with h | h
   ·exact ih k hkm _ _ (hk2 j _ k (List.getElem?_eq_getElem h) hj)
   ·cases wild with
    | false => simp at hlen; omega
    | true =>
     simp at hlen
     have e : j = idx.length := by omega
     subst e
     rw [(hw rfl).1] at hj
     cases hj
     exact ih _ hkm _ _ (hwr rfl)
  | pa => exact .mk (by omega) (by simp) (by omega) (by simp) (by simp)
  | pk hh hidx hk2 =>
   refine .mk (by omega) (by rcases hidx with rfl | rfl <;> simp) (by omega) (by simp) fun k hkm => ?_
   rw [List.mem_singleton.1 hkm]
   exact ih _ (.head _) _ _ hk2
  | ca =>
   refine .mk (by simp) (by simp) (by omega) (by simp) fun k hkm => ?_
   rw [List.mem_singleton.1 hkm]
   cases hk _ (.head _) with
   | mk c1 c2 c3 c4 =>
    have l3 := c1.1
    have l4 := c3.1
    exact .mk (by omega) (by simp) (by omega) (by simp) (by simp)
end Go.Proofs

/- Go's own tables in memory; texts read rune by rune; a call with what its world comes from. -/
set_option maxRecDepth 20000
namespace Bw
open Go Go.Proofs
variable {P : Program} {c : Cx} {n : Nat} {k : List Item} {fr : SF} {H : SH} {ops : Array Oper} {rest : List Oper} {ty : TypeId} {pos : String} {aft : Array Edge}
/-- a call, with what its world comes from -/
theorem G.callG {H1 Hk : SH} {g : FuncId} {xs : List Operand} {vs : List Value} {tys : Array TypeId} {d : Nat} (J : Value → SH → Prop) (hp : H.Perm (H1 ++ Hk)) (ha : ∀ e ∈ H1, e.w = true)
  (hg : ∀ (args : Array Value) w, (callFunc g args).run P w = .ok (.enter g args) w) (he : evs fr xs = some vs) (hd : Nat.blt d n = true)
  (hc : ∀ w, HF c.w0 c.D H w → HF w (fun b => ∃ e ∈ H1, e.b = b) H1 w →
   Calls P g vs.toArray w (fun e w' => ∃ v H1', e = .returned v ∧ (∀ x ∈ H1', x.w = true) ∧ HF w (fun b => ∃ e ∈ H1, e.b = b) H1' w' ∧ J v H1'))
  (hk : ∀ v H1', J v H1' → G P c n k ops rest ((d, v) :: fr) (H1' ++ Hk)) :
  G P c n k ops (⟨some d, .call ⟨.value (.func g), xs.toArray, tys⟩, ty, pos, aft, none⟩ :: rest) fr H := by
 refine G.callW (fun v H' => ∃ H1', J v H1' ∧ H' = H1' ++ Hk) hg he hd (fun w hw => ?_) (fun v H' ⟨H1', h1, h2⟩ => h2 ▸ hk v H1' h1)
 have hh := hw.perm hp
 have hnd := List.pairwise_append.1 hh.nd
 refine (hc w hw (hh.loc (fun e he => List.mem_append_left _ he) hnd.1)).mono fun e w' ⟨v, H1', h1, h2, h3, h4⟩ => ?_
 exact ⟨v, _, h1, hw.back hp ha h2 h3, H1', h4, rfl⟩
/-- a text's iterator is made -/
theorem G.rngS {T : TypeId} {x : Operand} {d : Nat} {s : List UInt8} (hT : P.underlying T = some .string) (hx : ev fr x = some (S s)) (hd : Nat.blt d n = true)
  (hk : ∀ b, c.w0.heap.size ≤ b → G P c n k ops rest ((d, Pt b 0) :: fr) (⟨b, true, .obj (.stringIter ⟨s.toArray⟩ 0)⟩ :: H)) : G P c n k ops (⟨some d, .range T x, ty, pos, aft, none⟩ :: rest) fr H := by
 refine G.new (kb := .obj (.stringIter ⟨s.toArray⟩ 0)) (v := fun b => Pt b 0) (fun a w ha hw => ?_) hd hk
 simp [execOp, ha.eval hx, Instr.range, underlying, hT, Blk.den]
/-- a rune below 128 -/
theorem G.nxtS {x : Operand} {d b ip i : Nat} {s : List UInt8} {u : UInt8} (hx : ev fr x = some (Pt b 0)) (hi : At i ⟨b, true, .obj (.stringIter ⟨s.toArray⟩ ip)⟩ H) (hs : s[ip]? = some u) (hu : u.toNat < 128) (hd : Nat.blt d n = true)
  (hk : G P c n k ops rest ((d, .tuple #[.bool true, I (ip : Nat), .int .i32 (u.toNat : Int)]) :: fr) (putE (.obj (.stringIter ⟨s.toArray⟩ (ip + 1))) i H)) : G P c n k ops (⟨some d, .next x true, ty, pos, aft, none⟩ :: rest) fr H := by
 intro hf a w ha hw
 have hb : w.heap[b]? = some (.stringIter ⟨s.toArray⟩ ip) := hw.has _ hi.mem
 have hg : (getObj b).run P w = .ok (.stringIter ⟨s.toArray⟩ ip) w := by simp [getObj, Sem.run, hb]
 have hlt : ip < (⟨s.toArray⟩ : ByteArray).size := by
  show ip < s.toArray.size
  rw [List.size_toArray]; exact (List.getElem?_eq_some_iff.1 hs).1
 have hge : (⟨s.toArray⟩ : ByteArray)[ip]'hlt = u := by
  show s.toArray[ip]'_ = u
  rw [List.getElem_toArray]; exact (List.getElem?_eq_some_iff.1 hs).2
 have hdec := decode_ascii ⟨s.toArray⟩ ip hlt (by rw [hge]; exact hu)
 rw [hge] at hdec
 have hso : ∀ o, (setObj b o).run P w = .ok () { w with heap := w.heap.setIfInBounds b o } := fun o => by simp [setObj, Sem.run, hb]
 have hrun : (execOp a.eval ⟨some d, .next x true, ty, pos, aft, none⟩).run P w = .ok (.value (.tuple #[.bool true, I (ip : Nat), .int .i32 (u.toNat : Int)])) { w with heap := w.heap.setIfInBounds b (.stringIter ⟨s.toArray⟩ (ip + 1)) } := by
  simp [execOp, ha.eval hx, Instr.next, hg, hlt, hdec, hso, goInt]
 refine wpList_step fun K' hK' => ?_
 simp only [Region.wanted, if_true, Oper.wp, hrun, Oper.upon]
 exact hK' _ _ (hk hf _ _ (ha.put hd _) (hw.setObj hi _))
theorem V.orB {t u ty : TypeId} {x y : Operand} {a b : UInt8} (hx : ev fr x = some (.int .u8 (a.toNat : Int))) (hy : ev fr y = some (.int .u8 (b.toNat : Int))) : Val P c n (.binOp .or t x y u) ty fr H (.int .u8 ((a.toNat ||| b.toNat : Nat) : Int)) := by
 intro a1 w ha hw dst pos aft g
 have e5 : (2 : Nat) ^ IntKind.u8.bits = 256 := rfl
 have h1 := a.toNat_lt
 have h2 := b.toNat_lt
 have h3 : a.toNat ||| b.toNat < 256 := Nat.or_lt_two_pow (n := 8) h1 h2
 have e1 : a.toNat % 256 = a.toNat := Nat.mod_eq_of_lt h1
 have e2 : b.toNat % 256 = b.toNat := Nat.mod_eq_of_lt h2
 have e4 : IntKind.u8.wrap ((a.toNat ||| b.toNat : Nat) : Int) = ((a.toNat ||| b.toNat : Nat) : Int) := by
  unfold IntKind.wrap
  simp [IntKind.bits, IntKind.signed]
  omega
 simp only [execOp, ha.eval hx, ha.eval hy, eqGuard, binOp, Op.intBits]
 simp
 rw [e5, e1, e2, e4]
theorem V.shr1 {t u ty : TypeId} {a : Nat} {x : Operand} (hx : ev fr x = some (.int .u64 (a : Int))) : Val P c n (.binOp .shr t x (.const (.int .u64 1)) u) ty fr H (.int .u64 ((a / 2 : Nat) : Int)) := by
 intro a1 w ha hw dst pos aft g
 have h1 := ha.eval hx
 have h2 : a1.eval (.const (.int .u64 1)) = .int .u64 1 := rfl
 simp [execOp, h1, h2, eqGuard, binOp, Op.shift]
 have h3 : (2 : Int) ^ (min 1 IntKind.u64.bits) = 2 := rfl
 rw [h3, Int.fdiv_eq_ediv_of_nonneg _ (by omega)]
theorem or_low {a b : UInt8} (ha : a.toNat < 128) : 128 ≤ a.toNat ||| b.toNat ↔ 128 ≤ b.toNat := by
 constructor
 ·intro h
  rcases Nat.lt_or_ge b.toNat 128 with hb | hb
  ·have := Nat.or_lt_two_pow (n := 7) ha hb
   omega
  ·exact hb
 ·intro h
  exact Nat.le_trans h Nat.right_le_or
end Bw
namespace Go.Proofs
open Go Bw Gt
/-- what unicode's table asciiFold holds -/
def afN (i : Nat) : Nat := if 65 ≤ i ∧ i ≤ 90 then i + 32 else if i = 107 then 8490 else if i = 115 then 383 else if 97 ≤ i ∧ i ≤ 122 then i - 32 else i
/-- what unicode's table caseOrbit holds -/
def orbT : List (Nat × Nat) := [(75, 107), (83, 115), (107, 8490), (115, 383), (181, 924), (197, 229), (223, 7838), (229, 8491), (304, 304), (305, 305), (383, 83), (452, 453), (453, 454), (454, 452), (455, 456), (456, 457), (457, 455), (458, 459), (459, 460), (460, 458), (497, 498), (498, 499), (499, 497), (837, 921), (912, 8147), (914, 946), (917, 949), (920, 952), (921, 953), (922, 954), (924, 956), (928, 960), (929, 961), (931, 962), (934, 966), (937, 969), (944, 8163), (946, 976), (949, 1013), (952, 977), (953, 8126), (954, 1008), (956, 181), (960, 982), (961, 1009), (962, 963), (963, 931), (966, 981), (969, 8486), (976, 914), (977, 1012), (981, 934), (982, 928), (1008, 922), (1009, 929), (1012, 920), (1013, 917), (1042, 1074), (1044, 1076), (1054, 1086), (1057, 1089), (1058, 1090), (1066, 1098), (1074, 7296), (1076, 7297), (1086, 7298), (1089, 7299), (1090, 7300), (1098, 7302), (1122, 1123), (1123, 7303), (7296, 1042), (7297, 1044), (7298, 1054), (7299, 1057), (7300, 7301), (7301, 1058), (7302, 1066), (7303, 1122), (7304, 42570), (7776, 7777), (7777, 7835), (7835, 7776), (7838, 223), (8126, 837), (8147, 912), (8163, 944), (8486, 937), (8490, 75), (8491, 197), (42570, 42571), (42571, 7304), (64261, 64262), (64262, 64261)]
/-- Go's own tables lie in memory, outside of D -/
structure LaidF (w : World) (D : Nat → Prop) : Prop where
 af : ∀ i, i < 128 → w.cell? ⟨1, i, none⟩ = some (.int .u16 (afN i : Nat))
 co : ∃ ob oo cp, w.cell? ⟨2, 0, none⟩ = some (.slice (some ⟨ob, oo, none⟩) 94 cp) ∧ (∀ (i : Nat) x, orbT[i]? = some x → w.cell? ⟨ob, oo + i * 2, none⟩ = some (.int .u16 (x.1 : Nat)) ∧ w.cell? ⟨ob, oo + i * 2 + 1, none⟩ = some (.int .u16 (x.2 : Nat))) ∧ ¬ D ob
 u8 : Lib.Utf8Tabs 4 5 w
 d1 : ¬ D 1
 d2 : ¬ D 2
 d4 : ¬ D 4
 d5 : ¬ D 5
theorem cell_lt {w : World} {b o : Nat} {v : Value} (h : w.cell? ⟨b, o, none⟩ = some v) : b < w.heap.size := by
 rcases Nat.lt_or_ge b w.heap.size with h1 | h1
 ·exact h1
 ·have : w.heap[b]? = none := Array.getElem?_eq_none h1
  simp [World.cell?, this] at h
theorem LaidF.at_ {w0 w : World} {D D' : Nat → Prop} {H : SH} (h : LaidF w0 D) (hw : HF w0 D H w) (hD : ∀ b, D' b → D b ∨ w0.heap.size ≤ b) : LaidF w D' := by
 have nd : ∀ b o v, w0.cell? ⟨b, o, none⟩ = some v → ¬ D b → ¬ D' b := fun b o v hc hd hd' => by
  rcases hD b hd' with e | e
  ·exact hd e
  ·have := cell_lt hc; omega
 obtain ⟨ob, oo, cp, h1, h2, h3⟩ := h.co
 refine ⟨fun i hi => hw.cellOld (h.af i hi) h.d1, ⟨ob, oo, cp, hw.cellOld h1 h.d2, fun i x hx => ⟨hw.cellOld (h2 i x hx).1 h3, hw.cellOld (h2 i x hx).2 h3⟩, ?_⟩, ⟨fun i hi => hw.cellOld (h.u8.1 i hi) h.d4, fun i hi => ⟨hw.cellOld (h.u8.2 i hi).1 h.d5, hw.cellOld (h.u8.2 i hi).2 h.d5⟩⟩, ?_, ?_, ?_, ?_⟩
 ·exact nd _ _ _ (h2 0 _ rfl).1 h3
 ·exact nd _ _ _ (h.af 0 (by omega)) h.d1
 ·exact nd _ _ _ h1 h.d2
 ·exact nd _ _ _ (h.u8.1 0 (by omega)) h.d4
 ·exact nd _ _ _ (h.u8.2 0 (by omega)).1 h.d5
theorem LaidF.old {w0 w : World} {D : Nat → Prop} {H : SH} (h : LaidF w0 D) (hw : HF w0 D H w) : LaidF w fun _ => False := h.at_ hw fun _ e => e.elim
theorem LaidF.sub {w0 w : World} {D : Nat → Prop} {H H1 : SH} (h : LaidF w0 D) (hw : HF w0 D H w) (hs : ∀ e ∈ H1, e ∈ H) (ha : ∀ e ∈ H1, e.w = true) : LaidF w fun b => ∃ e ∈ H1, e.b = b :=
 h.at_ hw fun _ ⟨e, he, hb⟩ => hb ▸ hw.wr e (hs e he) (ha e he)
end Go.Proofs

/- unicode.SimpleFold, at ASCII and at two more runes. Printed by wip/mk_hx1.py. -/
set_option maxRecDepth 20000
namespace Go.Proofs
open Go Bw
open Gt
theorem wrap_i32n {r : Nat} (h : r < 2147483648) : IntKind.i32.wrap (r : Int) = (r : Int) := by
 simp [IntKind.wrap, IntKind.bits, IntKind.signed]; omega
theorem wrap_i64n {r : Nat} (h : r < 2147483648) : IntKind.i64.wrap (r : Int) = (r : Int) := wrap_i64 (by omega) (by omega)
theorem wrap_u64n {r : Nat} (h : r < 2147483648) : IntKind.u64.wrap (r : Int) = (r : Int) := by
 simp [IntKind.wrap, IntKind.bits, IntKind.signed]; omega
theorem afN_lt {i : Nat} (h : i < 128) : afN i < 65536 := by
 unfold afN; (repeat' split) <;> omega
theorem c78_low (w : World) (hL : LaidF w fun _ => False) (r : Nat) (hr : r < 128) : Calls Tryd.prog 78 #[.int .i32 (r : Int)] w fun e w' => e = .returned (.int .i32 (afN r : Int)) ∧ HF w (fun _ => False) [] w' := by
 refine enter (fun _ => False) [] Tryd.func78 rfl Tryd.ntmps78 rfl rfl (HF.start w _) fun c hc => ?_
 subst hc
 refine GC.seq ?_
 refine GC.reg ?_
 refine G.m2 ?_
 refine G.nil ?_
 refine GC.seq ?_
 refine GC.seq ?_
 refine GC.reg ?_
 refine G.m1 ?_
 refine G.v (V.lt rfl rfl) rfl ?_
 refine G.m1 ?_
 refine G.bc 10 rfl (fun h10 => ?_) (fun h10 => ?_)
 ·exact absurd h10 (by simp)
 ·refine G.m5 ?_
  refine G.vg rfl rfl (V.gt rfl rfl) rfl ?_
  refine G.m4 ?_
  refine G.nil ?_
  refine GC.condD rfl (fun h13 => absurd h13 (by omega)) (fun h13 => ?_)
  refine GC.skip ?_
  refine GC.seq ?_
  refine GC.seq ?_
  refine GC.reg ?_
  refine G.m1 ?_
  refine G.v (V.cvW (i := (r : Int)) Tryd.underlying21 Tryd.underlying3 rfl (wrap_i64n (by omega))) rfl ?_
  refine G.v (V.lt rfl rfl) rfl ?_
  refine G.nil ?_
  refine GC.condD rfl (fun h17 => ?_) (fun h17 => absurd hr (by omega))
  refine GC.seq ?_
  refine GC.reg ?_
  refine G.m1 ?_
  refine G.v (V.iaA (i := r) Tryd.underlying116 Tryd.sizeOf84 rfl rfl hr) rfl ?_
  refine G.v (V.ldC (v := .int .u16 (afN r : Nat)) Tryd.isAgg84 rfl (by rw [Nat.zero_add, Nat.mul_one]; exact hL.af r hr) id) rfl ?_
  refine G.v (V.cvW (i := (afN r : Int)) Tryd.underlying84 Tryd.underlying21 rfl (wrap_i32n (by have := afN_lt hr; omega))) rfl ?_
  refine G.m2 ?_
  refine G.nil ?_
  exact GC.ret1 rfl rfl fun w' hw' => ⟨rfl, hw'⟩
theorem c78_orb (w : World) (hL : LaidF w fun _ => False) (k r t : Nat) (hr : 128 ≤ r) (hr2 : r < 65536) (ht : t < 65536) (hk : orbT[k]? = some (r, t)) (hk9 : k < 94) (hs : ∀ m, m < 94 → ∃ x, orbT[m]? = some x ∧ x.1 < 65536 ∧ (x.1 < r ↔ m < k)) : Calls Tryd.prog 78 #[.int .i32 (r : Int)] w fun e w' => e = .returned (.int .i32 (t : Int)) ∧ HF w (fun _ => False) [] w' := by
 refine enter (fun _ => False) [] Tryd.func78 rfl Tryd.ntmps78 rfl rfl (HF.start w _) fun c hc => ?_
 subst hc
 obtain ⟨ob, oo, cp, h1, h2, _⟩ := hL.co
 refine GC.seq ?_
 refine GC.reg ?_
 refine G.m2 ?_
 refine G.nil ?_
 refine GC.seq ?_
 refine GC.seq ?_
 refine GC.reg ?_
 refine G.m1 ?_
 refine G.v (V.lt rfl rfl) rfl ?_
 refine G.m1 ?_
 refine G.bc 10 rfl (fun h10 => ?_) (fun h10 => ?_)
 ·exact absurd h10 (by simp)
 ·refine G.m5 ?_
  refine G.vg rfl rfl (V.gt rfl rfl) rfl ?_
  refine G.m4 ?_
  refine G.nil ?_
  refine GC.condD rfl (fun h13 => absurd h13 (by omega)) (fun h13 => ?_)
  refine GC.skip ?_
  refine GC.seq ?_
  refine GC.seq ?_
  refine GC.reg ?_
  refine G.m1 ?_
  refine G.v (V.cvW (i := (r : Int)) Tryd.underlying21 Tryd.underlying3 rfl (wrap_i64n (by omega))) rfl ?_
  refine G.v (V.lt rfl rfl) rfl ?_
  refine G.nil ?_
  refine GC.condD rfl (fun h17 => absurd hr (by omega)) (fun h17 => ?_)
  refine GC.skip ?_
  refine GC.seq ?_
  refine GC.reg ?_
  refine G.m2 ?_
  refine G.nil ?_
  refine GC.seq ?_
  refine GC.reg ?_
  refine G.v (V.ldC (v := .slice (some ⟨ob, oo, none⟩) 94 cp) Tryd.isAgg117 rfl h1 id) rfl ?_
  refine G.v (V.lenL Tryd.underlying117 rfl) rfl ?_
  refine G.m2 ?_
  refine G.nil ?_
  refine GC.seq ?_
  refine GC.block ?_
  refine GC.loopJ (fun N fr' H' => ∃ lo hi, lo ≤ k ∧ k ≤ hi ∧ hi ≤ 94 ∧ lo + N = hi ∧ Sub [(0, .int .i32 (r : Int)), (3, I (lo : Nat)), (4, I (hi : Nat))] fr' ∧ H' = []) 94
   ⟨0, 94, by omega, by omega, by omega, by omega, .of rfl, rfl⟩ ?_
  rintro N fr' H' ⟨lo, hi, hlo, hhi, hh9, hN, hs2, rfl⟩ ih
  refine GC.weak hs2 ?_
  clear hs2
  refine GC.seq ?_
  refine GC.seq ?_
  refine GC.reg ?_
  refine G.m1 ?_
  refine G.m1 ?_
  refine G.v (V.lt rfl rfl) rfl ?_
  refine G.nil ?_
  refine GC.condD rfl (fun h26 => ?_) (fun h26 => ?_)
  ·refine GC.skip ?_
   refine GC.block ?_
   refine GC.seq ?_
   obtain ⟨x, hx, hx6, hxk⟩ := hs ((lo + hi) / 2) (by omega)
   refine GC.reg ?_
   refine G.m1 ?_
   refine G.m1 ?_
   refine G.v (V.addI (r := ((lo + hi : Nat) : Int)) rfl rfl (by omega) (by omega) (by omega)) rfl ?_
   refine G.v (V.cvW (i := ((lo + hi : Nat) : Int)) Tryd.underlying3 Tryd.underlying118 rfl (wrap_u64n (by omega))) rfl ?_
   refine G.v (V.shr1 rfl) rfl ?_
   refine G.v (V.cvW (i := (((lo + hi) / 2 : Nat) : Int)) Tryd.underlying118 Tryd.underlying3 rfl (wrap_i64n (by omega))) rfl ?_
   refine G.m2 ?_
   refine G.nil ?_
   refine GC.seq ?_
   refine GC.reg ?_
   refine G.v (V.ldC (v := .slice (some ⟨ob, oo, none⟩) 94 cp) Tryd.isAgg117 rfl h1 id) rfl ?_
   refine G.m1 ?_
   refine G.v (V.ia (i := (lo + hi) / 2) Tryd.underlying117 Tryd.sizeOf120 rfl rfl (by omega)) rfl ?_
   refine G.v (V.fa F120_0 rfl) rfl ?_
   refine G.v (V.ldC (v := .int .u16 (x.1 : Nat)) Tryd.isAgg84 rfl (h2 _ x hx).1 id) rfl ?_
   refine G.v (V.cvW (i := (x.1 : Int)) Tryd.underlying84 Tryd.underlying21 rfl (wrap_i32n (by omega))) rfl ?_
   refine G.m1 ?_
   refine G.v (V.lt rfl rfl) rfl ?_
   refine G.nil ?_
   refine GC.condD rfl (fun h40 => ?_) (fun h40 => ?_)
   ·refine GC.reg ?_
    refine G.m1 ?_
    refine G.v (V.addI (r := (((lo + hi) / 2 + 1 : Nat) : Int)) rfl rfl (by omega) (by omega) (by omega)) rfl ?_
    refine G.m2 ?_
    refine G.nil ?_
    refine GC.inBlock ?_
    exact ih (hi - ((lo + hi) / 2 + 1)) _ _ (by omega) ⟨(lo + hi) / 2 + 1, hi, by omega, by omega, by omega, by omega, .of rfl, rfl⟩
   refine GC.reg ?_
   refine G.m1 ?_
   refine G.m2 ?_
   refine G.nil ?_
   refine GC.inBlock ?_
   exact ih ((lo + hi) / 2 - lo) _ _ (by omega) ⟨lo, (lo + hi) / 2, by omega, by omega, by omega, by omega, .of rfl, rfl⟩
  refine GC.exit rfl ?_
  refine GC.seq ?_
  refine GC.seq ?_
  obtain rfl : lo = k := by omega
  obtain rfl : hi = lo := by omega
  refine GC.reg ?_
  refine G.m1 ?_
  refine G.v (V.ldC (v := .slice (some ⟨ob, oo, none⟩) 94 cp) Tryd.isAgg117 rfl h1 id) rfl ?_
  refine G.v (V.lenL Tryd.underlying117 rfl) rfl ?_
  refine G.v (V.lt rfl rfl) rfl ?_
  refine G.m1 ?_
  refine G.bc 48 rfl (fun h48 => ?_) (fun h48 => ?_)
  ·refine G.vg rfl rfl (V.ldC (v := .slice (some ⟨ob, oo, none⟩) 94 cp) Tryd.isAgg117 rfl h1 id) rfl ?_
   refine G.m5 ?_
   refine G.vg rfl rfl (V.ia (i := hi) Tryd.underlying117 Tryd.sizeOf120 rfl rfl hk9) rfl ?_
   refine G.vg rfl rfl (V.fa F120_0 rfl) rfl ?_
   refine G.vg rfl rfl (V.ldC (v := .int .u16 (r : Nat)) Tryd.isAgg84 rfl (h2 _ _ hk).1 id) rfl ?_
   refine G.vg rfl rfl (V.cvW (i := (r : Int)) Tryd.underlying84 Tryd.underlying21 rfl (wrap_i32n (by omega))) rfl ?_
   refine G.m5 ?_
   refine G.vg rfl rfl (V.eqI rfl rfl) rfl ?_
   refine G.m3 ?_
   refine G.nil ?_
   refine GC.cond rfl (fun h57 => ?_) (fun h57 => absurd h57 (by simp))
   refine GC.seq ?_
   refine GC.reg ?_
   refine G.v (V.ldC (v := .slice (some ⟨ob, oo, none⟩) 94 cp) Tryd.isAgg117 rfl h1 id) rfl ?_
   refine G.m1 ?_
   refine G.v (V.ia (i := hi) Tryd.underlying117 Tryd.sizeOf120 rfl rfl hk9) rfl ?_
   refine G.v (V.fa F120_1 rfl) rfl ?_
   refine G.v (V.ldC (v := .int .u16 (t : Nat)) Tryd.isAgg84 rfl (h2 _ _ hk).2 id) rfl ?_
   refine G.v (V.cvW (i := (t : Int)) Tryd.underlying84 Tryd.underlying21 rfl (wrap_i32n (by omega))) rfl ?_
   refine G.m2 ?_
   refine G.nil ?_
   exact GC.ret1 rfl rfl fun w' hw' => ⟨rfl, hw'⟩
  ·exact absurd hk9 (by have h := h48; simp at h; omega)
theorem orb_383 : ∀ m, m < 94 → ∃ x, orbT[m]? = some x ∧ x.1 < 65536 ∧ (x.1 < 383 ↔ m < 10) := by decide
theorem orb_8490 : ∀ m, m < 94 → ∃ x, orbT[m]? = some x ∧ x.1 < 65536 ∧ (x.1 < 8490 ↔ m < 88) := by decide
/-- the next rune of a rune's orbit -/
def nxR (r : Nat) : Nat := if r = 383 then 83 else if r = 8490 then 75 else afN r
/-- the runes whose orbits are told -/
def InR (r : Nat) : Prop := r < 128 ∨ r = 383 ∨ r = 8490
theorem c78_any (w : World) (hL : LaidF w fun _ => False) {r : Nat} (hr : InR r) : Calls Tryd.prog 78 #[.int .i32 (r : Int)] w fun e w' => e = .returned (.int .i32 (nxR r : Int)) ∧ HF w (fun _ => False) [] w' := by
 rcases hr with h | rfl | rfl
 ·have e : nxR r = afN r := by unfold nxR; rw [if_neg (by omega), if_neg (by omega)]
  rw [e]; exact c78_low w hL r h
 ·exact c78_orb w hL 10 383 83 (by omega) (by omega) (by omega) rfl (by omega) orb_383
 ·exact c78_orb w hL 88 8490 75 (by omega) (by omega) (by omega) rfl (by omega) orb_8490
end Go.Proofs

/- findCaseInsensitivePathRec: what its memory holds, the head of its loop. Printed by wip/mk_hv2.py. -/
set_option maxRecDepth 20000
namespace Go.Proofs
open Go Bw
open Gt
/-- handlers as a value; their row lies in Ht -/
def HVX (Ht : SH) (h : Option Nat) (hv : Value) : Prop := (h = none ∧ hv = .slice none 0 0) ∨ ∃ k hb, h = some k ∧ hv = .slice (some ⟨hb, 0, none⟩) 1 1 ∧ (⟨hb, true, .row [I (k : Int)] 3 (0, 0)⟩ : Ent) ∈ Ht
/-- a tree that can be read; copies of nodes lie in Cs -/
inductive Rd (Ht : SH) : T0 → Nat → Prop
 | mk {path idx : List UInt8} {wild : Bool} {nt pr : Nat} {h : Option Nat} {full : List UInt8} {kids : List T0} {nb : Nat} {bs : List Nat} {kv hv : Value} {Hs : SH}
   (hm : (⟨nb, true, .row (nodeR path idx wild nt pr kv hv full) 94 (0, 0)⟩ : Ent) ∈ Ht) (hs : Own 83 1 kv kids.length (bs.map (Pt · 0)) Hs) (hsm : ∀ e ∈ Hs, e ∈ Ht) (hbl : bs.length = kids.length) (hh : HVX Ht h hv)
   (hk : ∀ (j : Nat) k b, kids[j]? = some k → bs[j]? = some b → Rd Ht k b) : Rd Ht (.node () path idx wild nt pr h full kids) nb
theorem HV.x {Ht h v H} (x : HV h v H) (hs : ∀ e ∈ H, e ∈ Ht) : HVX Ht h v := by
 cases x with
 | nil => exact .inl ⟨rfl, rfl⟩
 | row => exact .inr ⟨_, _, rfl, rfl, hs _ (.head _)⟩
theorem HT.rd {t b H} (x : HT t b H) : ∀ {Ht : SH}, (∀ e ∈ H, e ∈ Ht) → Rd Ht t b := by
 refine HT.rec (motive_1 := fun t b H _ => ∀ {Ht : SH}, (∀ e ∈ H, e ∈ Ht) → Rd Ht t b) (motive_2 := fun ts bs H _ => ∀ {Ht : SH}, (∀ e ∈ H, e ∈ Ht) → ∀ (j : Nat) k b, ts[j]? = some k → bs[j]? = some b → Rd Ht k b) ?_ ?_ ?_ x
 ·intro path idx wild nt pr h full kids nb bs kv hv Hs Hh Hk hs hh hk ih Ht hsub
  exact .mk (hsub _ (.head _)) hs (fun e he => hsub e (.tail _ (List.mem_append_left _ he))) hk.len (hh.x fun e he => hsub e (.tail _ (List.mem_append_right _ (List.mem_append_left _ he))))
   (ih fun e he => hsub e (.tail _ (List.mem_append_right _ (List.mem_append_right _ he))))
 ·intro Ht _ j k b hj
  simp at hj
 ·intro t b H ts bs Hs h hs ih1 ih2 Ht hsub j k b2 hj hb
  cases j with
  | zero => simp at hj hb; subst hj hb; exact ih1 fun e he => hsub e (List.mem_append_left _ he)
  | succ j => exact ih2 (fun e he => hsub e (List.mem_append_right _ he)) j k b2 (by simpa using hj) (by simpa using hb)
theorem HVX.slice {Ht h v} (x : HVX Ht h v) : ∃ ad l c, v = .slice ad l c ∧ ad.isNone = h.isNone := by
 rcases x with ⟨rfl, rfl⟩ | ⟨k, hb, rfl, rfl, _⟩
 ·exact ⟨_, _, _, rfl, rfl⟩
 ·exact ⟨_, _, _, rfl, rfl⟩
/-- what is told, as a slice of the room -/
def outV (bb cp : Nat) : Option (List UInt8) → Value
 | some o => .slice (some ⟨bb, 0, none⟩) o.length cp
 | none => .slice none 0 0
/-- what the room holds then -/
def tkO (cur : List UInt8) (r : Option (List UInt8)) (bl : List UInt8) : Prop := bl.take (r.getD cur).length = r.getD cur
/-- the loop of findCaseInsensitivePathRec -/
noncomputable def K59 : List Item := (splitLoop ((Tryd.f59.body).getD .skip) []).getD []
/-- what is told of an end -/
def Fin59 (R : Ending → World → Prop) (w : World) (D : Nat → Prop) (bb cp : Nat) (Ht : SH) (c0 : List UInt8) (r : Option (List UInt8)) : Prop :=
 ∀ (bl : List UInt8) (w' : World), bl.length = cp → tkO c0 r bl → HF w D (⟨bb, true, .row (bC bl) 5 (0, 0)⟩ :: Ht) w' → R (.returned (outV bb cp r)) w'
theorem Rd.has {Ht t b} (x : Rd Ht t b) : ∃ l, (⟨b, true, .row l 94 (0, 0)⟩ : Ent) ∈ Ht ∧ nth l (0 + 0) = some (S t.path) := by
 cases x with
 | mk hm => exact ⟨_, hm, rfl⟩
theorem neL_out {P : Program} {c : Cx} {n : Nat} {fr : SF} {H : SH} {ty t u e : TypeId} {x : Operand} {bb cp : Nat} {r : Option (List UInt8)} (hU : P.underlying t = some (.slice e)) (hx : ev fr x = some (outV bb cp r)) : Val P c n (.binOp .neq t x (.const (.slice none 0 0)) u) ty fr H (.bool r.isSome) := by
 cases r with
 | none => exact V.neL hU hx
 | some o => exact V.neL hU hx
def cA59 : List Item → List Item
 | .code (.seq _ (.block id (.seq _ (.seq _ (.seq _ x))))) :: k => .code x :: .inBlock id :: k
 | k => k
/-- behind the node's text -/
noncomputable def K59a : List Item := cA59 K59
def cB59 : List Item → List Item
 | .code (.seq _ x) :: k => .code x :: k
 | k => k
/-- the path goes on -/
noncomputable def K59b : List Item := cB59 K59a
theorem tk_pre {bl c0 cur : List UInt8} (h : bl.take cur.length = cur) (hp : c0 <+: cur) : bl.take c0.length = c0 := by
 obtain ⟨x, rfl⟩ := hp
 have h2 := congrArg (List.take c0.length) h
 rw [List.take_left, List.take_take, Nat.min_eq_left (by simp)] at h2
 exact h2
theorem tk_app {bl cur s : List UInt8} (h : bl.take cur.length = cur) (hl : cur.length + s.length ≤ bl.length) : (bl.take cur.length ++ s ++ bl.drop (cur.length + s.length)).length = bl.length ∧ (bl.take cur.length ++ s ++ bl.drop (cur.length + s.length)).take (cur ++ s).length = cur ++ s := by
 constructor
 ·simp; omega
 ·rw [h, List.take_left]
end Go.Proofs

/- strings.EqualFold, of a text below 128 and any other of its length. Printed by wip/mk_hx2.py. -/
set_option maxRecDepth 20000
namespace Go.Proofs
open Go Bw
open Gt
theorem belowHF {w w' : World} (h : RowKit.Below w.heap.size w w') : HF w (fun _ => False) [] w' :=
 ⟨h.size, fun b hb _ => h.block b hb, fun _ h => (by cases h), fun _ h => (by cases h), List.Pairwise.nil, h.tape, h.os, h.output⟩
theorem dec_facts {y : UInt8} {q : List UInt8} {d : Nat × Nat} (hd : d = Lib.decodeGo ⟨(y :: q).toArray⟩) : 1 ≤ d.2 ∧ d.2 ≤ (y :: q).length ∧ d.1 ≤ 2147483647 ∧ (128 ≤ y.toNat → 128 ≤ d.1 ∧ (d.2 = 1 → d.1 = 65533)) := by
 have hsz : (⟨(y :: q).toArray⟩ : ByteArray).size = (y :: q).length := by show (y :: q).toArray.size = _; rw [List.size_toArray]
 have hd2 : d = Utf8.decode ⟨(y :: q).toArray⟩ 0 := by
  rw [hd]; unfold Lib.decodeGo; rw [if_neg (by rw [hsz]; simp)]
 have h0 : ((⟨(y :: q).toArray⟩ : ByteArray).get! (0 + 0)).toNat = y.toNat := by
  rw [get_at _ 0 (by rw [hsz]; simp)]; rfl
 have hle := decode_le ⟨(y :: q).toArray⟩ 0
 rw [← hd2] at hle
 have key : 1 ≤ d.2 ∧ d.2 ≤ (⟨(y :: q).toArray⟩ : ByteArray).size ∧ (128 ≤ y.toNat → 128 ≤ d.1 ∧ (d.2 = 1 → d.1 = 65533)) := by
  have hs1 : 1 ≤ (⟨(y :: q).toArray⟩ : ByteArray).size := by rw [hsz]; simp
  rw [hd2]
  simp only [Utf8.decode, h0]
  repeat' split
  all_goals simp_all [Utf8.runeError]
  all_goals omega
 rw [hsz] at key
 exact ⟨key.1, key.2.1, hle, key.2.2⟩
/-- a rune's orbit ends -/
theorem orb_end : ∀ p, p < 128 → InR (nxR p) ∧ ∃ m, m ≤ 2 ∧ (Nat.repeat nxR m (nxR p)) = p := by
 intro p hp
 have h : ∀ p, p < 128 → (nxR p < 128 ∨ nxR p = 383 ∨ nxR p = 8490) ∧ (nxR p = p ∨ nxR (nxR p) = p ∨ nxR (nxR (nxR p)) = p) := by decide
 obtain ⟨h1, h2⟩ := h p hp
 refine ⟨h1, ?_⟩
 rcases h2 with e | e | e
 ·exact ⟨0, by omega, e⟩
 ·exact ⟨1, by omega, e⟩
 ·exact ⟨2, by omega, e⟩
theorem InR.nx {r : Nat} (h : InR r) : InR (nxR r) := by
 rcases h with h | rfl | rfl
 ·exact (orb_end r h).1
 ·exact .inl (by decide)
 ·exact .inl (by decide)
theorem rep_nx : ∀ (m r : Nat), Nat.repeat nxR (m + 1) r = Nat.repeat nxR m (nxR r)
 | 0, _ => rfl
 | m + 1, r => by
  show nxR (Nat.repeat nxR (m + 1) r) = nxR (Nat.repeat nxR m (nxR r))
  rw [rep_nx m r]
theorem lo_le {x y : UInt8} (hx : x.toNat < 128) (hy : y.toNat < 128) (hne : x ≠ y) : lo x = lo y ↔ (65 ≤ min x.toNat y.toNat ∧ min x.toNat y.toNat ≤ 90 ∧ max x.toNat y.toNat = min x.toNat y.toNat + 32) := by
 rw [← UInt8.toNat_inj, lo_nat, lo_nat]
 have hne2 : x.toNat ≠ y.toNat := fun e => hne (UInt8.toNat_inj.1 e)
 (repeat' split) <;> omega
theorem Ef_high {a b : List UInt8} {i : Nat} {y : UInt8} (ha : ∀ x ∈ a, x.toNat < 128) (hb : b[i]? = some y) (hy : 128 ≤ y.toNat) : Ef a b = false := by
 unfold Ef
 refine decide_eq_false fun e => ?_
 have h1 := congrArg (·[i]?) e
 simp only [List.getElem?_map, hb, Option.map_some] at h1
 obtain ⟨x, hx, hxy⟩ := Option.map_eq_some_iff.1 h1
 have h2 := congrArg UInt8.toNat hxy
 rw [lo_nat, lo_nat] at h2
 have := ha x (List.mem_of_getElem? hx)
 split at h2 <;> split at h2 <;> omega
theorem Ef_ne {a b : List UInt8} {i : Nat} {x y : UInt8} (ha : a[i]? = some x) (hb : b[i]? = some y) (h : lo x ≠ lo y) : Ef a b = false := by
 unfold Ef
 refine decide_eq_false fun e => h ?_
 have h1 := congrArg (·[i]?) e
 simp only [List.getElem?_map, ha, hb, Option.map_some] at h1
 exact Option.some.inj h1
theorem take_lo {a b : List UInt8} {i : Nat} {x y : UInt8} (h : (a.take i).map lo = (b.take i).map lo) (ha : a[i]? = some x) (hb : b[i]? = some y) (hxy : lo x = lo y) : (a.take (i + 1)).map lo = (b.take (i + 1)).map lo := by
 obtain ⟨h1, rfl⟩ := List.getElem?_eq_some_iff.1 ha
 obtain ⟨h2, rfl⟩ := List.getElem?_eq_some_iff.1 hb
 rw [List.take_succ_eq_append_getElem h1, List.take_succ_eq_append_getElem h2, List.map_append, List.map_append, h]
 simp [hxy]
theorem c73_any (w : World) (hL : LaidF w fun _ => False) {y : UInt8} {q : List UInt8} {d : Nat × Nat} (hd : d = Lib.decodeGo ⟨(y :: q).toArray⟩) : Calls Tryd.prog 73 #[S (y :: q)] w fun e w' => e = .returned (.tuple #[.int .i32 (d.1 : Int), I (d.2 : Nat)]) ∧ HF w (fun _ => False) [] w' := by
 subst hd
 exact (Tryd.utf8_DecodeRuneInString ⟨(y :: q).toArray⟩ w hL.u8).mono fun e w' ⟨h1, h2⟩ => ⟨h1, belowHF h2⟩
theorem c70_any (w : World) (hL : LaidF w fun _ => False) (a b : List UInt8) (ha : ∀ x ∈ a, x.toNat < 128) (hab : a.length = b.length) (hl : a.length ≤ 1000000) : Calls Tryd.prog 70 #[S a, S b] w fun e w' => e = .returned (.bool (Ef a b)) ∧ HF w (fun _ => False) [] w' := by
 refine enter (fun _ => False) [] Tryd.func70 rfl Tryd.ntmps70 rfl rfl (HF.start w _) fun c hc => ?_
 subst hc
 refine GC.seq ?_
 refine GC.reg ?_
 refine G.m2 ?_
 refine G.nil ?_
 refine GC.scope ?_
 refine GC.seq ?_
 refine GC.reg ?_
 refine G.m2 ?_
 refine G.nil ?_
 refine GC.seq ?_
 refine GC.seq ?_
 refine GC.reg ?_
 refine G.m1 ?_
 refine G.v (V.lenS Tryd.underlying9 rfl) rfl ?_
 refine G.m1 ?_
 refine G.v (V.lenS Tryd.underlying9 rfl) rfl ?_
 refine G.v (V.minI (i := a.length) (j := b.length) rfl rfl) rfl ?_
 refine G.m2 ?_
 refine G.nil ?_
 refine GC.block ?_
 refine GC.loopJ (fun N fr' H' => ∃ i, i + N = a.length ∧ (a.take i).map lo = (b.take i).map lo ∧ Sub [(0, S a), (1, S b), (5, I (i : Nat)), (6, I (min a.length b.length : Nat))] fr' ∧ H' = []) a.length
  ⟨0, by omega, by simp, .of rfl, rfl⟩ ?_
 rintro N fr' H' ⟨i, hi, hpre, hs2, rfl⟩ ih
 refine GC.weak hs2 ?_
 clear hs2
 refine GC.seq ?_
 refine GC.seq ?_
 refine GC.reg ?_
 refine G.m1 ?_
 refine G.m1 ?_
 refine G.v (V.lt rfl rfl) rfl ?_
 refine G.nil ?_
 refine GC.condD rfl (fun h21 => ?_) (fun h21 => ?_)
 ·refine GC.skip ?_
  refine GC.seq ?_
  refine GC.block ?_
  refine GC.seq ?_
  have hia : i < a.length := by omega
  obtain ⟨x, hx⟩ : ∃ x, a[i]? = some x := ⟨_, List.getElem?_eq_getElem hia⟩
  obtain ⟨y, hy⟩ : ∃ y, b[i]? = some y := ⟨_, List.getElem?_eq_getElem (by omega)⟩
  have hxl := ha x (List.mem_of_getElem? hx)
  refine GC.reg ?_
  refine G.m1 ?_
  refine G.m1 ?_
  refine G.v (V.idx (i := i) (b := x) Tryd.underlying9 rfl rfl hx) rfl ?_
  refine G.m2 ?_
  refine G.nil ?_
  refine GC.seq ?_
  refine GC.reg ?_
  refine G.m1 ?_
  refine G.m1 ?_
  refine G.v (V.idx (i := i) (b := y) Tryd.underlying9 rfl rfl hy) rfl ?_
  refine G.m2 ?_
  refine G.nil ?_
  refine GC.seq ?_
  refine GC.seq ?_
  refine GC.reg ?_
  refine G.m1 ?_
  refine G.m1 ?_
  refine G.v (V.orB rfl rfl) rfl ?_
  refine G.v (V.ge rfl rfl) rfl ?_
  refine G.nil ?_
  refine GC.cond rfl (fun h33 => ?_) (fun h33 => ?_)
  ·refine GC.goto rfl ?_
   refine GC.seq ?_
   refine GC.skip ?_
   have hyh : 128 ≤ y.toNat := by
    have h := h33
    simp at h
    exact (or_low hxl).1 (by omega)
   refine GC.seq ?_
   refine GC.reg ?_
   refine G.m1 ?_
   refine G.m1 ?_
   refine G.v (V.slL (i := i) Tryd.underlying9 rfl rfl (by omega)) rfl ?_
   refine G.m2 ?_
   refine G.nil ?_
   refine GC.seq ?_
   refine GC.reg ?_
   refine G.m1 ?_
   refine G.m1 ?_
   refine G.v (V.slL (i := i) Tryd.underlying9 rfl rfl (by omega)) rfl ?_
   refine G.m2 ?_
   refine G.nil ?_
   refine GC.seq ?_
   refine GC.seq ?_
   refine GC.reg ?_
   refine G.m1 ?_
   refine G.rngS Tryd.underlying9 rfl rfl (fun it hit => ?_)
   refine G.nil ?_
   refine GC.block ?_
   refine GC.loopJ (fun N fr' H' => ∃ (j : Nat) (b' : List UInt8), j + N = (a.drop i).length ∧ ((j = 0 ∧ b' = b.drop i) ∨ b'.length < N) ∧ Sub [(1, S b'), (67, Pt it 0)] fr' ∧ H' = [⟨it, true, .obj (.stringIter ⟨(a.drop i).toArray⟩ j)⟩]) (a.drop i).length
    ⟨0, b.drop i, by omega, .inl ⟨rfl, rfl⟩, .of rfl, rfl⟩ ?_
   rintro N fr' H' ⟨j, b', hj, hb', hs3, rfl⟩ ih3
   refine GC.weak hs3 ?_
   clear hs3
   refine GC.seq ?_
   have hal : (a.drop i).length = a.length - i := List.length_drop
   have hjl : j < (a.drop i).length := by rcases hb' with ⟨h1, _⟩ | h1 <;> omega
   obtain ⟨u, hu⟩ : ∃ u, (a.drop i)[j]? = some u := ⟨_, List.getElem?_eq_getElem hjl⟩
   have hul := ha u (List.mem_of_mem_drop (List.mem_of_getElem? hu))
   refine GC.reg ?_
   refine G.nxtS rfl .z hu hul rfl ?_
   refine G.v (V.ex rfl rfl) rfl ?_
   refine G.nil ?_
   refine GC.seq ?_
   refine GC.condT rfl ?_
   refine GC.skip ?_
   refine GC.block ?_
   refine GC.seq ?_
   refine GC.reg ?_
   refine G.v (V.ex rfl rfl) rfl ?_
   refine G.m2 ?_
   refine G.nil ?_
   refine GC.seq ?_
   refine GC.seq ?_
   refine GC.reg ?_
   refine G.m1 ?_
   refine G.v (V.lenS Tryd.underlying9 rfl) rfl ?_
   refine G.v (V.eqI rfl rfl) rfl ?_
   refine G.nil ?_
   refine GC.condD rfl (fun h73 => ?_) (fun h73 => ?_)
   ·refine GC.seq ?_
    refine GC.reg ?_
    refine G.m2 ?_
    refine G.nil ?_
    exact GC.ret1 rfl rfl fun w' hw' => ⟨by rw [Ef_high ha hy hyh], hw'.sub (List.nil_sublist _)⟩
   refine GC.skip ?_
   refine GC.seq ?_
   obtain ⟨z, bq, rfl⟩ : ∃ z bq, b' = z :: bq := by
    cases b' with
    | nil => exact absurd rfl h73
    | cons z bq => exact ⟨z, bq, rfl⟩
   obtain ⟨dd, hdd⟩ : ∃ d, d = Lib.decodeGo ⟨(z :: bq).toArray⟩ := ⟨_, rfl⟩
   obtain ⟨hd1, hd2, hd3, hd4⟩ := dec_facts hdd
   have hkey : (z :: bq).length < N ∨ (128 ≤ dd.1 ∧ (dd.2 = 1 → dd.1 = 65533) ∧ (z :: bq).length = N) := by
    rcases hb' with ⟨h1, h2⟩ | h1
    ·have hz : z = y := by
      have := congrArg (·[0]?) h2
      rw [List.getElem?_drop, Nat.add_zero, hy] at this
      exact Option.some.inj this
     have h3 := congrArg List.length h2
     rw [List.length_drop] at h3
     obtain ⟨h4, h5⟩ := hd4 (by rw [hz]; exact hyh)
     exact .inr ⟨h4, h5, by omega⟩
    ·exact .inl h1
   refine GC.reg ?_
   refine G.m1 ?_
   refine G.callP (v := .tuple #[.int .i32 (dd.1 : Int), I (dd.2 : Nat)]) Tryd.call73 rfl rfl (fun w1 hw1 => c73_any w1 (hL.old hw1) hdd) ?_
   refine G.m1 ?_
   refine G.v (V.ex rfl rfl) rfl ?_
   refine G.v (V.ex rfl rfl) rfl ?_
   refine G.m2 ?_
   refine G.m2 ?_
   refine G.nil ?_
   refine GC.seq ?_
   refine GC.reg ?_
   refine G.m1 ?_
   refine G.m1 ?_
   refine G.v (V.slL (i := dd.2) Tryd.underlying9 rfl rfl hd2) rfl ?_
   refine G.m2 ?_
   refine G.nil ?_
   refine GC.seq ?_
   refine GC.seq ?_
   refine GC.reg ?_
   refine G.m1 ?_
   refine G.m1 ?_
   refine G.v (V.eqI rfl rfl) rfl ?_
   refine G.nil ?_
   refine GC.condD rfl (fun h84 => ?_) (fun h84 => ?_)
   ·refine GC.exit rfl ?_
    exact ih3 (N - 1) _ _ (by omega) ⟨j + 1, _, by omega, .inr (by rw [List.length_drop]; rcases hkey with h | ⟨h, _⟩ <;> omega), .of rfl, rfl⟩
   refine GC.skip ?_
   refine GC.seq ?_
   refine GC.seq ?_
   refine GC.reg ?_
   refine G.m1 ?_
   refine G.m1 ?_
   refine G.v (V.lt rfl rfl) rfl ?_
   refine G.nil ?_
   refine GC.join (fun fr' H' => ∃ p q : Nat, p = min u.toNat dd.1 ∧ q = max u.toNat dd.1 ∧ Sub [(1, S ((z :: bq).drop dd.2)), (67, Pt it 0), (10, .int .i32 (p : Int)), (11, .int .i32 (q : Int))] fr' ∧ H' = [⟨it, true, .obj (.stringIter ⟨(a.drop i).toArray⟩ (j + 1))⟩]) (fun J87 => ?_) ?_
   ·refine GC.condD rfl (fun h87 => ?_) (fun h87 => ?_)
    ·refine GC.reg ?_
     refine G.m1 ?_
     refine G.m1 ?_
     refine G.m2 ?_
     refine G.m2 ?_
     refine G.nil ?_
     exact J87 _ _ ⟨dd.1, u.toNat, by omega, by omega, .of rfl, rfl⟩
    refine GC.skip ?_
    exact J87 _ _ ⟨u.toNat, dd.1, by omega, by omega, .of rfl, rfl⟩
   rintro fr' H' ⟨p, q, hp, hq, hs2, rfl⟩
   refine GC.weak hs2 ?_
   clear hs2
   have hp8 : p < 128 := by omega
   refine GC.seq ?_
   refine GC.seq ?_
   refine GC.reg ?_
   refine G.m1 ?_
   refine G.v (V.lt rfl rfl) rfl ?_
   refine G.nil ?_
   refine GC.condD rfl (fun h91 => ?_) (fun h91 => ?_)
   ·refine GC.seq ?_
    refine GC.seq ?_
    refine GC.reg ?_
    refine G.m1 ?_
    refine G.v (V.le rfl rfl) rfl ?_
    refine G.m1 ?_
    refine G.bc 94 rfl (fun h94 => ?_) (fun h94 => ?_)
    ·refine G.m5 ?_
     refine G.vg rfl rfl (V.le rfl rfl) rfl ?_
     refine G.m3 ?_
     refine G.m1 ?_
     refine G.bc 98 rfl (fun h98 => ?_) (fun h98 => ?_)
     ·refine G.m5 ?_
      refine G.m5 ?_
      refine G.vg rfl rfl (V.add rfl rfl) rfl ?_
      refine G.vg rfl rfl (V.sub rfl rfl) rfl ?_
      refine G.vg rfl rfl (V.eqI rfl rfl) rfl ?_
      refine G.m3 ?_
      refine G.nil ?_
      refine GC.condD rfl (fun h104 => ?_) (fun h104 => ?_)
      ·refine GC.exit rfl ?_
       exact ih3 (N - 1) _ _ (by omega) ⟨j + 1, _, by omega, .inr (by rw [List.length_drop]; rcases hkey with h | ⟨h, _⟩ <;> omega), .of rfl, rfl⟩
      refine GC.skip ?_
      refine GC.seq ?_
      refine GC.reg ?_
      refine G.m2 ?_
      refine G.nil ?_
      exact GC.ret1 rfl rfl fun w' hw' => ⟨by rw [Ef_high ha hy hyh], hw'.sub (List.nil_sublist _)⟩
     ·refine G.s1 ?_
      refine G.s1 ?_
      refine G.s1 ?_
      refine G.s1 ?_
      refine G.s1 ?_
      refine G.m4 ?_
      refine G.nil ?_
      refine GC.condF rfl ?_
      refine GC.skip ?_
      refine GC.seq ?_
      refine GC.reg ?_
      refine G.m2 ?_
      refine G.nil ?_
      exact GC.ret1 rfl rfl fun w' hw' => ⟨by rw [Ef_high ha hy hyh], hw'.sub (List.nil_sublist _)⟩
    ·refine G.s1 ?_
     refine G.s1 ?_
     refine G.m4 ?_
     refine G.m1 ?_
     refine G.s1 ?_
     refine G.s1 ?_
     refine G.s1 ?_
     refine G.s1 ?_
     refine G.s1 ?_
     refine G.m4 ?_
     refine G.nil ?_
     refine GC.condF rfl ?_
     refine GC.skip ?_
     refine GC.seq ?_
     refine GC.reg ?_
     refine G.m2 ?_
     refine G.nil ?_
     exact GC.ret1 rfl rfl fun w' hw' => ⟨by rw [Ef_high ha hy hyh], hw'.sub (List.nil_sublist _)⟩
   refine GC.skip ?_
   refine GC.seq ?_
   obtain ⟨hin0, m, hm, hrep⟩ := orb_end p hp8
   refine GC.reg ?_
   refine G.m1 ?_
   refine G.callP (v := .int .i32 (nxR p : Int)) Tryd.call78 rfl rfl (fun w1 hw1 => c78_any w1 (hL.old hw1) (.inl hp8)) ?_
   refine G.m2 ?_
   refine G.nil ?_
   refine GC.seq ?_
   refine GC.block ?_
   refine GC.loopJ (fun N2 fr' H' => ∃ r : Nat, InR r ∧ Nat.repeat nxR N2 r = p ∧ Sub [(1, S ((z :: bq).drop dd.2)), (67, Pt it 0), (10, .int .i32 (p : Int)), (11, .int .i32 (q : Int)), (13, .int .i32 (r : Int))] fr' ∧ H' = [⟨it, true, .obj (.stringIter ⟨(a.drop i).toArray⟩ (j + 1))⟩]) m
    ⟨nxR p, hin0, hrep, .of rfl, rfl⟩ ?_
   rintro N2 fr' H' ⟨r, hin, hrp, hs4, rfl⟩ ih4
   refine GC.weak hs4 ?_
   clear hs4
   refine GC.seq ?_
   refine GC.seq ?_
   refine GC.join (fun fr' H' => ∃ t : Bool, (t = true → r ≠ p) ∧ Sub [(1, S ((z :: bq).drop dd.2)), (67, Pt it 0), (10, .int .i32 (p : Int)), (11, .int .i32 (q : Int)), (13, .int .i32 (r : Int)), (114, .bool t)] fr' ∧ H' = [⟨it, true, .obj (.stringIter ⟨(a.drop i).toArray⟩ (j + 1))⟩]) (fun J30 => ?_) ?_
   ·refine GC.reg ?_
    refine G.m1 ?_
    refine G.m1 ?_
    refine G.v (V.neI rfl rfl) rfl ?_
    refine G.m1 ?_
    refine G.bc 110 rfl (fun h110 => ?_) (fun h110 => ?_)
    ·refine G.m5 ?_
     refine G.m5 ?_
     refine G.vg rfl rfl (V.lt rfl rfl) rfl ?_
     refine G.m3 ?_
     refine G.nil ?_
     exact J30 _ _ ⟨_, fun _ e => by rw [e] at h110; simp at h110, .of rfl, rfl⟩
    ·refine G.s1 ?_
     refine G.s1 ?_
     refine G.s1 ?_
     refine G.m4 ?_
     refine G.nil ?_
     exact J30 _ _ ⟨false, fun e => (by cases e), .of rfl, rfl⟩
   rintro fr' H' ⟨t, ht, hs5, rfl⟩
   refine GC.weak hs5 ?_
   clear hs5
   refine GC.cond rfl (fun h114 => ?_) (fun h114 => ?_)
   ·refine GC.skip ?_
    refine GC.block ?_
    refine GC.reg ?_
    refine G.m1 ?_
    refine G.callP (v := .int .i32 (nxR r : Int)) Tryd.call78 rfl rfl (fun w1 hw1 => c78_any w1 (hL.old hw1) hin) ?_
    refine G.m2 ?_
    refine G.nil ?_
    refine GC.inBlock ?_
    have hrne := ht h114
    obtain ⟨N3, rfl⟩ : ∃ N3, N2 = N3 + 1 := by
     cases N2 with
     | zero => exact absurd hrp hrne
     | succ N3 => exact ⟨N3, rfl⟩
    exact ih4 N3 _ _ (by omega) ⟨nxR r, hin.nx, by rw [← rep_nx]; exact hrp, .of rfl, rfl⟩
   refine GC.exit rfl ?_
   refine GC.seq ?_
   refine GC.seq ?_
   refine GC.reg ?_
   refine G.m1 ?_
   refine G.m1 ?_
   refine G.v (V.eqI rfl rfl) rfl ?_
   refine G.nil ?_
   refine GC.condD rfl (fun h119 => ?_) (fun h119 => ?_)
   ·refine GC.exit rfl ?_
    have hd5 : (z :: bq).length < N ∨ dd.2 ≠ 1 := by
     rcases hkey with h | ⟨h, h2, _⟩
     ·exact .inl h
     ·refine .inr fun e => ?_
      have h3 := h2 e
      rcases hin with h4 | h4 | h4 <;> omega
    exact ih3 (N - 1) _ _ (by omega) ⟨j + 1, _, by omega, .inr (by rw [List.length_drop]; rcases hkey with h | ⟨_, _, h⟩ <;> omega), .of rfl, rfl⟩
   refine GC.skip ?_
   refine GC.seq ?_
   refine GC.reg ?_
   refine G.m2 ?_
   refine G.nil ?_
   exact GC.ret1 rfl rfl fun w' hw' => ⟨by rw [Ef_high ha hy hyh], hw'.sub (List.nil_sublist _)⟩
  refine GC.skip ?_
  refine GC.seq ?_
  refine GC.seq ?_
  have hyl : y.toNat < 128 := by
   have h := h33
   simp at h
   rcases Nat.lt_or_ge y.toNat 128 with h2 | h2
   ·exact h2
   ·have := (or_low hxl).2 h2; omega
  refine GC.reg ?_
  refine G.m1 ?_
  refine G.m1 ?_
  refine G.v (V.eqI rfl rfl) rfl ?_
  refine G.nil ?_
  refine GC.condD rfl (fun h36 => ?_) (fun h36 => ?_)
  ·refine GC.exit rfl ?_
   refine GC.reg ?_
   refine G.m1 ?_
   refine G.v (V.addI (r := ((i + 1 : Nat) : Int)) rfl rfl rfl (by omega) (by omega)) rfl ?_
   refine G.m2 ?_
   refine G.nil ?_
   exact ih (N - 1) _ _ (by omega) ⟨i + 1, by omega, take_lo hpre hx hy (by rw [UInt8.toNat_inj.1 (by omega : y.toNat = x.toNat)]), .of rfl, rfl⟩
  refine GC.skip ?_
  refine GC.seq ?_
  refine GC.seq ?_
  have hne : x ≠ y := fun e => h36 (by rw [e])
  refine GC.reg ?_
  refine G.m1 ?_
  refine G.m1 ?_
  refine G.v (V.lt rfl rfl) rfl ?_
  refine G.nil ?_
  refine GC.join (fun fr' H' => ∃ p q : Nat, p = min x.toNat y.toNat ∧ q = max x.toNat y.toNat ∧ Sub [(0, S a), (1, S b), (5, I (i : Nat)), (6, I (min a.length b.length : Nat)), (7, .int .u8 (p : Int)), (8, .int .u8 (q : Int))] fr' ∧ H' = []) (fun J39 => ?_) ?_
  ·refine GC.condD rfl (fun h39 => ?_) (fun h39 => ?_)
   ·refine GC.reg ?_
    refine G.m1 ?_
    refine G.m1 ?_
    refine G.m2 ?_
    refine G.m2 ?_
    refine G.nil ?_
    exact J39 _ _ ⟨y.toNat, x.toNat, by omega, by omega, .of rfl, rfl⟩
   refine GC.skip ?_
   exact J39 _ _ ⟨x.toNat, y.toNat, by omega, by omega, .of rfl, rfl⟩
  rintro fr' H' ⟨p, q, hp, hq, hs2, rfl⟩
  refine GC.weak hs2 ?_
  clear hs2
  have hlo := lo_le hxl hyl hne
  rw [← hp, ← hq] at hlo
  refine GC.seq ?_
  refine GC.seq ?_
  refine GC.reg ?_
  refine G.m1 ?_
  refine G.v (V.le rfl rfl) rfl ?_
  refine G.m1 ?_
  refine G.bc 44 rfl (fun h44 => ?_) (fun h44 => ?_)
  ·refine G.m5 ?_
   refine G.vg rfl rfl (V.le rfl rfl) rfl ?_
   refine G.m3 ?_
   refine G.m1 ?_
   refine G.bc 48 rfl (fun h48 => ?_) (fun h48 => ?_)
   ·refine G.m5 ?_
    refine G.m5 ?_
    refine G.vg rfl rfl (V.add rfl rfl) rfl ?_
    refine G.vg rfl rfl (V.sub rfl rfl) rfl ?_
    refine G.vg rfl rfl (V.eqI rfl rfl) rfl ?_
    refine G.m3 ?_
    refine G.nil ?_
    refine GC.condD rfl (fun h54 => ?_) (fun h54 => ?_)
    ·refine GC.exit rfl ?_
     refine GC.reg ?_
     refine G.m1 ?_
     refine G.v (V.addI (r := ((i + 1 : Nat) : Int)) rfl rfl rfl (by omega) (by omega)) rfl ?_
     refine G.m2 ?_
     refine G.nil ?_
     have h54' : (q : Int) = (p : Int) + 32 := by
      rw [h54]; simp [IntKind.wrap, IntKind.bits, IntKind.signed]; have := of_decide_eq_true h44; have := of_decide_eq_true h48; omega
     exact ih (N - 1) _ _ (by omega) ⟨i + 1, by omega, take_lo hpre hx hy (hlo.2 ⟨by have := of_decide_eq_true h44; omega, by have := of_decide_eq_true h48; omega, by omega⟩), .of rfl, rfl⟩
    refine GC.skip ?_
    refine GC.seq ?_
    refine GC.reg ?_
    refine G.m2 ?_
    refine G.nil ?_
    exact GC.ret1 rfl rfl fun w' hw' => ⟨by rw [Ef_ne hx hy (fun e => h54 (by have h := hlo.1 e; simp [IntKind.wrap, IntKind.bits, IntKind.signed]; omega))], hw'.sub (List.nil_sublist _)⟩
   ·refine G.s1 ?_
    refine G.s1 ?_
    refine G.s1 ?_
    refine G.s1 ?_
    refine G.s1 ?_
    refine G.m4 ?_
    refine G.nil ?_
    refine GC.condF rfl ?_
    refine GC.skip ?_
    refine GC.seq ?_
    refine GC.reg ?_
    refine G.m2 ?_
    refine G.nil ?_
    exact GC.ret1 rfl rfl fun w' hw' => ⟨by rw [Ef_ne hx hy (fun e => of_decide_eq_false h48 (by have h := hlo.1 e; omega))], hw'.sub (List.nil_sublist _)⟩
  ·refine G.s1 ?_
   refine G.s1 ?_
   refine G.m4 ?_
   refine G.m1 ?_
   refine G.s1 ?_
   refine G.s1 ?_
   refine G.s1 ?_
   refine G.s1 ?_
   refine G.s1 ?_
   refine G.m4 ?_
   refine G.nil ?_
   refine GC.condF rfl ?_
   refine GC.skip ?_
   refine GC.seq ?_
   refine GC.reg ?_
   refine G.m2 ?_
   refine G.nil ?_
   exact GC.ret1 rfl rfl fun w' hw' => ⟨by rw [Ef_ne hx hy (fun e => of_decide_eq_false h44 (by have h := hlo.1 e; omega))], hw'.sub (List.nil_sublist _)⟩
 refine GC.exit rfl ?_
 refine GC.seq ?_
 refine GC.seq ?_
 refine GC.reg ?_
 refine G.m1 ?_
 refine G.v (V.lenS Tryd.underlying9 rfl) rfl ?_
 refine G.m1 ?_
 refine G.v (V.lenS Tryd.underlying9 rfl) rfl ?_
 refine G.v (V.eqI rfl rfl) rfl ?_
 refine G.m2 ?_
 refine G.nil ?_
 obtain rfl : i = a.length := by omega
 have hE : Ef a b = true := by
  unfold Ef
  refine decide_eq_true ?_
  rw [List.take_length, hab, List.take_length] at hpre; exact hpre
 exact GC.ret1 rfl rfl fun w' hw' => ⟨by rw [hE, hab]; simp, hw'⟩
end Go.Proofs

/- findCaseInsensitivePathRec: the path's end, the rune that is read. Printed by wip/mk_hv3.py. -/
set_option maxRecDepth 20000
namespace Go.Proofs
open Go Bw
open Gt
/-- what a node's lists are no longer than -/
def Lk (n : T0) : Prop := n.idx.length ≤ 100000 ∧ n.kids.length ≤ 100000 ∧ ∀ k ∈ n.kids, Ln k
theorem Ln.lk {n : T0} (h : Ln n) : Lk n := by
 cases h with
 | mk hp hi hf hn hk => exact ⟨hi, hn, hk⟩
def toT : List Item → List Item
 | .code (.seq (.seq _ (.cond _ t _)) z) :: k => .code t :: .code z :: k
 | k => k
/-- (no wildcard) behind the shift: a byte is kept -/
noncomputable def K59k : List Item := match toT K59b with
 | .code (.seq _ (.seq (.seq _ (.cond _ t _)) z)) :: k => .code t :: .code z :: k
 | k => k
/-- (no wildcard) ahead of the small letter's search -/
noncomputable def K59c : List Item := match toT K59b with
 | .code (.seq _ (.seq (.seq _ (.cond _ _ (.seq _ (.seq _ (.seq _ (.seq _ (.seq _ (.seq _ (.seq _ x))))))))) z)) :: k => .code x :: .code z :: k
 | k => k
def dropC : List Item → List Item
 | .code (.seq _ x) :: k => .code x :: k
 | k => k
/-- (no wildcard) behind the small letter's search -/
noncomputable def K59d : List Item := dropC K59c
theorem runeK_low {P q : List UInt8} (h : ∀ x ∈ q, x.toNat < 128) : (runeK P q).toNat < 128 := by
 unfold runeK
 split
 ·decide
 ·cases q with
  | nil => decide
  | cons a q => exact h a (.head _)
end Go.Proofs

/- findCaseInsensitivePathRec: the kids by index, where there is no wildcard. Printed by wip/mk_hv4.py. -/
set_option maxRecDepth 20000
namespace Go.Proofs
open Go Bw
open Gt
end Go.Proofs

/- findCaseInsensitivePathRec: the capital letter, where there is no wildcard. Printed by wip/mk_hv5.py. -/
set_option maxRecDepth 20000
namespace Go.Proofs
open Go Bw
open Gt
end Go.Proofs

/- findCaseInsensitivePathRec: the kids by index, beside a wildcard. Printed by wip/mk_hv6.py. -/
set_option maxRecDepth 20000
namespace Go.Proofs
open Go Bw
open Gt
end Go.Proofs

/- findCaseInsensitivePathRec: the capital letter, beside a wildcard. Printed by wip/mk_hv6.py. -/
set_option maxRecDepth 20000
namespace Go.Proofs
open Go Bw
open Gt
end Go.Proofs

/- findCaseInsensitivePathRec: the wildcard. Printed by wip/mk_hv7.py. -/
set_option maxRecDepth 20000
namespace Go.Proofs
open Go Bw
open Gt
end Go.Proofs

/- findCaseInsensitivePathRec does what caseC says. Printed by wip/mk_hv8.py. -/
set_option maxRecDepth 20000
namespace Go.Proofs
open Go Bw
open Gt
/-- the bytes of a tree's texts -/
inductive AllQ (Q : UInt8 → Prop) : T0 → Prop
 | mk {path idx : List UInt8} {wild : Bool} {nt pr : Nat} {h : Option Nat} {full : List UInt8} {kids : List T0} (hp : ∀ x ∈ path, Q x) (hk : ∀ k ∈ kids, AllQ Q k) : AllQ Q (.node () path idx wild nt pr h full kids)
theorem AllQ.path {Q n} (h : AllQ Q n) : ∀ x ∈ n.path, Q x := by cases h with | mk hp _ => exact hp
theorem AllQ.kid {Q n} (h : AllQ Q n) : ∀ k ∈ n.kids, AllQ Q k := by cases h with | mk _ hk => exact hk
theorem Ln.path {n : T0} (h : Ln n) : n.path.length ≤ 100000 := by cases h with | mk hp => exact hp
end Go.Proofs

/- Trees of texts alone: what is recommended. No program in sight. -/
namespace Gt
open Gs Tr
/-- a slash more, or the one at the end less -/
def slashN (p : List UInt8) : List UInt8 := if [47] <:+ p then p.take (p.length - 1) else p ++ [47]
theorem slash_end (a : List UInt8) : slashN (a ++ [47]) = a := by
  unfold slashN
  rw [if_pos (List.suffix_append _ _)]
  simp
theorem slash_no {p : List UInt8} (h : ¬ [47] <:+ p) : slashN p = p ++ [47] := if_neg h
/-- texts alone -/
def Txo (f : F) : Prop := ∀ s v, f s = some v → ∃ t, s = bs t
theorem bs_cons (c : UInt8) (t : List UInt8) : bs (c :: t) = .b c :: bs t := rfl
section
variable {u : List UInt8 → List UInt8} {cP cS : Nat} {F0 : F} {p0 : List UInt8}
/-- a node of texts: what it is -/
theorem txo_node {n : T0} {f : F} (rep : Rep true n f) (hn : n.nt ≠ 2) (ht : Txo f) {c0 : UInt8} (hd : ∀ s v, f s = some v → ∃ r, s = .b c0 :: r) : ∃ P idx nt pr h full kids, n = .node () P idx false nt pr h full kids ∧ St true P idx false nt h full kids f ∧ P ≠ [] := by
  have rep0 := rep
  cases rep with
  | pa => exact absurd rfl hn
  | pk => exact absurd rfl hn
  | ca =>
    obtain ⟨t, e⟩ := ht _ _ (one_self _ _)
    match t, e with
    | [], e => simp [bs] at e
    | [a], e => simp [bs] at e
    | a :: b :: t, e => simp [bs] at e
  | st wn wk hp hnt =>
    rename_i path idx wild nt pr h full kids _ _ _ _ _ _ _ _ _ _ _ _ _ _
    have x := rep0.toSt hnt
    cases wild with
    | true =>
      exfalso
      obtain ⟨m, w, _, _, _, _, ⟨s, v, hs⟩, _⟩ := x.hw rfl
      obtain ⟨t, e⟩ := ht _ _ hs
      have hm : Tok.P m ∈ bs t := by rw [← e]; simp
      obtain ⟨y, _, hy⟩ := List.mem_map.1 hm
      cases hy
    | false =>
      refine ⟨path, idx, nt, pr, h, full, kids, rfl, x, fun hpe => ?_⟩
      obtain ⟨k, h1, h2, h3⟩ := x.head hd hpe
      subst h1 h2 hpe
      have hr := x.hk 0 c0 k rfl rfl
      generalize hf : at_ f [] c0 = f2 at hr
      cases hr with
      | st wn wk hp hnt => simp only [n_nt] at h3; omega
      | pa => cases h3
      | pk => cases h3
      | @ca _ _ _ num _ full2 n hn =>
        have e1 : at_ f [] c0 [.b 47, .A n] = some (num, full2) := by rw [hf]; exact one_self _ _
        unfold at_ at e1
        split at e1
        · obtain ⟨t, e⟩ := ht _ _ e1
          have hm : Tok.A n ∈ bs t := by rw [← e]; simp
          obtain ⟨y, _, hy⟩ := List.mem_map.1 hm
          cases hy
        · cases e1
end
end Gt

/- Tables of texts alone: what is recommended. No program in sight. -/
namespace Gt
open Gs Tr
def StaticN (l : List (List Prt)) : Prop := ∀ r ∈ l, r.length = 1
/-- small letters in the place of capital ones -/
def foldB (c : UInt8) : UInt8 := if 65 ≤ c.toNat ∧ c.toNat ≤ 90 then c + 32 else c
def foldT (s : List UInt8) : List UInt8 := s.map foldB
def InnerN (l : List (List Prt)) (path : List UInt8) : Prop := 1 < path.length ∧ [47] <:+ path ∧ ∃ r ∈ l, ∃ p, r[0]? = some p ∧ path.length - 1 < p.nm.length ∧ (foldT p.nm).take (path.length - 1) = foldT (path.take (path.length - 1))
theorem static_one {l : List (List Prt)} (ht : TableN l) (hs : StaticN l) {a : List Prt} (ha : a ∈ l) : ∃ p, a = [p] ∧ tokT a = bs p.nm := by
  have hc := ht.clean a ha
  obtain ⟨p, rfl⟩ := List.length_eq_one_iff.1 (hs a ha)
  have hk : p.k.toNat = 0 := (hc.2.2.1 p rfl).1
  refine ⟨p, rfl, ?_⟩
  have e : tokT [p] = tokP p := by simp [tokT]
  rw [e, tokP, if_pos hk]
end Gt

/- Trees of texts alone: what is found whatever the letters are, with a slash more or less. No program in sight. -/
namespace Gt
open Gs Tr
theorem lo_cases {x y : UInt8} (h : lo x = lo y) : x = lo y ∨ x = up y := by
  have h1 := congrArg UInt8.toNat h
  rw [lo_nat, lo_nat] at h1
  rw [← UInt8.toNat_inj, ← UInt8.toNat_inj, lo_nat, up_nat]
  have := x.toNat_lt
  (repeat' split at h1) <;> (repeat' split) <;> omega
/-- what is asked of a route's text -/
def Want (fx : Bool) (t p : List UInt8) : Prop := t.map lo = p.map lo ∨ (fx = true ∧ t.map lo = (slashN p).map lo)
theorem map_47 {t : List UInt8} (h : t.map lo = [(47 : UInt8)].map lo) : t = [47] := by
  obtain ⟨r, rfl⟩ := map_hd47 (q := []) h
  have := congrArg List.length h
  simp at this
  rw [this]
theorem suf_map {a b : List UInt8} (h : a.map lo = b.map lo) (hs : [47] <:+ a) : [47] <:+ b := by
  obtain ⟨x, rfl⟩ := hs
  rcases List.eq_nil_or_concat b with e | ⟨y, d, e⟩
  · rw [e] at h; simp at h
  · rw [List.concat_eq_append] at e
    subst e
    rw [List.map_append, List.map_append] at h
    have h2 := List.append_inj_right' h rfl
    simp at h2
    rw [← lo_47 h2.symm]
    exact List.suffix_append _ _
theorem slash_app {a p : List UInt8} (hp : p ≠ []) : slashN (a ++ p) = a ++ slashN p := by
  by_cases hs : [47] <:+ p
  · obtain ⟨x, rfl⟩ := hs
    rw [← List.append_assoc, slash_end, slash_end]
  · rw [slash_no hs, slash_no, List.append_assoc]
    rintro ⟨x, hx⟩
    apply hs
    rcases List.eq_nil_or_concat p with e | ⟨y, d, e⟩
    · exact absurd e hp
    · rw [List.concat_eq_append] at e
      subst e
      rw [← List.append_assoc] at hx
      have h2 := List.append_inj_right' hx rfl
      rw [← h2]
      exact List.suffix_append _ _
theorem want_app {fx : Bool} {P q t p : List UInt8} (hm : q.map lo = P.map lo) (hp : p ≠ []) : Want fx (P ++ t) (q ++ p) ↔ Want fx t p := by
  unfold Want
  rw [slash_app hp, List.map_append, List.map_append, List.map_append, hm]
  simp only [List.append_cancel_left_eq]
theorem txo_at {f : F} {P : List UInt8} {c : UInt8} (ht : Txo f) : Txo (at_ f P c) := fun s v hs => by
  unfold at_ at hs
  split at hs
  · obtain ⟨t, htt⟩ := ht _ _ hs
    have h1 : (bs P ++ s).drop P.length = (bs t).drop P.length := congrArg (fun l => l.drop P.length) htt
    rw [List.drop_left' (bs_len P)] at h1
    exact ⟨t.drop P.length, by rw [h1]; unfold bs; rw [List.map_drop]⟩
  · cases hs
theorem slC_st {P idx : List UInt8} {w : Bool} {nt pr : Nat} {h : Option Nat} {full : List UInt8} {kids : List T0} {o : List UInt8} (hn : nt ≠ 3) : slC (.node () P idx w nt pr h full kids) o = if P.length = 1 ∧ h.isSome = true then some (o ++ [47]) else none := by
  show (if ((decide (P.length = 1) && h.isSome) || (decide (nt = 3) && _)) = true then _ else _) = _
  rw [decide_eq_false hn, Bool.false_and, Bool.or_false]
  by_cases hc : P.length = 1 ∧ h.isSome = true
  · rw [if_pos hc, if_pos (by rw [decide_eq_true hc.1, hc.2]; rfl)]
  · rw [if_neg hc, if_neg (fun e => hc (by simpa using e))]
theorem subC_none {rec : T0 → List UInt8 → UInt8 → List UInt8 → Option (Option (List UInt8))} {idx kids p cur x ms r} (h : lastC rec idx kids p cur ms x = some r) : (idxOf x idx = none ∧ r = ms) ∨ subC rec idx kids p cur x = some r := by
  unfold lastC at h
  unfold subC
  cases hi : idxOf x idx with
  | none => rw [hi] at h; exact .inl ⟨rfl, (Option.some.inj h).symm⟩
  | some i => rw [hi] at h; exact .inr h
theorem case_fix (fx : Bool) : ∀ (g : Nat) (n : T0) (f : F) (p : List UInt8) (rb : UInt8) (cur : List UInt8) (c0 : UInt8) (r : Option (List UInt8)), Rep true n f → n.nt ≠ 2 → Txo f → (∃ s v, f s = some v) → (∀ s v, f s = some v → ∃ r, s = .b c0 :: r) →
    (∃ d q, p = d :: q ∧ lo d = lo c0) → (∀ t v, f (bs t) = some v → ∀ x y, t ≠ x ++ 47 :: 47 :: y) →
    (fx = true → ∀ a, p = a ++ [47] → ∀ t v, f (bs t) = some v → a.length < t.length → (t.take a.length).map lo ≠ a.map lo) →
    caseC Ef fx g n p rb cur = some r → (∀ out, r = some out → ∃ t v, out = cur ++ t ∧ f (bs t) = some v ∧ Want fx t p) ∧ (r = none → ∀ t v, f (bs t) = some v → ¬ Want fx t p)
  | 0, _, _, _, _, _, _, _, _, _, _, _, _, _, _, _, h => by cases h
  | g + 1, n, f, p, rb, cur, c0, r, rep, hn, ht, hne, hd, hdp, hnd, hin, h => by
    obtain ⟨P, idx, nt, pr, h0, full, kids, rfl, x, hP⟩ := txo_node rep hn ht hd
    replace h : caseS Ef fx (caseC Ef fx g) P idx false h0 kids p rb cur = some r := h
    unfold caseS at h
    -- a text of the node begins with the node's own
    have hpre : ∀ t v, f (bs t) = some v → ∃ t2, t = P ++ t2 := fun t v hv => by
      obtain ⟨r', e⟩ := x.hpre _ v hv
      have := congrArg txt e
      rw [txt_app, txt_bs, txt_bs] at this
      exact ⟨_, this⟩
    have hPh : ∃ P', P = c0 :: P' := by
      obtain ⟨s, v, hs⟩ := hne
      obtain ⟨r1, rfl⟩ := hd s v hs
      obtain ⟨r2, e⟩ := x.hpre _ _ hs
      cases P with
      | nil => exact absurd rfl hP
      | cons c' P' => simp [bs] at e; exact ⟨P', by rw [e.1]⟩
    obtain ⟨t0, v0, ht0⟩ : ∃ t v, f (bs t) = some v := by
      obtain ⟨s, v, hs⟩ := hne
      obtain ⟨t, rfl⟩ := ht s v hs
      exact ⟨t, v, hs⟩
    have hp1 : fx = true → p ≠ [47] := fun hf e => by
      obtain ⟨t2, e2⟩ := hpre t0 v0 ht0
      refine hin hf [] (by rw [e]; rfl) t0 v0 ht0 ?_ (by simp)
      rw [e2, List.length_append]
      have := List.length_pos_iff.2 hP
      simp; omega
    by_cases hm : P.length ≤ p.length ∧ (P.length = 0 ∨ Ef ((p.take P.length).drop 1) (P.drop 1) = true)
    · rw [if_pos hm] at h
      obtain ⟨p', hpd⟩ : ∃ p', p' = p.drop P.length := ⟨_, rfl⟩
      obtain ⟨q, hq⟩ : ∃ q, q = p.take P.length := ⟨_, rfl⟩
      have happ : q ++ p' = p := by rw [hpd, hq]; exact List.take_append_drop _ _
      have hql : q.length = P.length := by rw [hq, List.length_take]; omega
      have hmap : q.map lo = P.map lo := by
        rcases hm.2 with h1 | hE
        · exact absurd (List.length_eq_zero_iff.1 h1) hP
        · have hE2 : ((p.take P.length).drop 1).map lo = (P.drop 1).map lo := by simpa [Ef] using hE
          obtain ⟨P', rfl⟩ := hPh
          obtain ⟨d, q2, rfl, hdc⟩ := hdp
          rw [hq]
          simp at hE2 ⊢
          exact ⟨hdc, hE2⟩
      simp only [← hpd] at h
      clear hpd hq
      subst happ
      by_cases hp0 : p' = []
      · subst hp0
        rw [if_pos rfl] at h
        rw [List.append_nil] at *
        cases h0 with
        | some k =>
          rw [if_pos (c := (some k).isSome = true) rfl] at h
          cases h
          refine ⟨fun out ho => ?_, fun e => by cases e⟩
          cases ho
          exact ⟨P, _, rfl, x.hh, .inl hmap.symm⟩
        | none =>
          have hno1 : ∀ t v, f (bs t) = some v → t.map lo ≠ q.map lo := fun t v hv e => by
            obtain ⟨t2, rfl⟩ := hpre t v hv
            have := congrArg List.length e
            rw [List.length_map, List.length_map, List.length_append] at this
            have ht2 : t2 = [] := List.length_eq_zero_iff.1 (by omega)
            subst ht2
            rw [List.append_nil, x.hh] at hv
            cases hv
          have hslash : fx = true → ∀ t v, f (bs t) = some v → t.map lo = (slashN q).map lo → t = P ++ [47] := fun hf t v hv e => by
            obtain ⟨t2, rfl⟩ := hpre t v hv
            by_cases hs : [47] <:+ q
            · obtain ⟨a, rfl⟩ := hs
              rw [slash_end] at e
              have := congrArg List.length e
              simp at this hql
              omega
            · rw [slash_no hs, List.map_append, List.map_append, ← hmap, List.append_cancel_left_eq] at e
              rw [map_47 e]
          rw [if_neg (by simp)] at h
          cases fx with
          | false =>
            rw [if_neg (by simp)] at h
            cases h
            refine ⟨fun out ho => (by cases ho), fun _ t v hv hw => ?_⟩
            rcases hw with e | ⟨e, _⟩
            · exact hno1 t v hv e
            · cases e
          | true =>
            rw [if_pos rfl] at h
            cases hi : idxOf 47 idx with
            | none =>
              rw [hi] at h
              cases h
              refine ⟨fun out ho => (by cases ho), fun _ t v hv hw => ?_⟩
              rcases hw with e | ⟨_, e⟩
              · exact hno1 t v hv e
              · have := hslash rfl t v hv e
                subst this
                rw [bs_app, show bs [47] = [.b 47] from rfl, x.hno 47 (idxOf_not.1 hi)] at hv
                cases hv
            | some i =>
              have hj := idxOf_mem hi
              have hl := (List.getElem?_eq_some_iff.1 hj).1
              obtain ⟨k, hk⟩ : ∃ k, kids[i]? = some k := ⟨_, List.getElem?_eq_getElem (by have := x.hlen; omega)⟩
              have hrk := x.hk i 47 k hj hk
              have hkn := x.hkn i k hl hk
              have htk : Txo (at_ f P 47) := txo_at ht
              obtain ⟨Pk, idxk, ntk, prk, hk0, fullk, kidsk, rfl, xk, hPk⟩ := txo_node hrk (by rcases hkn with e | e <;> rw [e] <;> decide) htk at_head
              have hnk3 : ntk = 0 ∨ ntk = 1 := xk.hnt
              rw [hi] at h
              simp only [hk] at h
              rw [if_neg (fun e => by have e2 : ntk = 3 := e.2.1; omega)] at h
              rw [slC_st (show ntk ≠ 3 by omega)] at h
              have hat : f (bs P ++ bs [47]) = at_ f P 47 (bs [47]) := (if_pos rfl).symm
              by_cases hl1 : Pk = [47] ∧ hk0.isSome = true
              · obtain ⟨rfl, hks⟩ := hl1
                rw [if_pos ⟨rfl, hks⟩] at h
                cases h
                obtain ⟨kk, rfl⟩ := Option.isSome_iff_exists.1 hks
                have hv : f (bs (P ++ [47])) = some (kk, fullk) := by rw [bs_app, hat, xk.hh]; rfl
                refine ⟨fun out ho => ?_, fun e => by cases e⟩
                cases ho
                refine ⟨P ++ [47], _, by rw [List.append_assoc], hv, .inr ⟨rfl, ?_⟩⟩
                rw [slash_no (fun hs => ?_), List.map_append, List.map_append, hmap]
                obtain ⟨a, e⟩ := suf_map hmap hs
                exact hnd _ _ hv a [] (by rw [← e]; simp)
              · have hlen1 : Pk.length = 1 → Pk = [47] := fun hl1 => by
                  match Pk, hl1 with
                  | [d], _ =>
                    obtain ⟨s, v, hs⟩ := x.hne 47 (List.mem_of_getElem? hj)
                    have hs2 : at_ f P 47 (.b 47 :: s) = some v := (if_pos rfl).trans hs
                    obtain ⟨r', e⟩ := xk.hpre _ _ hs2
                    simp [bs] at e
                    rw [e.1]
                rw [if_neg (fun e => hl1 ⟨hlen1 e.1, e.2⟩)] at h
                cases h
                refine ⟨fun out ho => (by cases ho), fun _ t v hv hw => ?_⟩
                rcases hw with e | ⟨_, e⟩
                · exact hno1 t v hv e
                · have := hslash rfl t v hv e
                  subst this
                  rw [bs_app, hat] at hv
                  obtain ⟨r', e2⟩ := xk.hpre _ _ hv
                  have hle := congrArg List.length e2
                  rw [List.length_append, bs_len, bs_len] at hle
                  have hPl : 0 < Pk.length := List.length_pos_iff.2 hPk
                  have hl2 : Pk.length = 1 := by simp at hle; omega
                  have hPk2 := hlen1 hl2
                  subst hPk2
                  rw [xk.hh] at hv
                  cases hk0 with
                  | none => cases hv
                  | some kk => exact hl1 ⟨rfl, rfl⟩
      · rw [if_neg hp0, if_pos trivial] at h
        obtain ⟨d1, q1, hp1'⟩ := List.exists_cons_of_ne_nil hp0
        have hrk : rbK P rb = 0 := if_neg (fun e => hP (List.length_eq_zero_iff.1 e))
        have hru : runeK P p' = d1 := by
          unfold runeK
          rw [if_neg (fun e => hP (List.length_eq_zero_iff.1 e)), hp1']; rfl
        rw [hrk, hru, if_neg (fun e => e rfl)] at h
        -- a kid by index
        have sub : ∀ y, lo d1 = lo y → ∀ r0, subC (caseC Ef fx g) idx kids p' (cur ++ P) y = some r0 →
            (∀ out, r0 = some out → ∃ t v, out = cur ++ t ∧ f (bs t) = some v ∧ Want fx t (q ++ p')) ∧ (r0 = none → ∀ t v, f (bs (P ++ y :: t)) = some v → ¬ Want fx (P ++ y :: t) (q ++ p')) := fun y hy r0 hc => by
          unfold subC at hc
          cases hi : idxOf y idx with
          | none =>
            rw [hi] at hc
            cases hc
            refine ⟨fun out ho => (by cases ho), fun _ t v hv => ?_⟩
            rw [bs_app, bs_cons, x.hno y (idxOf_not.1 hi)] at hv
            cases hv
          | some i =>
            rw [hi] at hc
            simp only at hc
            cases hki : kids[i]? with
            | none => rw [hki] at hc; cases hc
            | some k =>
              rw [hki] at hc
              have hj := idxOf_mem hi
              have hl := (List.getElem?_eq_some_iff.1 hj).1
              have hkn := x.hkn i k hl hki
              have hatv : ∀ t v, at_ f P y (bs t) = some v → f (bs (P ++ t)) = some v := fun t v hv => by
                unfold at_ at hv
                split at hv
                · rw [bs_app]; exact hv
                · cases hv
              obtain ⟨s1, v1, hs1⟩ := x.hne y (List.mem_of_getElem? hj)
              obtain ⟨k1, k2⟩ := case_fix fx g k (at_ f P y) p' y (cur ++ P) y r0 (x.hk i y k hj hki) (by rcases hkn with e | e <;> rw [e] <;> decide) (txo_at ht) ⟨.b y :: s1, v1, (if_pos rfl).trans hs1⟩ at_head ⟨d1, q1, hp1', hy⟩
                (fun t v hv a b e => hnd _ _ (hatv t v hv) (P ++ a) b (by rw [e, List.append_assoc]))
                (fun hf a ha t v hv hl2 e => hin hf (q ++ a) (by rw [ha, List.append_assoc]) _ _ (hatv t v hv) (by rw [List.length_append, List.length_append]; omega) (by
                  rw [List.length_append, hql, List.take_length_add_append, List.map_append, List.map_append, hmap, e])) hc
              refine ⟨fun out ho => ?_, fun hr t v hv hw => ?_⟩
              · obtain ⟨t, v, e1, e2, e3⟩ := k1 out ho
                exact ⟨P ++ t, v, by rw [e1, List.append_assoc], hatv t v e2, (want_app hmap hp0).2 e3⟩
              · exact k2 hr (y :: t) v ((if_pos rfl).trans (by rw [← bs_app]; exact hv)) ((want_app hmap hp0).1 hw)
        -- no kid's, and not the node's own
        have fin : (∀ t v, f (bs (P ++ lo d1 :: t)) = some v → ¬ Want fx (P ++ lo d1 :: t) (q ++ p')) → (∀ t v, f (bs (P ++ up d1 :: t)) = some v → ¬ Want fx (P ++ up d1 :: t) (q ++ p')) → (¬ (fx = true ∧ p' = [47] ∧ h0.isSome = true)) →
            ∀ t v, f (bs t) = some v → ¬ Want fx t (q ++ p') := fun f1 f2 f3 t v hv hw => by
          obtain ⟨t2, rfl⟩ := hpre t v hv
          cases t2 with
          | nil =>
            have hw2 := (want_app hmap hp0).1 hw
            rcases hw2 with e | ⟨hf, e⟩
            · exact hp0 (List.map_eq_nil_iff.1 e.symm)
            · have hs : slashN p' = [] := List.map_eq_nil_iff.1 e.symm
              by_cases hs2 : [47] <:+ p'
              · obtain ⟨a, rfl⟩ := hs2
                rw [slash_end] at hs
                subst hs
                rw [List.append_nil, x.hh] at hv
                refine f3 ⟨hf, rfl, ?_⟩
                cases h0 with
                | none => cases hv
                | some k => rfl
              · rw [slash_no hs2] at hs; simp at hs
          | cons c t3 =>
            have hw2 := (want_app hmap hp0).1 hw
            have hc : lo c = lo d1 := by
              rcases hw2 with e | ⟨_, e⟩
              · rw [hp1'] at e; exact (List.cons.inj e).1
              · by_cases hs2 : [47] <:+ p'
                · obtain ⟨a, ha⟩ := hs2
                  rw [← ha, slash_end] at e
                  cases a with
                  | nil => cases e
                  | cons a0 a =>
                    rw [hp1'] at ha
                    cases ha
                    exact (List.cons.inj e).1
                · rw [slash_no hs2, hp1'] at e; exact (List.cons.inj e).1
            rcases lo_cases hc with e | e
            · subst e; exact f1 t3 v hv hw
            · subst e; exact f2 t3 v hv hw
        have hmiss : ∀ r0 : Option (List UInt8), r0 = (if fx = true ∧ p' = [47] ∧ h0.isSome = true then some (cur ++ P) else none) → (∀ t v, f (bs (P ++ lo d1 :: t)) = some v → ¬ Want fx (P ++ lo d1 :: t) (q ++ p')) → (∀ t v, f (bs (P ++ up d1 :: t)) = some v → ¬ Want fx (P ++ up d1 :: t) (q ++ p')) →
            (∀ out, r0 = some out → ∃ t v, out = cur ++ t ∧ f (bs t) = some v ∧ Want fx t (q ++ p')) ∧ (r0 = none → ∀ t v, f (bs t) = some v → ¬ Want fx t (q ++ p')) := fun r0 hr f1 f2 => by
          by_cases hc : fx = true ∧ p' = [47] ∧ h0.isSome = true
          · rw [if_pos hc] at hr
            subst hr
            refine ⟨fun out ho => ?_, fun e => by cases e⟩
            cases ho
            obtain ⟨k, hk⟩ := Option.isSome_iff_exists.1 hc.2.2
            refine ⟨P, (k, full), rfl, by rw [x.hh, hk]; rfl, .inr ⟨hc.1, ?_⟩⟩
            rw [hc.2.1, slash_end, hmap]
          · rw [if_neg hc] at hr
            subst hr
            exact ⟨fun out ho => (by cases ho), fun _ => fin f1 f2 hc⟩
        cases h1 : subC (caseC Ef fx g) idx kids p' (cur ++ P) (lo d1) with
        | none => rw [h1] at h; cases h
        | some r0 =>
          rw [h1] at h
          obtain ⟨s1, s2⟩ := sub (lo d1) (lo_lo d1).symm r0 h1
          cases r0 with
          | some o =>
            cases h
            exact ⟨s1, fun e => by cases e⟩
          | none =>
            have f1 := s2 rfl
            simp only at h
            by_cases hul : up d1 ≠ lo d1
            · rw [if_pos hul] at h
              have h47 : p' ≠ [47] := fun e => by
                rw [e] at hp1'
                cases hp1'
                exact hul (by decide)
              have hnm : ¬ (fx = true ∧ p' = [47] ∧ h0.isSome = true) := fun e => h47 e.2.1
              rw [if_neg hnm] at h
              rcases subC_none h with ⟨hi, hr⟩ | h2
              · refine hmiss r (by rw [if_neg hnm]; exact hr) f1 fun t v hv => ?_
                rw [bs_app, bs_cons, x.hno _ (idxOf_not.1 hi)] at hv
                cases hv
              · obtain ⟨u1, u2⟩ := sub (up d1) (lo_up d1).symm r h2
                exact ⟨u1, fun e => fin f1 (u2 e) hnm⟩
            · rw [if_neg hul] at h
              have hul : up d1 = lo d1 := Decidable.of_not_not hul
              exact hmiss r (Option.some.inj h).symm f1 (by rw [hul]; exact f1)
    · rw [if_neg hm] at h
      rw [if_neg (fun e => hp1 e.1 e.2)] at h
      -- the node's text is not the path's
      have hnp : ∀ t q p', t.map lo = q.map lo → p = q ++ p' → ∀ t2, t = P ++ t2 → False := fun t q p' e e2 t2 e3 => by
        subst e2 e3
        have hle := congrArg List.length e
        rw [List.length_map, List.length_map, List.length_append] at hle
        refine hm ⟨by rw [List.length_append]; omega, .inr ?_⟩
        unfold Ef
        refine decide_eq_true ?_
        rw [List.take_append_of_le_length (by omega), List.map_drop, List.map_drop, List.map_take, ← e, List.map_append, List.take_left' (List.length_map _)]
      by_cases hc : fx = true ∧ p.length + 1 = P.length ∧ P[p.length]? = some 47 ∧ Ef (p.drop 1) ((P.take p.length).drop 1) = true ∧ h0.isSome = true
      · rw [if_pos hc] at h
        cases h
        obtain ⟨hf, hl, h47, hE, hs⟩ := hc
        refine ⟨fun out ho => ?_, fun e => by cases e⟩
        cases ho
        obtain ⟨k, hk⟩ := Option.isSome_iff_exists.1 hs
        have hv : f (bs P) = some (k, full) := by rw [x.hh, hk]; rfl
        refine ⟨P, _, rfl, hv, .inr ⟨hf, ?_⟩⟩
        have hPe : P = P.take p.length ++ [47] := by
          conv => lhs; rw [← List.take_append_drop p.length P]
          congr 1
          rw [List.drop_eq_getElem_cons (by omega), List.drop_of_length_le (by omega)]
          have := List.getElem?_eq_getElem (l := P) (i := p.length) (by omega)
          rw [h47] at this
          rw [← Option.some.inj this]
        have hmp : (P.take p.length).map lo = p.map lo := by
          have hE2 : (p.drop 1).map lo = ((P.take p.length).drop 1).map lo := by simpa [Ef] using hE
          obtain ⟨P', rfl⟩ := hPh
          obtain ⟨d, q2, rfl, hdc⟩ := hdp
          simp at hE2 ⊢
          exact ⟨hdc.symm, hE2.symm⟩
        have hns : ¬ [47] <:+ p := fun hs2 => by
          obtain ⟨a, ha⟩ := suf_map hmp.symm hs2
          exact hnd P _ hv a [] (by rw [hPe, ← ha]; simp)
        rw [slash_no hns, List.map_append, ← hmp, ← List.map_append, ← hPe]
      · rw [if_neg hc] at h
        cases h
        refine ⟨fun out ho => (by cases ho), fun _ t v hv hw => ?_⟩
        obtain ⟨t2, e3⟩ := hpre t v hv
        rcases hw with e | ⟨hf, e⟩
        · exact hnp t p [] e (by simp) t2 e3
        · by_cases hs : [47] <:+ p
          · obtain ⟨a, ha⟩ := hs
            rw [← ha, slash_end] at e
            exact hnp t a [47] e ha.symm t2 e3
          · rw [slash_no hs] at e
            have hle := congrArg List.length e
            rw [List.length_map, List.length_map, List.length_append, List.length_singleton, e3, List.length_append] at hle
            by_cases hPl : P.length ≤ p.length
            · refine hm ⟨hPl, .inr ?_⟩
              unfold Ef
              refine decide_eq_true ?_
              have e4 := congrArg (fun l => (l.take P.length).drop 1) e
              rw [e3] at e4
              simp only [List.map_append] at e4
              rw [List.take_left' (List.length_map _), List.take_append_of_le_length (by rw [List.length_map]; exact hPl)] at e4
              rw [List.map_drop, List.map_drop, List.map_take]
              exact e4.symm
            · have ht2 : t2 = [] := List.length_eq_zero_iff.1 (by omega)
              subst ht2
              rw [List.append_nil] at e3
              subst e3
              have hl : p.length + 1 = t.length := by simp at hle; omega
              rcases List.eq_nil_or_concat t with e5 | ⟨a, d, e5⟩
              · exact hP e5
              · rw [List.concat_eq_append] at e5
                subst e5
                rw [List.map_append, List.map_append] at e
                have e6 := List.append_inj_right' e rfl
                have e7 := List.append_inj_left' e rfl
                simp at e6
                have hd47 : d = 47 := lo_47 (e6.trans rfl)
                subst hd47
                have hal : a.length = p.length := by simpa using congrArg List.length e7
                refine hc ⟨hf, hl, by rw [← hal]; simp, ?_, ?_⟩
                · unfold Ef
                  refine decide_eq_true ?_
                  rw [← hal, List.take_left, List.map_drop, List.map_drop, e7]
                · rw [x.hh] at hv
                  cases h0 with
                  | none => cases hv
                  | some k => rfl
end Gt
