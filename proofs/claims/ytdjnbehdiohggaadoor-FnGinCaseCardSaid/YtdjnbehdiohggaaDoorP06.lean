/- Lemmas of the walk and plain facts (HuE1 .. HuP1). -/
import Derived.Test.YtdjnbehdiohggaaDoorP01
import Derived.Test.YtdjnbehdiohggaaDoorP03
import Derived.Test.YtdjnbehdiohggaaDoorP04
import Derived.Test.YtdjnbehdiohggaaDoorP05
import Derived.Laws.Small
import Derived.Lib.BufferWrite
import Derived.Laws.BytesArg
import Derived.Test.YtdjnbehdiohggaaDoorP00
import Derived.Laws.IdiomStrings
import Derived.Lib.AppendStr
/- Small functions: counting, the common beginning. Printed by wip/mk_gu1.py. -/
set_option maxRecDepth 20000
namespace Go.Proofs
open Go Bw
theorem count_byte_le (c : UInt8) (s : List UInt8) (i : Nat) : (s.take i).count c ≤ i := Nat.le_trans List.count_le_length (by simp; omega)
theorem f85_any (w : World) (s : List UInt8) (ch : UInt8) (hs : s.length ≤ 1000000000000) : Calls Tryd.prog 68 #[S s, S [ch]] w fun e w' => e = .returned (I (s.count ch : Nat)) ∧ HF w (fun _ => False) [] w' := by
 refine enter (fun _ => False) [] Tryd.func68 rfl Tryd.ntmps68 rfl rfl (HF.start w _) fun c hc => ?_
 subst hc
 refine GC.seq ?_
 refine GC.reg ?_
 refine G.m2 ?_
 refine G.nil ?_
 refine GC.seq ?_
 refine GC.reg ?_
 refine G.m2 ?_
 refine G.nil ?_
 refine GC.seq ?_
 refine GC.seq ?_
 refine GC.reg ?_
 refine G.m1 ?_
 refine G.v (V.lenS Tryd.underlying9 rfl) rfl ?_
 refine G.v (V.eqI rfl rfl) rfl ?_
 refine G.nil ?_
 refine GC.condF rfl ?_
 refine GC.skip ?_
 refine GC.seq ?_
 refine GC.seq ?_
 refine GC.reg ?_
 refine G.m2 ?_
 refine G.nil ?_
 refine GC.block ?_
 refine GC.loopJ (fun N fr' H' => ∃ i, i + N = s.length ∧ Sub [(0, S s), (1, S [ch]), (5, I ((s.take i).count ch : Nat)), (6, I ((i : Nat) : Int))] fr' ∧ H' = []) s.length
  ⟨0, by omega, .of rfl, rfl⟩ ?_
 rintro N fr' H' ⟨i, hi, hs, rfl⟩ ih
 refine GC.weak hs ?_
 clear hs
 refine GC.seq ?_
 refine GC.seq ?_
 refine GC.reg ?_
 refine G.m1 ?_
 refine G.m1 ?_
 refine G.v (V.lenS Tryd.underlying9 rfl) rfl ?_
 refine G.v (V.addI (r := ((i + 1 : Nat) : Int)) rfl rfl rfl (by omega) (by omega)) rfl ?_
 refine G.m1 ?_
 refine G.v (V.lenS Tryd.underlying9 rfl) rfl ?_
 refine G.v (V.le rfl rfl) rfl ?_
 refine G.nil ?_
 refine GC.condD rfl (fun h24 => ?_) (fun h24 => ?_)
 ·refine GC.skip ?_
  refine GC.block ?_
  refine GC.seq ?_
  have hlt : i < s.length := by omega
  obtain ⟨b, hb⟩ : ∃ b, s[i]? = some b := ⟨_, List.getElem?_eq_getElem hlt⟩
  have hct := Gs.cnt_take (c := ch) hb
  have hle := count_byte_le ch s i
  have hsl : (s.take (i + 1)).drop i = [b] := by
   rw [List.drop_take, List.drop_eq_getElem_cons hlt]
   rw [List.getElem?_eq_getElem hlt] at hb
   simp [Option.some.inj hb]
  refine GC.reg ?_
  refine G.m1 ?_
  refine G.m1 ?_
  refine G.m1 ?_
  refine G.m1 ?_
  refine G.v (V.lenS Tryd.underlying9 rfl) rfl ?_
  refine G.v (V.addI (r := ((i + 1 : Nat) : Int)) rfl rfl rfl (by omega) (by omega)) rfl ?_
  refine G.v (V.slLHe (i := i) (j := i + 1) Tryd.underlying9 rfl rfl rfl (by omega) (by omega) hsl) rfl ?_
  refine G.m1 ?_
  refine G.v (V.eqS rfl rfl) rfl ?_
  refine G.nil ?_
  refine GC.join (fun fr' H' => Sub [(0, S s), (1, S [ch]), (5, I ((s.take (i + 1)).count ch : Nat)), (6, I ((i + 1 : Nat) : Int))] fr' ∧ H' = []) (fun J33 => ?_) ?_
  ·refine GC.condD rfl (fun h33 => ?_) (fun h33 => ?_)
   ·refine GC.seq ?_
    refine GC.reg ?_
    refine G.m1 ?_
    refine G.v (V.addI (r := (((s.take i).count ch + 1 : Nat) : Int)) rfl rfl rfl (by omega) (by omega)) rfl ?_
    refine G.m2 ?_
    refine G.nil ?_
    refine GC.reg ?_
    refine G.m1 ?_
    refine G.m1 ?_
    refine G.v (V.lenS Tryd.underlying9 rfl) rfl ?_
    refine G.v (V.addI (r := ((i + 1 : Nat) : Int)) rfl rfl rfl (by omega) (by omega)) rfl ?_
    refine G.m2 ?_
    refine G.nil ?_
    have e : b = ch := by simpa using h33
    rw [if_pos e] at hct
    rw [← hct]
    exact J33 _ _ ⟨.of rfl, rfl⟩
   refine GC.reg ?_
   refine G.m1 ?_
   refine G.v (V.addI (r := ((i + 1 : Nat) : Int)) rfl rfl rfl (by omega) (by omega)) rfl ?_
   refine G.m2 ?_
   refine G.nil ?_
   have e : b ≠ ch := by simpa using h33
   rw [if_neg e] at hct
   have hct2 : (s.take (i + 1)).count ch = (s.take i).count ch := hct
   rw [← hct2]
   exact J33 _ _ ⟨.of rfl, rfl⟩
  rintro fr' H' ⟨hs33, rfl⟩
  refine GC.weak hs33 ?_
  clear hs33
  refine GC.inBlock ?_
  exact ih (N - 1) _ _ (by omega) ⟨i + 1, by omega, .of rfl, rfl⟩
 refine GC.exit rfl ?_
 refine GC.seq ?_
 refine GC.reg ?_
 refine G.m1 ?_
 refine G.m2 ?_
 refine G.nil ?_
 have hie : i = s.length := by omega
 exact GC.ret1 rfl rfl fun w' hw' => ⟨by rw [hie, List.take_length], hw'⟩
theorem f86_any (w : World) (n : Nat) (hn : n ≤ 65535) : Calls Tryd.prog 69 #[I (n : Nat)] w fun e w' => e = .returned (.int .u16 (n : Int)) ∧ HF w (fun _ => False) [] w' := by
 refine enter (fun _ => False) [] Tryd.func69 rfl Tryd.ntmps69 rfl rfl (HF.start w _) fun c hc => ?_
 subst hc
 have hwr : IntKind.u16.wrap (n : Int) = (n : Int) := by
  unfold IntKind.wrap
  simp [IntKind.bits, IntKind.signed]
  omega
 refine GC.seq ?_
 refine GC.reg ?_
 refine G.m2 ?_
 refine G.nil ?_
 refine GC.seq ?_
 refine GC.seq ?_
 refine GC.reg ?_
 refine G.m1 ?_
 refine G.v (V.gt rfl rfl) rfl ?_
 refine G.nil ?_
 refine GC.condD rfl (fun h4 => absurd h4 (by omega)) (fun h4 => ?_)
 refine GC.skip ?_
 refine GC.seq ?_
 refine GC.reg ?_
 refine G.m1 ?_
 refine G.v (V.cvI Tryd.underlying3 Tryd.underlying84 rfl) rfl ?_
 rw [hwr]
 refine G.m2 ?_
 refine G.nil ?_
 exact GC.ret1 rfl rfl fun w' hw' => ⟨rfl, hw'⟩
theorem f73_any (w : World) (s : List UInt8) (hs : s.length ≤ 20000) : Calls Tryd.prog 57 #[S s] w fun e w' => e = .returned (.int .u16 ((s.count 58 + s.count 42 : Nat) : Int)) ∧ HF w (fun _ => False) [] w' := by
 refine enter (fun _ => False) [] Tryd.func57 rfl Tryd.ntmps57 rfl rfl (HF.start w _) fun c hc => ?_
 subst hc
 have h1 := List.count_le_length (a := (58 : UInt8)) (l := s)
 have h2 := List.count_le_length (a := (42 : UInt8)) (l := s)
 refine GC.seq ?_
 refine GC.reg ?_
 refine G.m2 ?_
 refine G.nil ?_
 refine GC.seq ?_
 refine GC.reg ?_
 refine G.m1 ?_
 refine G.callP Tryd.call68 rfl rfl (fun w1 hw1 => f85_any w1 s 58 (by omega)) ?_
 refine G.m2 ?_
 refine G.nil ?_
 refine GC.seq ?_
 refine GC.reg ?_
 refine G.m1 ?_
 refine G.callP Tryd.call68 rfl rfl (fun w1 hw1 => f85_any w1 s 42 (by omega)) ?_
 refine G.m2 ?_
 refine G.nil ?_
 refine GC.seq ?_
 refine GC.reg ?_
 refine G.m1 ?_
 refine G.m1 ?_
 refine G.v (V.addI (r := ((s.count 58 + s.count 42 : Nat) : Int)) rfl rfl (by omega) (by omega) (by omega)) rfl ?_
 refine G.callP Tryd.call69 rfl rfl (fun w1 hw1 => f86_any w1 _ (by omega)) ?_
 refine G.m2 ?_
 refine G.nil ?_
 exact GC.ret1 rfl rfl fun w' hw' => ⟨rfl, hw'⟩
theorem f74_any (w : World) (s : List UInt8) (hs : s.length ≤ 20000) : Calls Tryd.prog 58 #[S s] w fun e w' => e = .returned (.int .u16 ((s.count 47 : Nat) : Int)) ∧ HF w (fun _ => False) [] w' := by
 refine enter (fun _ => False) [] Tryd.func58 rfl Tryd.ntmps58 rfl rfl (HF.start w _) fun c hc => ?_
 subst hc
 have h1 := List.count_le_length (a := (47 : UInt8)) (l := s)
 refine GC.seq ?_
 refine GC.reg ?_
 refine G.m2 ?_
 refine G.nil ?_
 refine GC.seq ?_
 refine GC.reg ?_
 refine G.m1 ?_
 refine G.callP Tryd.call68 rfl rfl (fun w1 hw1 => f85_any w1 s 47 (by omega)) ?_
 refine G.callP Tryd.call69 rfl rfl (fun w1 hw1 => f86_any w1 _ (by omega)) ?_
 refine G.m2 ?_
 refine G.nil ?_
 exact GC.ret1 rfl rfl fun w' hw' => ⟨rfl, hw'⟩
theorem _root_.Bw.V.minI {P : Program} {c : Cx} {n : Nat} {fr : SF} {H : SH} {ty t u : TypeId} {x y : Operand} {i j : Nat} (hx : ev fr x = some (I (i : Int))) (hy : ev fr y = some (I (j : Int))) : Val P c n (.call ⟨.builtin .min, #[x, y], #[t, u]⟩) ty fr H (I ((min i j : Nat) : Int)) := by
 intro a w ha hw dst pos aft g
 have h := Go.run_min_int2 (P := P) (w := w) #[t, u] ty .i64 .i64 (i : Int) (j : Int)
 have e : (if ((j : Int) < (i : Int)) then (j : Int) else (i : Int)) = ((min i j : Nat) : Int) := by
  split <;> omega
 rw [e] at h
 simp [execOp, resolve, invoke, builtin, ha.eval hx, ha.eval hy, h]
theorem f80_any (w : World) (a b : List UInt8) (ha : a.length ≤ 1000000000000) : Calls Tryd.prog 63 #[S a, S b] w fun e w' => e = .returned (I (Gs.lcp a b : Nat)) ∧ HF w (fun _ => False) [] w' := by
 refine enter (fun _ => False) [] Tryd.func63 rfl Tryd.ntmps63 rfl rfl (HF.start w _) fun c hc => ?_
 subst hc
 have hle := Gs.lcp_le a b
 refine GC.seq ?_
 refine GC.reg ?_
 refine G.m2 ?_
 refine G.nil ?_
 refine GC.seq ?_
 refine GC.reg ?_
 refine G.m2 ?_
 refine G.nil ?_
 refine GC.seq ?_
 refine GC.reg ?_
 refine G.m1 ?_
 refine G.v (V.lenS Tryd.underlying9 rfl) rfl ?_
 refine G.m1 ?_
 refine G.v (V.lenS Tryd.underlying9 rfl) rfl ?_
 refine G.v (V.minI rfl rfl) rfl ?_
 refine G.m2 ?_
 refine G.nil ?_
 refine GC.seq ?_
 refine GC.block ?_
 refine GC.loopJ (fun N fr' H' => ∃ i, i + N = Gs.lcp a b ∧ Sub [(0, S a), (1, S b), (5, I ((i : Nat) : Int)), (6, I ((min a.length b.length : Nat) : Int))] fr' ∧ H' = []) (Gs.lcp a b)
  ⟨0, by omega, .of rfl, rfl⟩ ?_
 rintro N fr' H' ⟨i, hi, hs, rfl⟩ ih
 refine GC.weak hs ?_
 clear hs
 refine GC.seq ?_
 refine GC.seq ?_
 refine GC.join (fun fr' H' => ∃ t : Bool, (t = true → i + 1 ≤ Gs.lcp a b) ∧ (t = false → i = Gs.lcp a b) ∧ Sub [(0, S a), (1, S b), (5, I ((i : Nat) : Int)), (6, I ((min a.length b.length : Nat) : Int)), (23, .bool t)] fr' ∧ H' = []) (fun J3 => ?_) ?_
 ·refine GC.regQ mixed (by kernel_rfl) ?_
  refine GQ.v (V.mv rfl) rfl ?_
  refine GQ.v (V.mv rfl) rfl ?_
  refine GQ.v (V.lt rfl rfl) rfl ?_
  refine GQ.v (V.mv rfl) rfl ?_
  refine GQ.bc 15 rfl (fun h15 => ?_) (fun h15 => ?_)
  ·have hlm : i < min a.length b.length := by have := of_decide_eq_true h15; omega
   obtain ⟨x, hx⟩ : ∃ x, a[i]? = some x := ⟨_, List.getElem?_eq_getElem (by omega)⟩
   obtain ⟨y, hy⟩ : ∃ y, b[i]? = some y := ⟨_, List.getElem?_eq_getElem (by omega)⟩
   have hst := Gs.lcp_lt (i := i) (by omega) hx hy
   refine GQ.vg rfl rfl (V.mv rfl) rfl ?_
   refine GQ.vg rfl rfl (V.mv rfl) rfl ?_
   refine GQ.vg rfl rfl (V.idx (i := i) (b := x) Tryd.underlying9 rfl rfl hx) rfl ?_
   refine GQ.vg rfl rfl (V.mv rfl) rfl ?_
   refine GQ.vg rfl rfl (V.mv rfl) rfl ?_
   refine GQ.vg rfl rfl (V.idx (i := i) (b := y) Tryd.underlying9 rfl rfl hy) rfl ?_
   refine GQ.vg rfl rfl (V.eqI rfl rfl) rfl ?_
   refine GQ.v (V.pickT rfl rfl) rfl ?_
   refine GQ.nil ?_
   exact J3 _ _ ⟨_, fun h => hst.1 (UInt8.toNat_inj.1 (by have := of_decide_eq_true h; omega)), fun h => hst.2 (fun e => absurd h (by rw [e]; simp)), .of rfl, rfl⟩
  ·refine GQ.sg rfl rfl rfl rfl rfl rfl ?_
   refine GQ.sg rfl rfl rfl rfl rfl rfl ?_
   refine GQ.sg rfl rfl rfl rfl rfl rfl ?_
   refine GQ.sg rfl rfl rfl rfl rfl rfl ?_
   refine GQ.sg rfl rfl rfl rfl rfl rfl ?_
   refine GQ.sg rfl rfl rfl rfl rfl rfl ?_
   refine GQ.sg rfl rfl rfl rfl rfl rfl ?_
   refine GQ.v (V.pickF rfl rfl) rfl ?_
   refine GQ.nil ?_
   exact J3 _ _ ⟨false, fun h => (by cases h), fun _ => Gs.lcp_end (by omega) (by have := of_decide_eq_false h15; omega), .of rfl, rfl⟩
 rintro fr' H' ⟨t, ht1, ht2, hs3, rfl⟩
 refine GC.weak hs3 ?_
 clear hs3
 refine GC.cond rfl (fun h23 => ?_) (fun h23 => ?_)
 ·refine GC.skip ?_
  refine GC.block ?_
  refine GC.reg ?_
  refine G.m1 ?_
  refine G.v (V.addI (r := ((i + 1 : Nat) : Int)) rfl rfl rfl (by omega) (by omega)) rfl ?_
  refine G.m2 ?_
  refine G.nil ?_
  refine GC.inBlock ?_
  exact ih (N - 1) _ _ (by have := ht1 h23; omega) ⟨i + 1, by have := ht1 h23; omega, .of rfl, rfl⟩
 refine GC.exit rfl ?_
 refine GC.seq ?_
 refine GC.reg ?_
 refine G.m1 ?_
 refine G.m2 ?_
 refine G.nil ?_
 have hie : i = Gs.lcp a b := ht2 (by simpa using h23)
 exact GC.ret1 rfl rfl fun w' hw' => ⟨by rw [hie], hw'⟩
end Go.Proofs

/- Rows of bytes: made, copied to, read as a string. -/
set_option maxRecDepth 20000
namespace Bw
open Go Go.Proofs
theorem madeB (z : Nat) : (Go.madeCells (Value.cells (.int .u8 0)) z).toList = bC (List.replicate z 0) := by
 simp only [Go.madeCells, Array.toList_map, Array.toList_range, bC, Lib.byteCells]
 have h : (Value.int IntKind.u8 0).cells = #[Value.int IntKind.u8 0] := rfl
 rw [h]
 refine List.ext_getElem? fun i => ?_
 by_cases hi : i < z
 ·rw [List.getElem?_map, List.getElem?_range hi, List.getElem?_map, List.getElem?_replicate_of_lt hi]
  simp [Nat.mod_one]
 ·rw [List.getElem?_eq_none (by simpa using hi), List.getElem?_eq_none (by simpa using hi)]
theorem mkB {P : Program} {a : Act} {w1 : World} {n d z l T : Nat} {fr : SF} {x y : Operand} {ty : TypeId} {pos : String} {aft : Array Edge} {i5 : TypeInfo} (hT : P.underlying T = some (.slice 5)) (h5 : P.info? 5 = some i5) (h5z : i5.zero = some (.int .u8 0)) (h5s : i5.size = 1) (h5b : i5.bytes = 1)
  (ha : Fr n fr a) (hx : ev fr x = some (I (l : Int))) (hy : ev fr y = some (I (z : Int))) (hl : l ≤ z) (hz : z ≤ 100000) :
  (execOp a.eval ⟨some d, .makeSlice T x y, ty, pos, aft, none⟩).run P w1 = .ok (.value (.slice (some ⟨w1.heap.size, 0, none⟩) l z)) { w1 with heap := w1.heap.push (Blk.row (bC (List.replicate z 0)) 5 (0, 0)).den } := by
 have hr := run_make (P := P) w1 T 5 i5 (.int .u8 0) hT h5 h5z .i64 .i64 (l : Int) (z : Int) (by omega) (by omega) (by rw [h5b]; show ((1 : Nat) : Int) * _ ≤ _; omega) (by omega)
 rw [h5s, Nat.mul_one, Int.toNat_natCast, Int.toNat_natCast] at hr
 have hm : Go.madeCells (Value.cells (.int .u8 0)) z = (bC (List.replicate z 0)).toArray := by rw [← madeB]
 rw [hm] at hr
 simp only [execOp, ha.eval hx, ha.eval hy, Sem.run_bind, Blk.den]
 rw [hr]
 rfl
variable {P : Program} {c : Cx} {n : Nat} {k : List Item} {fr : SF} {H : SH} {ops : Array Oper} {rest : List Oper} {ty t : TypeId} {pos : String} {aft : Array Edge}
theorem G.copyS {dT sT elem : TypeId} {x y : Operand} {d b m cap i : Nat} {s l : List UInt8} {T : TypeId} (hu : P.underlying dT = some (.slice elem)) (hs : (P.info? elem).map (·.size) = some 1) (hx : ev fr x = some (.slice (some ⟨b, 0, none⟩) m cap)) (hy : ev fr y = some (S s))
  (hi : At i ⟨b, true, .row (bC l) T (0, 0)⟩ H) (hle : s.length ≤ m) (hfit : s.length ≤ l.length) (hd : Nat.blt d n = true)
  (hk : G P c n k ops rest ((d, I (s.length : Nat)) :: fr) (putE (.row (bC (s ++ l.drop s.length)) T (0, 0)) i H)) : G P c n k ops (⟨some d, .call ⟨.builtin .copy, #[x, y], #[dT, sT]⟩, ty, pos, aft, none⟩ :: rest) fr H := by
 refine G.eff (fun a w ha hw => ?_) hd hk
 have hb := hw.has _ hi.mem
 simp only [Blk.den] at hb
 have hsz : (⟨s.toArray⟩ : ByteArray).size = s.length := List.size_toArray
 have h := Lib.run_copy_row_string (P := P) w dT sT ty elem b 0 m cap ⟨s.toArray⟩ (bC l).toArray T hu hs hb (by rw [hsz]; exact hle) (by rw [hsz]; simpa [bC, Lib.byteCells] using hfit)
 have e : ((bC l).toArray.toList.take 0 ++ Lib.byteCells (⟨s.toArray⟩ : ByteArray).data.toList ++ (bC l).toArray.toList.drop (0 + (⟨s.toArray⟩ : ByteArray).size)).toArray = (bC (s ++ l.drop s.length)).toArray := by
  rw [hsz]
  simp [bC, Lib.byteCells]
 rw [e] at h
 refine ⟨w.setRow b (bC (s ++ l.drop s.length)).toArray, ?_, ?_⟩
 ·simp [execOp, resolve, invoke, builtin, ha.eval hx, ha.eval hy, h, hsz, goInt]
 ·have := hw.upd (w' := w.setRow b (bC (s ++ l.drop s.length)).toArray) hi rfl (.row (bC (s ++ l.drop s.length)) T (0, 0)) (by simp [World.setRow])
   (by simp only [Blk.den]; simp [World.setRow, Array.getElem?_modify, hb]) (fun x hx => by simp only [World.setRow]; rw [Array.getElem?_modify, if_neg (fun e => hx e.symm)]) rfl rfl rfl
  exact this
theorem V.cvBS {src dst e : TypeId} {x : Operand} {b m cap : Nat} {l : List UInt8} {T : TypeId} {wf : Bool} (hs : P.underlying src = some (.slice e)) (he : P.underlying e = some (.int .u8)) (hd : P.underlying dst = some .string) (hx : ev fr x = some (.slice (some ⟨b, 0, none⟩) m cap))
  (hm : ⟨b, wf, .row (bC l) T (0, 0)⟩ ∈ H) (hl : m ≤ l.length) : Val P c n (.convert src dst x) ty fr H (S (l.take m)) := by
 intro a w ha hw ds pos aft g
 have hcell : ∀ i, i < m → w.cell? ⟨b, 0 + i, none⟩ = some (.int .u8 (((l.take m).map fun x => (x.toNat : Int)).getD i 0)) := fun i hi => by
  refine cell_row hw hm ?_
  have hil : i < l.length := by omega
  rw [nth_eq, Nat.zero_add]
  simp only [bC, Lib.byteCells, List.getElem?_map, List.getElem?_eq_getElem hil, Option.map_some, List.getD_eq_getElem?_getD, List.getElem?_take_of_lt hi, Option.getD_some]
 have h := run_convert_bytes_arg (P := P) w src e hs he b 0 m cap ((l.take m).map fun x => (x.toNat : Int)) (by simp; omega) hcell dst hd
 have e2 : strOfNums ((l.take m).map fun x => (x.toNat : Int)) = ⟨(l.take m).toArray⟩ := by
  have h0 : ((fun n : Int => UInt8.ofNat n.toNat) ∘ fun x : UInt8 => (x.toNat : Int)) = id := by
   funext x; simp
  simp [strOfNums, List.map_map, h0]
 rw [e2] at h
 simp [execOp, ha.eval hx, h]
end Bw

/- The router's node in memory: shapes. No program in sight. -/
namespace Bw
open Go
abbrev AL := List (List UInt8 × Nat)
def kvP (l : AL) : KV := l.map fun p => (p.1, Pt p.2 0)
/-- the map of the other methods: nil, or a block -/
def MapAt (w : World) : Option Nat → AL → Prop
  | none, l => l = []
  | some b, l => w.heap[b]? = some (mkM (kvP l))
theorem MapAt.of {w w' : World} {mp : Option Nat} {l : AL} (hkv : MapAt w mp l) (h : ∀ b, mp = some b → w'.heap[b]? = w.heap[b]?) : MapAt w' mp l := by
  cases mp with
  | none => exact hkv
  | some b => simp only [MapAt] at *; rw [h b rfl]; exact hkv
theorem MapAt.old {w w' : World} {H : SH} {mp : Option Nat} {l : AL} (hkv : MapAt w mp l) (h : HF w (fun _ => False) H w') : MapAt w' mp l := by
  cases mp with
  | none => exact hkv
  | some b => exact h.old hkv id
variable {P : Program} {c : Cx} {n : Nat} {k : List Item} {fr : SF} {H : SH} {ty : TypeId}
theorem cells_int (k : IntKind) (i : Int) : (Value.int k i).cells = #[.int k i] := rfl
theorem cells_bool (b : Bool) : (Value.bool b).cells = #[.bool b] := rfl
theorem cells_str (s : ByteArray) : (Value.string s).cells = #[.string s] := rfl
theorem cells_ptr (p : Option Addr) : (Value.pointer p).cells = #[.pointer p] := rfl
theorem cells_sl (p : Option Addr) (l c : Nat) : (Value.slice p l c).cells = #[.slice p l c] := rfl
theorem cells_agg (a : Array Value) : (Value.agg a).cells = a := rfl
def evp (fr : SF) : List (Nat × Operand) → Option (List (Nat × Value))
  | [] => some []
  | (i, x) :: r => match ev fr x, evp fr r with
    | some v, some vs => some ((i, v) :: vs)
    | _, _ => none
theorem Fr.evps {fr : SF} {n : Nat} {a : Act} (ha : Fr n fr a) : ∀ {xs : List (Nat × Operand)} {vs : List (Nat × Value)}, evp fr xs = some vs → xs.map (fun p => (p.1, a.eval p.2)) = vs
  | [], vs, h => by simp [evp] at h; simp [h]
  | (i, x) :: r, vs, h => by
    simp only [evp] at h
    split at h
    · rename_i v ws hv hws
      simp only [Option.some.injEq] at h
      subst h
      simp [ha.eval hv, ha.evps hws]
    · cases h
theorem V.bd {t : TypeId} {ps : List (Nat × Operand)} {vs : List (Nat × Value)} {v : Value} (he : evp fr ps = some vs) (hr : ∀ w, (Instr.build t vs.toArray).run P w = .ok v w) : Val P c n (.build t ps.toArray) ty fr H v := by
  intro a w ha hw dst pos aft g
  have := ha.evps he
  simp [execOp, this, hr]
end Bw

/- More rules: bytes of a string in a new row, bytes put behind bytes, the greater number. -/
set_option maxRecDepth 20000
namespace Bw
open Go Go.Proofs
variable {P : Program} {c : Cx} {n : Nat} {k : List Item} {fr : SF} {H : SH} {ops : Array Oper} {rest : List Oper} {ty t : TypeId} {pos : String} {aft : Array Edge}
theorem G.cvSB {src dst e : TypeId} {x : Operand} {d : Nat} {l : List UInt8} (hs : P.underlying src = some .string) (hdt : P.underlying dst = some (.slice e)) (he : P.underlying e = some (.int .u8)) (hx : ev fr x = some (S l)) (hd : Nat.blt d n = true)
  (hk : ∀ b cp (z : List UInt8) fz, c.w0.heap.size ≤ b → l.length ≤ cp → G P c n k ops rest ((d, .slice (some ⟨b, 0, none⟩) l.length cp) :: fr) (⟨b, true, .row (bC (l ++ z)) e fz⟩ :: H)) : G P c n k ops (⟨some d, .convert src dst x, ty, pos, aft, none⟩ :: rest) fr H := by
 intro hf a w ha hw
 refine wpList_step fun K hK => ?_
 have hsz : (⟨l.toArray⟩ : ByteArray).size = l.length := List.size_toArray
 have h := run_bytes_of_string (P := P) w src dst e ⟨l.toArray⟩ hs hdt he
 have hcap := grownCap_ge w (⟨l.toArray⟩ : ByteArray).size 0 e
 rw [hsz] at h hcap
 generalize grownCap w l.length 0 e = cp at h hcap
 have hrow : bytesRow ⟨l.toArray⟩ cp = (bC (l ++ List.replicate (cp - l.length) 0)).toArray := by
  simp [bytesRow, bC, Lib.byteCells, hsz]
 rw [hrow] at h
 generalize hfz : ((bC (l ++ List.replicate (cp - l.length) 0)).toArray.size, (bC (l ++ List.replicate (cp - l.length) 0)).toArray.size + 1) = fz at h
 have hrun : (execOp a.eval ⟨some d, .convert src dst x, ty, pos, aft, none⟩).run P w = .ok (.value (.slice (some ⟨w.heap.size, 0, none⟩) l.length cp)) (w.drew.alloc (.cells (bC (l ++ List.replicate (cp - l.length) 0)).toArray e fz)) := by
  simp [execOp, ha.eval hx, h]
 simp only [Region.wanted, if_true, Oper.wp, hrun, Oper.upon]
 have hw2 : HF c.w0 c.D H w.drew := hw.drew _
 exact hK _ _ (hk w.heap.size cp (List.replicate (cp - l.length) 0) fz hw.size (by omega) hf _ _ (ha.put hd _) (hw2.push (.row (bC (l ++ List.replicate (cp - l.length) 0)) e fz)))
theorem G.appS {T U e : TypeId} {x y : Operand} {d b m cap i : Nat} {s l : List UInt8} {ie : TypeInfo} (ht : P.underlying T = some (.slice e)) (hu : P.underlying U = some .string) (hi : P.info? e = some ie) (hs1 : ie.size = 1) (hx : ev fr x = some (.slice (some ⟨b, 0, none⟩) m cap)) (hy : ev fr y = some (S s))
  (hat : At i ⟨b, true, .row (bC l) e (0, 0)⟩ H) (hroom : m + s.length ≤ cap) (hfit : m + s.length ≤ l.length) (hd : Nat.blt d n = true)
  (hk : G P c n k ops rest ((d, .slice (some ⟨b, 0, none⟩) (m + s.length) cap) :: fr) (putE (.row (bC (l.take m ++ s ++ l.drop (m + s.length))) e (0, 0)) i H)) : G P c n k ops (⟨some d, .call ⟨.builtin .append, #[x, y], #[T, U]⟩, ty, pos, aft, none⟩ :: rest) fr H := by
 refine G.eff (fun a w ha hw => ?_) hd hk
 have hb := hw.has _ hat.mem
 simp only [Blk.den] at hb
 have hsz : (⟨s.toArray⟩ : ByteArray).size = s.length := List.size_toArray
 have h := Lib.run_append_room_string (P := P) (w := w) T U ty e ie ht hu hi hs1 b m cap (bC l).toArray hb ⟨s.toArray⟩ (by rw [hsz]; exact hroom) (by rw [hsz]; simpa [bC, Lib.byteCells] using hfit)
 have e1 : ((bC l).toArray.toList.take m ++ Lib.strCells (⟨s.toArray⟩ : ByteArray) ++ (bC l).toArray.toList.drop (m + (⟨s.toArray⟩ : ByteArray).size)).toArray = (bC (l.take m ++ s ++ l.drop (m + s.length))).toArray := by
  rw [hsz]
  simp [bC, Lib.byteCells, Lib.strCells, List.map_take, List.map_drop]
 rw [e1, hsz] at h
 refine ⟨w.setRow b (bC (l.take m ++ s ++ l.drop (m + s.length))).toArray, ?_, ?_⟩
 ·simp [execOp, resolve, invoke, builtin, ha.eval hx, ha.eval hy, h]
 ·have := hw.upd (w' := w.setRow b (bC (l.take m ++ s ++ l.drop (m + s.length))).toArray) hat rfl (.row (bC (l.take m ++ s ++ l.drop (m + s.length))) e (0, 0)) (by simp [World.setRow])
   (by simp only [Blk.den]; simp [World.setRow, Array.getElem?_modify, hb]) (fun x hx => by simp only [World.setRow]; rw [Array.getElem?_modify, if_neg (fun e => hx e.symm)]) rfl rfl rfl
  exact this
theorem GC.ret3 {t u s : Nat} {v x y : Value} (hr : c.fn.results = #[.tmp t, .tmp u, .tmp s]) (hv : look t fr = some v) (hx : look u fr = some x) (hy : look s fr = some y) (hR : ∀ w, HF c.w0 c.D H w → c.R (.returned (.tuple #[v, x, y])) w) : GC P c n (.code .ret :: k) fr H := by
 intro hf a w ha hw b hb hk cs
 refine ⟨.returned _, w, _, hR w hw, .one step_ret, hb, rfl, ha.defers, hk, c.fn, by simpa [Frame.at, hb] using hf, ?_⟩
 have h1 := ha.at_ t v hv
 have h2 := ha.at_ u x hx
 have h3 := ha.at_ s y hy
 simp [results, hr, Frame.at, h1, h2, h3]
theorem V.neL {t u e : TypeId} {x : Operand} {p : Option Addr} {l cp : Nat} (hU : P.underlying t = some (.slice e)) (hx : ev fr x = some (.slice p l cp)) : Val P c n (.binOp .neq t x (.const (.slice none 0 0)) u) ty fr H (.bool (!p.isNone)) := by
 intro a w ha hw dst pos aft g
 have h1 : (Op.equal t (.slice p l cp) (.slice none 0 0)).run P w = .ok p.isNone w := eqIn_sl 9999 p l cp hU
 have hk : ∀ v : Value, a.eval (.const v) = v := fun _ => rfl
 simp [execOp, ha.eval hx, hk, eqGuard, binOp, h1]
theorem G.gd {P : Program} {c : Cx} {n : Nat} {k : List Item} {fr : SF} {H : SH} {ops : Array Oper} {rest : List Oper} {op : Op} {ty : TypeId} {d : Option Tmp} {j t : Nat} {b : Bool} {pos : String} {aft : Array Edge} (hj : (ops[j]?).bind (·.dst) = some t) (hb : look t fr = some (.bool b))
  (h : G P c n k ops (⟨d, op, ty, pos, aft, none⟩ :: rest) fr H) : G P c n k ops (⟨d, op, ty, pos, aft, some (j, b)⟩ :: rest) fr H := by
 intro hf a w ha hw
 have h1 := h hf a w ha hw
 have hy : yielded ops a.tmps j = some b := by simp [yielded, hj, ha.at_ t _ hb]
 have w1 : Region.wanted ⟨d, op, ty, pos, aft, some (j, b)⟩ (yielded ops a.tmps) = true := by simp [Region.wanted, hy]
 have w0 : Region.wanted ⟨d, op, ty, pos, aft, none⟩ (yielded ops a.tmps) = true := rfl
 unfold wpList at h1 ⊢
 rw [if_pos w0] at h1
 rw [if_pos w1]
 exact h1
theorem V.maxI {t u : TypeId} {x y : Operand} {kd : IntKind} {i j : Nat} (hx : ev fr x = some (.int kd (i : Int))) (hy : ev fr y = some (.int kd (j : Int))) : Val P c n (.call ⟨.builtin .max, #[x, y], #[t, u]⟩) ty fr H (.int kd ((max i j : Nat) : Int)) := by
 intro a w ha hw dst pos aft g
 have h := Go.run_max_int2 (P := P) (w := w) #[t, u] ty kd kd (i : Int) (j : Int)
 have e : (if ((j : Int) > (i : Int)) then (j : Int) else (i : Int)) = ((max i j : Nat) : Int) := by
  split <;> omega
 rw [e] at h
 simp [execOp, resolve, invoke, builtin, ha.eval hx, ha.eval hy, h]
end Bw

/- More rules: a panic, calls that may panic, an iface of a string. No program in sight. -/
set_option maxRecDepth 20000
namespace Bw
open Go
variable {P : Program} {c : Cx} {n : Nat} {k : List Item} {fr : SF} {H : SH} {ops : Array Oper} {rest : List Oper} {ty : TypeId} {pos : String} {aft : Array Edge}
theorem run_pan {P : Program} (t : TypeId) (v : Value) (w : World) : (Instr.panic (.iface t v)).run P w = .halt (.panic (.iface t v)) w := rfl
/-- the end: a panic -/
theorem G.panic {x : Operand} {t : TypeId} {v : Value} {d : Option Tmp} (hx : ev fr x = some (.iface t v)) (hR : ∀ w, HF c.w0 c.D H w → c.R (.panicked [{ v := .iface t v, recovered := false }]) w) :
  G P c n k ops (⟨d, .panic x, ty, pos, aft, none⟩ :: rest) fr H := by
 intro hf a w ha hw
 refine wpList_step fun K hK => ?_
 have h1 : (execOp a.eval ⟨d, .panic x, ty, pos, aft, none⟩).run P w = .halt (.panic (.iface t v)) w := by
  simp [execOp, ha.eval hx, run_pan]
 simp only [Region.wanted, if_true, Oper.wp, h1, Oper.upon]
 exact ⟨ha.defers, hR w hw⟩
theorem V.miS {t : TypeId} {x : Operand} {l : List UInt8} (hU : P.underlying t = some .string) (hx : ev fr x = some (S l)) : Val P c n (.makeInterface t x) ty fr H (.iface t (S l)) := by
 intro a w ha hw dst pos aft g
 simp [execOp, ha.eval hx, Instr.makeInterface, underlying, hU, S]
/-- a panic of one entry -/
def onePanic (e : Ending) : Prop := ∃ t v, e = .panicked [{ v := .iface t v, recovered := false }]
/-- a call that turns the entries H1 and leaves the others; it may panic, and then the caller does -/
theorem G.callE {H1 Hk : SH} {g : FuncId} {xs : List Operand} {vs : List Value} {tys : Array TypeId} {d : Nat} (J : Value → SH → Prop) (X : SH → Prop) (hp : H.Perm (H1 ++ Hk)) (ha : ∀ e ∈ H1, e.w = true)
  (hg : ∀ (args : Array Value) w, (callFunc g args).run P w = .ok (.enter g args) w) (he : evs fr xs = some vs) (hd : Nat.blt d n = true)
  (hc : ∀ w, HF w (fun b => ∃ e ∈ H1, e.b = b) H1 w →
   Calls P g vs.toArray w (fun e w' => ∃ H1', (∀ x ∈ H1', x.w = true) ∧ HF w (fun b => ∃ e ∈ H1, e.b = b) H1' w' ∧ ((∃ v, e = .returned v ∧ J v H1') ∨ (onePanic e ∧ X H1'))))
  (hk : ∀ v H1', J v H1' → G P c n k ops rest ((d, v) :: fr) (H1' ++ Hk)) (hR : ∀ H1' e w', X H1' → onePanic e → HF c.w0 c.D (H1' ++ Hk) w' → c.R e w') :
  G P c n k ops (⟨some d, .call ⟨.value (.func g), xs.toArray, tys⟩, ty, pos, aft, none⟩ :: rest) fr H := by
 intro hf a w haa hw
 refine wpList_step fun K' hK' => ?_
 simp only [Region.wanted, if_true, Oper.wp, run_callN haa hg he, Oper.upon]
 have hh := hw.perm hp
 have hnd := List.pairwise_append.1 hh.nd
 refine (hc w (hh.loc (fun e he => List.mem_append_left _ he) hnd.1)).mono fun e w' ⟨H1', h1, h2, h3⟩ => ?_
 have hb := hw.back hp ha h1 h2
 rcases h3 with ⟨v, rfl, hJ⟩ | ⟨⟨t, v, rfl⟩, hX⟩
 ·exact hK' _ _ (hk v H1' hJ hf _ _ (haa.put hd v) hb)
 ·exact ⟨haa.defers, hR H1' _ _ hX ⟨t, v, rfl⟩ hb⟩
end Bw

/- zzIndex, zzCut. Printed by wip/mk_gu2.py. -/
set_option maxRecDepth 20000
namespace Go.Proofs
open Go Bw
/-- where a text is first found -/
def Idx (s p : List UInt8) (r : Int) : Prop := (r = -1 ∧ ∀ i, i + p.length ≤ s.length → (s.take (i + p.length)).drop i ≠ p) ∨ (∃ i : Nat, r = i ∧ i + p.length ≤ s.length ∧ (s.take (i + p.length)).drop i = p ∧ ∀ j, j < i → (s.take (j + p.length)).drop j ≠ p)
theorem idx_uniq {s p : List UInt8} {r r' : Int} (h : Idx s p r) (h' : Idx s p r') : r = r' := by
 rcases h with ⟨rfl, h⟩ | ⟨i, rfl, h1, h2, h3⟩ <;> rcases h' with ⟨rfl, h'⟩ | ⟨j, rfl, h1', h2', h3'⟩
 ·rfl
 ·exact absurd h2' (h j h1')
 ·exact absurd h2 (h' i h1)
 ·rcases Nat.lt_trichotomy i j with h | h | h
  ·exact absurd h2 (h3' i h)
  ·rw [h]
  ·exact absurd h2' (h3 j h)
theorem idx_ex (s p : List UInt8) : ∃ r, Idx s p r := by
 by_cases h : ∃ i, i + p.length ≤ s.length ∧ (s.take (i + p.length)).drop i = p
 ·obtain ⟨i, hi⟩ := h
  induction i using Nat.strongRecOn with
  | _ i ih =>
   by_cases h2 : ∃ j, j < i ∧ (s.take (j + p.length)).drop j = p
   ·obtain ⟨j, h3, h4⟩ := h2
    exact ih j h3 ⟨by omega, h4⟩
   ·exact ⟨i, .inr ⟨i, rfl, hi.1, hi.2, fun j hj e => h2 ⟨j, hj, e⟩⟩⟩
 ·exact ⟨-1, .inl ⟨rfl, fun i hi e => h ⟨i, hi, e⟩⟩⟩
theorem f84_any (w : World) (s p : List UInt8) (hs : s.length ≤ 1000000000000) (hp : p.length ≤ 1000000000000) : Calls Tryd.prog 67 #[S s, S p] w fun e w' => ∃ r, Idx s p r ∧ e = .returned (I r) ∧ HF w (fun _ => False) [] w' := by
 refine enter (fun _ => False) [] Tryd.func67 rfl Tryd.ntmps67 rfl rfl (HF.start w _) fun c hc => ?_
 subst hc
 refine GC.seq ?_
 refine GC.reg ?_
 refine G.m2 ?_
 refine G.nil ?_
 refine GC.seq ?_
 refine GC.seq ?_
 refine GC.reg ?_
 refine G.m2 ?_
 refine G.nil ?_
 refine GC.block ?_
 refine GC.loopJ (fun N fr' H' => ∃ i, i + N = s.length + 1 ∧ (∀ j, j < i → j + p.length ≤ s.length → (s.take (j + p.length)).drop j ≠ p) ∧ Sub [(0, S s), (1, S p), (5, I ((i : Nat) : Int))] fr' ∧ H' = []) (s.length + 1)
  ⟨0, by omega, fun j h => by omega, .of rfl, rfl⟩ ?_
 rintro N fr' H' ⟨i, hi, hall, hs, rfl⟩ ih
 refine GC.weak hs ?_
 clear hs
 refine GC.seq ?_
 refine GC.seq ?_
 refine GC.reg ?_
 refine G.m1 ?_
 refine G.m1 ?_
 refine G.v (V.lenS Tryd.underlying9 rfl) rfl ?_
 refine G.v (V.addI (r := ((i + p.length : Nat) : Int)) rfl rfl (by omega) (by omega) (by omega)) rfl ?_
 refine G.m1 ?_
 refine G.v (V.lenS Tryd.underlying9 rfl) rfl ?_
 refine G.v (V.le rfl rfl) rfl ?_
 refine G.nil ?_
 refine GC.condD rfl (fun h12 => ?_) (fun h12 => ?_)
 ·refine GC.skip ?_
  refine GC.seq ?_
  refine GC.block ?_
  refine GC.seq ?_
  have hle : i + p.length ≤ s.length := by omega
  refine GC.reg ?_
  refine G.m1 ?_
  refine G.m1 ?_
  refine G.m1 ?_
  refine G.m1 ?_
  refine G.v (V.lenS Tryd.underlying9 rfl) rfl ?_
  refine G.v (V.addI (r := ((i + p.length : Nat) : Int)) rfl rfl (by omega) (by omega) (by omega)) rfl ?_
  refine G.v (V.slLH (i := i) (j := i + p.length) Tryd.underlying9 rfl rfl rfl (by omega) (by omega)) rfl ?_
  refine G.m1 ?_
  refine G.v (V.eqS rfl rfl) rfl ?_
  refine G.nil ?_
  refine GC.condD rfl (fun h23 => ?_) (fun h23 => ?_)
  ·refine GC.seq ?_
   refine GC.reg ?_
   refine G.m1 ?_
   refine G.m2 ?_
   refine G.nil ?_
   exact GC.ret1 rfl rfl fun w' hw' => ⟨_, .inr ⟨i, rfl, hle, by simpa using h23, fun j hj => hall j hj (by omega)⟩, rfl, hw'⟩
  refine GC.skip ?_
  refine GC.inBlock ?_
  refine GC.reg ?_
  refine G.m1 ?_
  refine G.v (V.addI (r := ((i + 1 : Nat) : Int)) rfl rfl rfl (by omega) (by omega)) rfl ?_
  refine G.m2 ?_
  refine G.nil ?_
  refine ih (N - 1) _ _ (by omega) ⟨i + 1, by omega, fun j hj hjl => ?_, .of rfl, rfl⟩
  by_cases e : j = i
  ·subst e; simpa using h23
  ·exact hall j (by omega) hjl
 refine GC.exit rfl ?_
 refine GC.seq ?_
 refine GC.reg ?_
 refine G.m2 ?_
 refine G.nil ?_
 exact GC.ret1 rfl rfl fun w' hw' => ⟨_, .inl ⟨rfl, fun j hj => hall j (by omega) hj⟩, rfl, hw'⟩
theorem f83_any (w : World) (s p : List UInt8) (hs : s.length ≤ 1000000000000) (hp : p.length ≤ 1000000000000) : Calls Tryd.prog 66 #[S s, S p] w fun e w' => ∃ a b t, a <+: s ∧ e = .returned (.tuple #[S a, S b, .bool t]) ∧ HF w (fun _ => False) [] w' := by
 refine enter (fun _ => False) [] Tryd.func66 rfl Tryd.ntmps66 rfl rfl (HF.start w _) fun c hc => ?_
 subst hc
 refine GC.seq ?_
 refine GC.reg ?_
 refine G.m2 ?_
 refine G.m2 ?_
 refine G.m2 ?_
 refine G.nil ?_
 refine GC.seq ?_
 refine GC.seq ?_
 refine GC.reg ?_
 refine G.m1 ?_
 refine G.m1 ?_
 refine G.callW (fun v H2 => ∃ r, Idx s p r ∧ v = I r ∧ H2 = []) Tryd.call67 rfl rfl (fun w1 hw1 => (f84_any w1 s p hs hp).mono fun e w' ⟨r, h1, h2, h3⟩ => ⟨_, _, h2, hw1.after0 h3 (fun e he => by cases he), r, h1, rfl, rfl⟩) ?_
 rintro v H2 ⟨r, hr, rfl, rfl⟩
 refine G.m2 ?_
 refine G.nil ?_
 refine GC.seq ?_
 refine GC.reg ?_
 refine G.m1 ?_
 refine G.v (V.ge rfl rfl) rfl ?_
 refine G.nil ?_
 refine GC.condD rfl (fun h12 => ?_) (fun h12 => ?_)
 ·refine GC.seq ?_
  obtain ⟨i, rfl, hi, hip⟩ : ∃ i : Nat, r = i ∧ i + p.length ≤ s.length ∧ (s.take (i + p.length)).drop i = p := by
   rcases hr with ⟨h, _⟩ | h
   ·omega
   ·obtain ⟨i, h1, h2, h3, _⟩ := h
    exact ⟨i, h1, h2, h3⟩
  refine GC.regQ mixed (by kernel_rfl) ?_
  refine GQ.v (V.mv rfl) rfl ?_
  refine GQ.v (V.mv rfl) rfl ?_
  refine GQ.v (V.slH (j := i) Tryd.underlying9 rfl rfl (by omega)) rfl ?_
  refine GQ.v (V.mv rfl) rfl ?_
  refine GQ.v (V.mv rfl) rfl ?_
  refine GQ.v (V.mv rfl) rfl ?_
  refine GQ.v (V.lenS Tryd.underlying9 rfl) rfl ?_
  refine GQ.v (V.addI (r := ((i + p.length : Nat) : Int)) rfl rfl (by omega) (by omega) (by omega)) rfl ?_
  refine GQ.v (V.slL (i := i + p.length) Tryd.underlying9 rfl rfl (by omega)) rfl ?_
  refine GQ.v (V.asg rfl) rfl ?_
  refine GQ.v (V.asg rfl) rfl ?_
  refine GQ.v (V.asg rfl) rfl ?_
  refine GQ.nil ?_
  exact GC.ret3 rfl rfl rfl rfl fun w' hw' => ⟨_, _, _, List.take_prefix _ _, rfl, hw'⟩
 refine GC.skip ?_
 refine GC.seq ?_
 refine GC.reg ?_
 refine G.m1 ?_
 refine G.m2 ?_
 refine G.m2 ?_
 refine G.m2 ?_
 refine G.nil ?_
 exact GC.ret3 rfl rfl rfl rfl fun w' hw' => ⟨_, _, _, List.prefix_refl _, rfl, hw'⟩
end Go.Proofs

/- A region that draws its order, whose head's loads stand under a condition on the world (which the head's other operations keep), and whose tail stands in one order behind all of the head. No program in sight. -/
set_option maxRecDepth 20000
namespace Bw
open Go
section
variable {P : Program} {ops : Array Oper} {md : Region.Mode} {S : World → Prop} {Q : Exit → Act → World → Prop}
def hdS (P : Program) (md : Region.Mode) (ops : Array Oper) (Q : Exit → Act → World → Prop) (S : World → Prop) (m : Nat) (E : Array Bool → Act → World → Prop) : Nat → Array Bool → Act → World → Prop
 | 0, l, a, w => E l a w
 | f + 1, l, a, w => Region.ready md ops l ≠ [] ∧ ∀ i, i ∈ Region.ready md ops l → i < m ∧ wpOp P ops Q i (fun a' w' => S w' ∧ hdS P md ops Q S m E f (l.setIfInBounds i true) a' w') a w
theorem hdS_any {m g : Nat} {E : Array Bool → Act → World → Prop} (hE : ∀ l a w, E l a w → wpAny P md ops Q g l a w) (f : Nat) :
  ∀ l a w, hdS P md ops Q S m E f l a w → wpAny P md ops Q (f + g) l a w := by
 induction f with
 | zero => intro l a w h; rw [Nat.zero_add]; exact hE l a w h
 | succ f ih =>
  intro l a w h
  have e : f + 1 + g = (f + g) + 1 := by omega
  rw [e]
  refine ⟨fun h0 => absurd h0 h.1, fun i hi => ?_⟩
  exact wpOp_mono (fun a' w' h' => ih _ a' w' h'.2) (h.2 i hi).2
theorem hdS_first {m i : Nat} {oi : Oper} {v : Value} {E : Array Bool → Act → World → Prop} (hi : ops[i]? = some oi) (hsel : ∀ (j : Nat) (o : Oper) cs b, ops[j]? = some o → o.op ≠ .select cs b)
  (hQ : ∀ c a w, Q (.panic c) (a.put oi.dst v) w → Q (.panic c) a w)
  (hs : Region.sinkB md ops m = true) (hc : Region.chainB md ops m = true) (hm : m < ops.size) (him : i < m) (hE : ∀ l a w, E l a w → ∀ j, j ∈ Region.ready md ops l → m ≤ j) (f : Nat) :
  ∀ l a w, HeadInv md ops m l → (∀ j oj, ops[j]? = some oj → j ≠ i → l.getD j true = false → (∀ e ∈ oj.after, Region.binds md e = true → e.on ≠ i) → oi.apart ops oj = true) →
   i ∈ Region.ready md ops l → YieldsIf P ops S oi v a → S w → hdS P md ops Q S m E f (l.setIfInBounds i true) (a.put oi.dst v) w → hdS P md ops Q S m E (f + 1) l a w := by
 induction f with
 | zero =>
  intro l a w inv hfree hr hy hS hk
  have hun := (mem_ready.1 hr).1
  refine ⟨List.ne_nil_of_mem hr, fun j hj => ?_⟩
  have hjm : j < m := by
   rcases Nat.lt_or_ge j m with h | h
   ·exact h
   ·exact absurd hj (tail_waits hs hc hm inv _ i rfl him hun j h)
  refine ⟨hjm, ?_⟩
  rcases Nat.decEq j i with hne | rfl
  ·have := hE _ _ _ hk j (ready_mono hj hne); omega
  ·exact hy.wpOp hi hS ⟨hS, hk⟩
 | succ f ih =>
  intro l a w inv hfree hr hy hS hk
  have hun := (mem_ready.1 hr).1
  refine ⟨List.ne_nil_of_mem hr, fun j hj => ?_⟩
  have hjm : j < m := by
   rcases Nat.lt_or_ge j m with h | h
   ·exact h
   ·exact absurd hj (tail_waits hs hc hm inv _ i rfl him hun j h)
  refine ⟨hjm, ?_⟩
  rcases Nat.decEq j i with hne | rfl
  ·have hj1 := (hk.2 j (ready_mono hj hne)).2
   obtain ⟨hjun, oj, hoj, hall⟩ := mem_ready.1 hj
   have hnot : ∀ e ∈ oj.after, Region.binds md e = true → e.on ≠ i := fun e he hb heq => by
    have h1 := hall e he hb
    rw [heq, getD_both hun] at h1
    cases h1
   have h2 := wpOp_putIf hoj (hfree j oj hoj hne hjun hnot) (fun cs b => hsel i oi cs b hi) (fun cs b => hsel j oj cs b hoj) hQ hy hj1
   refine wpOp_mono (fun a' w' h3 => ⟨h3.2.1, ih (l.setIfInBounds j true) a' w' (inv.set hj hjm) (fun x ox hx hxi hun' hno => hfree x ox hx hxi ?_ hno) (ready_mono hr (Ne.symm hne)) h3.1 h3.2.1 ?_⟩) h2
   ·rcases Nat.decEq j x with h | rfl
    ·rwa [getD_set_ne true h] at hun'
    ·exact hjun
   ·have h4 := h3.2.2
    rwa [Array.setIfInBounds_comm _ _ (Ne.symm hne)] at h4
  ·exact hy.wpOp hi hS ⟨hS, hk⟩
end
variable {P : Program} {c : Cx} {n : Nat} {k : List Item} {fr : SF} {H : SH} {ops : Array Oper} {rest tail : List Oper} {ty : TypeId} {pos : String} {aft : Array Edge} {S : World → Prop} {m fuel : Nat} {listed : Array Bool}
/-- what is left is the tail -/
def tlE (P : Program) (c : Cx) (k : List Item) (ops : Array Oper) (m : Nat) (tail : List Oper) (l : Array Bool) (a : Act) (w : World) : Prop :=
 Region.seqB .any ops (ops.size - m) m l = true ∧ wpList P ops (Qk P c k) tail a w
def GM (P : Program) (c : Cx) (n : Nat) (k : List Item) (ops : Array Oper) (S : World → Prop) (m : Nat) (tail : List Oper) (fuel : Nat) (listed : Array Bool) (fr : SF) (H : SH) : Prop :=
 P.funcs[c.f]? = some c.fn → ∀ a w, Fr n fr a → HF c.w0 c.D H w → HeadInv .any ops m listed → hdS P .any ops (Qk P c k) S m (tlE P c k ops m tail) fuel listed a w
def GMB (P : Program) (c : Cx) (n : Nat) (k : List Item) (ops : Array Oper) (S : World → Prop) (m : Nat) (tail : List Oper) (fuel : Nat) (listed : Array Bool) (o : Oper) (fr : SF) (H : SH) : Prop :=
 P.funcs[c.f]? = some c.fn → ∀ a w, Fr n fr a → HF c.w0 c.D H w → HeadInv .any ops m listed → o.guard = none ∧ o.wp P a w (fun a' w' => S w' ∧ hdS P .any ops (Qk P c k) S m (tlE P c k ops m tail) fuel listed a' w') (Qk P c k)
/-- the parts of the condition on the region, each asked once -/
def okM (ops : Array Oper) (m : Nat) : Bool := Region.noSelect ops && decide (m < ops.size) && Region.sinkB .any ops m && Region.chainB .any ops m
theorem inv0 {l : List Oper} (m : Nat) : HeadInv .any l.toArray m (Array.replicate l.toArray.size false) :=
 ⟨by simp, fun j oj _ hl => (by rw [getD_replicate_false] at hl; cases hl), fun t _ ht => getD_in (by simpa using ht) (getD_replicate_false _ _)⟩
theorem GC.regM {id : Nat} {l : List Oper} (m : Nat) (S : World → Prop) (hm : P.follows .mixedOrders = true) (hB : Nat.ble m l.length = true) (h : GM P c n k l.toArray S m (l.drop m) m (Array.replicate l.toArray.size false) fr H) :
  GC P c n (.code (.region id l.toArray true) :: k) fr H := by
 intro hf a w ha hw
 refine Runs.of_wp hf (wp_region_any hm ?_)
 have h1 := h hf a _ ha (hw.drew (w.drawn + 1)) (inv0 m)
 have h2 := hdS_any (g := l.toArray.size - m) (fun li a w ⟨hq, hl⟩ => by
  have hdl : (l.drop m).length = l.toArray.size - m := by simp
  have h3 := wpAny_of_seq (P := P) (md := .any) (Q' := Qk P c k) (l.drop m) m li a w (fun j => by simp) (by rw [hdl]; exact hq) hl
  rw [hdl] at h3; exact h3) m _ a _ h1
 have e : m + (l.toArray.size - m) = l.toArray.size := by have := Nat.le_of_ble_eq_true hB; simp; omega
 rw [e] at h2
 exact h2
theorem GM.take {i d : Nat} {op : Op} {v : Value} (hi : ops[i]? = some ⟨some d, op, ty, pos, aft, none⟩) (hok : okM ops m = true) (hB : (Region.free .any ops listed i && (Region.ready .any ops listed).contains i && Nat.blt i m) = true)
  (hS : ∀ w, HF c.w0 c.D H w → S w) (hv : ∀ a w, Fr n fr a → S w → ∀ dst pos aft g, (execOp a.eval ⟨dst, op, ty, pos, aft, g⟩).run P w = .ok (.value v) w) (hd : Nat.blt d n = true)
  (h : GM P c n k ops S m tail fuel (listed.setIfInBounds i true) ((d, v) :: fr) H) : GM P c n k ops S m tail (fuel + 1) listed fr H := by
 intro hf a w ha hw inv
 simp only [Bool.and_eq_true, okM, decide_eq_true_eq] at hB hok
 have him : i < m := by simpa [Nat.blt_eq] using hB.2
 have hr : i ∈ Region.ready .any ops listed := by simpa using hB.1.2
 exact hdS_first hi (Region.noSelect_spec hok.1.1.1) (fun ch a' w' hq => ⟨hq.1, hq.2⟩) hok.1.2 hok.2 hok.1.1.2 him (fun l a w hE => seqB_ready hE.1) fuel listed a w inv (Region.free_spec hi hB.1.1) hr (.inl ⟨by simp [Region.wanted], fun w' hS' => hv a w' ha hS' _ _ _ _⟩) (hS w hw) (h hf _ _ (ha.put hd v) hw (inv.set hr him))
theorem GM.p (i : Nat) {d : Nat} {op : Op} {v : Value} (hi : ops[i]? = some ⟨some d, op, ty, pos, aft, none⟩) (hok : okM ops m = true) (hB : (Region.free .any ops listed i && (Region.ready .any ops listed).contains i && Nat.blt i m) = true)
  (hS : ∀ w, HF c.w0 c.D H w → S w) (hv : ∀ (w0 : World), Val P ⟨c.f, c.fn, c.R, w0, fun _ => False⟩ n op ty fr [] v) (hd : Nat.blt d n = true)
  (h : GM P c n k ops S m tail fuel (listed.setIfInBounds i true) ((d, v) :: fr) H) : GM P c n k ops S m tail (fuel + 1) listed fr H :=
 GM.take hi hok hB hS (fun a w ha _ dst pos aft g => hv w a w ha (HF.start w _) dst pos aft g) hd h
theorem GM.ld (i : Nat) {d : Nat} {t : TypeId} {x : Operand} {b off : Nat} {v : Value} (hi : ops[i]? = some ⟨some d, .load t x, ty, pos, aft, none⟩) (hok : okM ops m = true) (hB : (Region.free .any ops listed i && (Region.ready .any ops listed).contains i && Nat.blt i m) = true)
  (hS : ∀ w, HF c.w0 c.D H w → S w) (hA : ∀ w, (isAgg t).run P w = .ok false w) (hx : ev fr x = some (Pt b off)) (hc : ∀ w, S w → w.cell? ⟨b, off, none⟩ = some v) (hd : Nat.blt d n = true)
  (h : GM P c n k ops S m tail fuel (listed.setIfInBounds i true) ((d, v) :: fr) H) : GM P c n k ops S m tail (fuel + 1) listed fr H :=
 GM.take hi hok hB hS (fun a w ha hS dst pos aft g => by simp [execOp, ha.eval hx, Instr.loadAt, Instr.sureAddr, loadVar, hA, run_load, hc w hS]) hd h
theorem GM.one (i : Nat) {o : Oper} (hi : ops[i]? = some o) (hr : (match Region.ready .any ops listed with | [j] => Nat.beq j i && Nat.blt i m | _ => false) = true) (h : GMB P c n k ops S m tail fuel (listed.setIfInBounds i true) o fr H) : GM P c n k ops S m tail (fuel + 1) listed fr H := by
 have hr' : Region.ready .any ops listed = [i] ∧ i < m := by
  split at hr
  ·rename_i j e
   simp only [Bool.and_eq_true] at hr
   have e2 := Nat.eq_of_beq_eq_true hr.1
   subst e2
   exact ⟨e, by simpa [Nat.blt_eq] using hr.2⟩
  ·cases hr
 intro hf a w ha hw inv
 refine ⟨by rw [hr'.1]; simp, fun j hj => ?_⟩
 rw [hr'.1, List.mem_singleton] at hj
 subst hj
 refine ⟨hr'.2, ?_⟩
 obtain ⟨h1, h2⟩ := h hf a w ha hw (inv.set (by rw [hr'.1]; simp) hr'.2)
 unfold wpOp
 simp only [hi]
 have : Region.wanted o (yielded ops a.tmps) = true := by simp [Region.wanted, h1]
 rw [if_pos this]
 exact .inl h2
theorem GM.tl (hq : Region.seqB .any ops (ops.size - m) m listed = true) (h : G P c n k ops tail fr H) : GM P c n k ops S m tail 0 listed fr H := fun hf a w ha hw _ => ⟨hq, h hf a w ha hw⟩
theorem GM.turn {H' : SH} (hs : ∀ w, HF c.w0 c.D H w → HF c.w0 c.D H' w) (h : GM P c n k ops S m tail fuel listed fr H') : GM P c n k ops S m tail fuel listed fr H := fun hf a w ha hw inv => h hf a w ha (hs w hw) inv
theorem GMB.eff {op : Op} {d : Nat} {A : Type} {H' : A → SH} {v : A → Value} (hr : ∀ a w, Fr n fr a → HF c.w0 c.D H w → ∃ x w', (execOp a.eval ⟨some d, op, ty, pos, aft, none⟩).run P w = .ok (.value (v x)) w' ∧ HF c.w0 c.D (H' x) w') (hS : ∀ x w, HF c.w0 c.D (H' x) w → S w)
  (hd : Nat.blt d n = true) (hk : ∀ x, GM P c n k ops S m tail fuel listed ((d, v x) :: fr) (H' x)) : GMB P c n k ops S m tail fuel listed ⟨some d, op, ty, pos, aft, none⟩ fr H := by
 intro hf a w ha hw inv
 obtain ⟨x, w', h1, h2⟩ := hr a w ha hw
 refine ⟨rfl, ?_⟩
 simp only [Oper.wp, h1, Oper.upon]
 exact ⟨hS x _ h2, hk x hf _ _ (ha.put hd _) h2 inv⟩
theorem GMB.v {op : Op} {v : Value} {d : Nat} (hv : Val P c n op ty fr H v) (hS : ∀ w, HF c.w0 c.D H w → S w) (hd : Nat.blt d n = true) (hk : GM P c n k ops S m tail fuel listed ((d, v) :: fr) H) : GMB P c n k ops S m tail fuel listed ⟨some d, op, ty, pos, aft, none⟩ fr H :=
 GMB.eff (A := Unit) (H' := fun _ => H) (v := fun _ => v) (fun a w ha hw => ⟨(), w, hv a w ha hw _ _ _ _, hw⟩) (fun _ => hS) hd (fun _ => hk)
theorem GMB.new {op : Op} {d : Nat} {kb : Blk} {v : Nat → Value} (hr : ∀ a w, Fr n fr a → HF c.w0 c.D H w → (execOp a.eval ⟨some d, op, ty, pos, aft, none⟩).run P w = .ok (.value (v w.heap.size)) { w with heap := w.heap.push kb.den })
  (hS : ∀ w, HF c.w0 c.D H w → S w) (hd : Nat.blt d n = true) (hk : ∀ b, GM P c n k ops S m tail fuel listed ((d, v b) :: fr) (⟨b, true, kb⟩ :: H)) : GMB P c n k ops S m tail fuel listed ⟨some d, op, ty, pos, aft, none⟩ fr H :=
 GMB.eff (A := Nat) (H' := fun b => ⟨b, true, kb⟩ :: H) (v := v) (fun a w ha hw => ⟨_, _, hr a w ha hw, hw.push kb⟩) (fun _b w hw => hS w (hw.sub (List.sublist_cons_self _ _))) hd hk
theorem GMB.bs {T e d z : Nat} {xs : List (Nat × Operand)} {vl : List (Nat × Value)} {vs : List Value} (hb : ∀ w, (Instr.buildSlice T z vl.toArray).run P w = .ok (.slice (some ⟨w.heap.size, 0, none⟩) z z) { w with heap := w.heap.push (.cells vs.toArray e) })
  (hx : evp fr xs = some vl) (hS : ∀ w, HF c.w0 c.D H w → S w) (hd : Nat.blt d n = true)
  (hk : ∀ b, GM P c n k ops S m tail fuel listed ((d, .slice (some ⟨b, 0, none⟩) z z) :: fr) (⟨b, true, .row vs e (0, 0)⟩ :: H)) : GMB P c n k ops S m tail fuel listed ⟨some d, .buildSlice T z xs.toArray, ty, pos, aft, none⟩ fr H := by
 refine GMB.new (kb := .row vs e (0, 0)) (v := fun b => .slice (some ⟨b, 0, none⟩) z z) (fun a w ha hw => ?_) hS hd hk
 have h1 := ha.evps hx
 have h2 := hb w
 simp only [execOp]
 have e2 : (xs.toArray.map fun p => (p.1, a.eval p.2)) = vl.toArray := by rw [← h1]; simp
 simp [Blk.den] at *
 simp [h1, h2]
theorem GMB.al {t : TypeId} {z : Value} {d : Nat} {l : List Value} (hz : ∀ w, (zeroValue t).run P w = .ok z w) (hl : z.cells.toList = l) (hS : ∀ w, HF c.w0 c.D H w → S w) (hd : Nat.blt d n = true)
  (hk : ∀ b, GM P c n k ops S m tail fuel listed ((d, Pt b 0) :: fr) (⟨b, true, .row l t (0, 0)⟩ :: H)) : GMB P c n k ops S m tail fuel listed ⟨some d, .alloc t, ty, pos, aft, none⟩ fr H := by
 refine GMB.new (kb := .row l t (0, 0)) (v := fun b => Pt b 0) (fun a w ha hw => ?_) hS hd hk
 subst hl
 simp [execOp, Instr.alloc, hz, newVar, newRow, Blk.den]
theorem GMB.bx {t : TypeId} {x : Operand} {v : Value} {d : Nat} {l : List Value} (hx : ev fr x = some v) (hl : v.cells.toList = l) (hS : ∀ w, HF c.w0 c.D H w → S w) (hd : Nat.blt d n = true)
  (hk : ∀ b, GM P c n k ops S m tail fuel listed ((d, Pt b 0) :: fr) (⟨b, true, .row l t (0, 0)⟩ :: H)) : GMB P c n k ops S m tail fuel listed ⟨some d, .box t x, ty, pos, aft, none⟩ fr H := by
 refine GMB.new (kb := .row l t (0, 0)) (v := fun b => Pt b 0) (fun a w ha hw => ?_) hS hd hk
 subst hl
 simp [execOp, ha.eval hx, Instr.box, newVar, newRow, Blk.den]
theorem GMB.app {T e sz by_ : Nat} {i : TypeInfo} {z : Value} {x y : Operand} {sv : Value} {n0 : Nat} {xs vs : List Value} {Hs H' : SH} {ad : Addr} {m1 mc d : Nat}
  (hT : P.underlying T = some (.slice e)) (hi : P.info? e = some i) (hz : i.zero = some z) (hsz : i.size = sz) (hby : i.bytes = by_) (hzs : z.cells.size = sz)
  (hx : ev fr x = some sv) (hy : ev fr y = some (.slice (some ad) m1 mc)) (hown : Own e sz sv n0 xs Hs) (hperm : H.Perm (Hs ++ H'))
  (hsrc : ∀ w, HF c.w0 c.D H w → ∀ j u, vs[j]? = some u → w.cell? (ad.add j) = some u) (hvl : vs.length = m1 * sz) (h1 : ∀ u ∈ vs, u.oneCell' = true) (hm : 0 < m1) (hbd : (n0 + m1) * by_ ≤ 140737488355328) (h63 : n0 + m1 ≤ 9223372036854775807)
  (hS : ∀ w, HF c.w0 c.D H' w → S w) (hd : Nat.blt d n = true)
  (hk : ∀ sv' Hs', Own e sz sv' (n0 + m1) (xs ++ vs) Hs' → GM P c n k ops S m tail fuel listed ((d, sv') :: fr) (H' ++ Hs')) :
  GMB P c n k ops S m tail fuel listed ⟨some d, .call ⟨.builtin .append, #[x, y], #[T, T]⟩, ty, pos, aft, none⟩ fr H := by
 refine GMB.eff (A := { p : Value × SH // Own e sz p.1 (n0 + m1) (xs ++ vs) p.2 }) (H' := fun p => H' ++ p.1.2) (v := fun p => p.1.1) (fun a w ha hw => ?_) (fun p w hw => hS w (hw.sub (List.sublist_append_left _ _))) hd (fun p => hk _ _ p.2)
 obtain ⟨sv', Hs', w', g1, g2, g3⟩ := app_run (d := d) (ty := ty) (pos := pos) (aft := aft) hT hi hz hsz hby hzs hx hy hown hperm hsrc hvl h1 hm hbd h63 a w ha hw
 exact ⟨⟨(sv', Hs'), g1⟩, w', g2, g3⟩
end Bw

/- gin's tree, without addresses: what addRoute makes of it. No program in sight. -/
namespace Gt
open Gs
/-- a node: a: what is noted on it; nt: 0 static, 1 root, 2 param, 3 catchAll -/
inductive Tr (α : Type) where
  | node (a : α) (path idx : List UInt8) (wild : Bool) (nt pr : Nat) (h : Option Nat) (full : List UInt8) (kids : List (Tr α))
variable {α : Type}
namespace Tr
def an : Tr α → α | node a _ _ _ _ _ _ _ _ => a
def path : Tr α → List UInt8 | node _ p _ _ _ _ _ _ _ => p
def idx : Tr α → List UInt8 | node _ _ i _ _ _ _ _ _ => i
def wild : Tr α → Bool | node _ _ _ w _ _ _ _ _ => w
def nt : Tr α → Nat | node _ _ _ _ n _ _ _ _ => n
def pr : Tr α → Nat | node _ _ _ _ _ p _ _ _ => p
def h : Tr α → Option Nat | node _ _ _ _ _ _ h _ _ => h
def full : Tr α → List UInt8 | node _ _ _ _ _ _ _ f _ => f
def kids : Tr α → List (Tr α) | node _ _ _ _ _ _ _ _ k => k
def setPr : Tr α → Nat → Tr α | node a p i w n _ h f k, q => node a p i w n q h f k
def setKids : Tr α → List (Tr α) → Tr α | node a p i w n q h f _, k => node a p i w n q h f k
def incr (t : Tr α) : Tr α := t.setPr (t.pr + 1)
end Tr
open Tr
abbrev T0 := Tr Unit
/-- findWildcard, where there is no backslash: the wildcard and where it begins -/
def fw : List UInt8 → Nat → Option (List UInt8 × Nat)
  | [], _ => none
  | c :: s, i => if c = 58 ∨ c = 42 then some (c :: s.takeWhile (· ≠ 47), i) else fw s (i + 1)
/-- addChild -/
def addKid (wild : Bool) (kids : List (Tr α)) (k : Tr α) : List (Tr α) :=
  if wild ∧ kids ≠ [] then kids.dropLast ++ [k] ++ kids.getLast?.toList else kids ++ [k]
/-- where a child of this priority moves to -/
def newPos (prs : List Nat) (prio : Nat) : Nat → Nat
  | 0 => 0
  | p + 1 => if prs.getD p 0 % 4294967296 < prio % 4294967296 then newPos prs prio p else p + 1
/-- the element at place pos moves to place np ≤ pos -/
def moveTo {β : Type} (l : List β) (pos np : Nat) : List β := l.take np ++ (l.drop pos).take 1 ++ (l.take pos).drop np ++ l.drop (pos + 1)
/-- incrementChildPrio: the children, the indices, the new place -/
def bump (idx : List UInt8) (kids : List (Tr α)) (pos : Nat) : List UInt8 × List (Tr α) × Nat :=
  let kids1 := kids.modify pos incr
  let prio := ((kids1[pos]?).map pr).getD 0
  let np := newPos (kids1.map pr) prio pos
  (if np ≠ pos then moveTo idx pos np else idx, moveTo kids1 pos np, np)
/-- insertChild on a node: none: not told; some none: a panic; else the node made of it -/
def insT : Nat → T0 → List UInt8 → List UInt8 → Nat → Option (Option T0)
  | 0, _, _, _, _ => none
  | n + 1, .node a tp idx w nt pr h0 f0 kids, path, full, h =>
    match fw path 0 with
    | none => some (some (.node a path idx w nt pr (some h) full kids))
    | some (wc, i) =>
      if wc.length < 2 then some none
      else if wc.head? = some 58 then
        let tp' := if 0 < i then path.take i else tp
        let path' := path.drop i
        let rest := path'.drop wc.length
        if wc.length < path'.length then
          (insT n (.node () [] [] false 0 1 none full []) rest full h).map fun r => r.map fun c2 =>
            .node a tp' idx true nt pr h0 f0 (addKid w kids (.node () wc [] false 2 1 none full [c2]))
        else some (some (.node a tp' idx true nt pr h0 f0 (addKid w kids (.node () wc [] false 2 1 (some h) full []))))
      else if i + wc.length ≠ path.length then some none
      else if tp.getLast? = some 47 then some none
      else if i = 0 ∨ path[i - 1]? ≠ some 47 then some none
      else some (some (.node a (path.take (i - 1)) [47] w nt pr h0 f0 (addKid w kids (.node () [] [] true 3 1 none full [.node () (path.drop (i - 1)) [] false 3 1 (some h) full []]))))
/-- an edge is split behind i bytes -/
def split (t : Tr α) (a : α) (i : Nat) (full : List UInt8) : Tr α :=
  .node t.an (t.path.take i) ((t.path.drop i).take 1) false t.nt t.pr none full [.node a (t.path.drop i) t.idx t.wild 0 (t.pr + 4294967295) t.h t.full t.kids]
def idxOf (c : UInt8) : List UInt8 → Option Nat
  | [] => none
  | d :: l => if c = d then some 0 else (idxOf c l).map (· + 1)
/-- addRoute's loop; none: not told; some none: a panic -/
def walkT : Nat → T0 → List UInt8 → List UInt8 → Nat → Nat → Option (Option T0)
  | 0, _, _, _, _, _ => none
  | n + 1, t0, path, full, pfi, h =>
    let i := lcp path t0.path
    let t := if i < t0.path.length then split t0 () i (full.take (pfi + i)) else t0
    match path.drop i with
    | [] => if t.h.isSome then some none else some (some (.node () t.path t.idx t.wild t.nt t.pr (some h) full t.kids))
    | c :: rest =>
      let path' := c :: rest
      if t.nt = 2 ∧ c = 47 ∧ t.kids.length = 1 then
        match t.kids with
        | [k] => (walkT n k.incr path' full (pfi + t.path.length) h).map fun r => r.map fun k' => t.setKids [k']
        | _ => none
      else match idxOf c t.idx with
      | some j =>
        let b := bump t.idx t.kids j
        match b.2.1[b.2.2]? with
        | some k => (walkT n k path' full (pfi + t.path.length) h).map fun r => r.map fun k' => .node () t.path b.1 t.wild t.nt t.pr t.h t.full (b.2.1.set b.2.2 k')
        | none => none
      | none =>
        if c ≠ 58 ∧ c ≠ 42 ∧ t.nt ≠ 3 then
          let idx' := t.idx ++ [c]
          let kids' := addKid t.wild t.kids (.node () [] [] false 0 0 none full [])
          let b := bump idx' kids' (idx'.length - 1)
          match b.2.1[b.2.2]? with
          | some k => (insT (path'.length + 1) k path' full h).map fun r => r.map fun k' => .node () t.path b.1 t.wild t.nt t.pr t.h t.full (b.2.1.set b.2.2 k')
          | none => none
        else if t.wild then
          match t.kids.getLast? with
          | some k0 =>
            let k := k0.incr
            if k.path.length ≤ path'.length ∧ path'.take k.path.length = k.path ∧ k.nt ≠ 3 ∧ (path'.length ≤ k.path.length ∨ path'[k.path.length]? = some 47) then
              (walkT n k path' full pfi h).map fun r => r.map fun k' => t.setKids (t.kids.dropLast ++ [k'])
            else some none
          | none => none
        else insT (path'.length + 1) t path' full h
/-- addRoute -/
def addT (t : T0) (path : List UInt8) (h : Nat) : Option (Option T0) :=
  let t := t.incr
  if t.path = [] ∧ t.kids = [] then (insT (path.length + 1) t path path h).map fun r => r.map fun t' => .node () t'.path t'.idx t'.wild 1 t'.pr t'.h t'.full t'.kids
  else walkT (4 * path.length + 8) t path path 0 h
def new : T0 := .node () [] [] false 0 0 none [47] []
/-- a list of routes, the numbers from k on: the tree, or the place of the first that is refused -/
def addAll : T0 → List (List UInt8) → Nat → T0 ⊕ Nat
  | t, [], _ => .inl t
  | t, r :: l, k => match addT t r (k + 1) with
    | some (some t') => addAll t' l (k + 1)
    | _ => .inr k
/-! getValue -/
structure Sk where
  path : List UInt8
  node : T0
  cnt : Nat
structure Res where
  h : Option Nat
  ps : List (List UInt8 × List UInt8)
  tsr : Bool
  full : List UInt8
def noIdx : T0 → T0 | .node a p _ w n q h f k => .node a p [] w n q h f k
end Gt

/- gin's tree in memory. -/
set_option maxRecDepth 20000
namespace Go.Proofs
open Go Bw Gt
def nodeR (path idx : List UInt8) (wild : Bool) (nt pr : Nat) (kv hv : Value) (full : List UInt8) : List Value := [S path, S idx, .bool wild, .int .u8 (nt : Int), .int .u32 ((pr % 4294967296 : Nat) : Int), kv, hv, S full]
theorem nodeR_one {path idx wild nt pr kv hv full} (h1 : kv.oneCell' = true) (h2 : hv.oneCell' = true) : ∀ v ∈ nodeR path idx wild nt pr kv hv full, v.oneCell' = true := by
 intro v hm
 simp only [nodeR, List.mem_cons, List.not_mem_nil, or_false] at hm
 rcases hm with rfl | rfl | rfl | rfl | rfl | rfl | rfl | rfl <;> first | rfl | exact h1 | exact h2
/-- handlers: none, or a number in a row of its own -/
inductive HV : Option Nat → Value → SH → Prop
 | nil : HV none (.slice none 0 0) []
 | row {k hb : Nat} : HV (some k) (.slice (some ⟨hb, 0, none⟩) 1 1) [⟨hb, true, .row [I (k : Int)] 3 (0, 0)⟩]
theorem HV.slice {h v H} (x : HV h v H) : ∃ ad l c, v = .slice ad l c ∧ ad.isNone = h.isNone := by
 cases x with
 | nil => exact ⟨_, _, _, rfl, rfl⟩
 | row => exact ⟨_, _, _, rfl, rfl⟩
theorem HV.one {h v H} (x : HV h v H) : v.oneCell' = true := by cases x <;> rfl
theorem HV.w {h v H} (x : HV h v H) : ∀ e ∈ H, e.w = true := by
 cases x with
 | nil => intro e he; cases he
 | row => intro e he; rw [List.mem_singleton.1 he]
mutual
inductive HT : T0 → Nat → SH → Prop
 | mk {path idx : List UInt8} {wild : Bool} {nt pr : Nat} {h : Option Nat} {full : List UInt8} {kids : List T0} {nb : Nat} {bs : List Nat} {kv hv : Value} {Hs Hh Hk : SH}
   (hs : Own 83 1 kv kids.length (bs.map (Pt · 0)) Hs) (hh : HV h hv Hh) (hk : HTs kids bs Hk) : HT (.node () path idx wild nt pr h full kids) nb (⟨nb, true, .row (nodeR path idx wild nt pr kv hv full) 94 (0, 0)⟩ :: (Hs ++ (Hh ++ Hk)))
inductive HTs : List T0 → List Nat → SH → Prop
 | nil : HTs [] [] []
 | cons {t : T0} {b : Nat} {H : SH} {ts : List T0} {bs : List Nat} {Hs : SH} (h : HT t b H) (hs : HTs ts bs Hs) : HTs (t :: ts) (b :: bs) (H ++ Hs)
end
theorem Own.slice1 {e sz v n xs Hs} (h : Own e sz v n xs Hs) : v.oneCell' = true := by cases h <;> rfl
theorem HTs.len {ts bs H} : HTs ts bs H → bs.length = ts.length
 | .nil => rfl
 | .cons _ hs => by simp [hs.len]
theorem HTs.app : ∀ {ts : List T0} {bs : List Nat} {H : SH} {ts' : List T0} {bs' : List Nat} {H' : SH}, HTs ts bs H → HTs ts' bs' H' → HTs (ts ++ ts') (bs ++ bs') (H ++ H')
 | _, _, _, _, _, _, .nil, h => h
 | _, _, _, _, _, _, .cons h hs, h' => by
  rw [List.append_assoc]; exact .cons h (hs.app h')
theorem HTs.split : ∀ (n : Nat) {ts : List T0} {bs : List Nat} {H : SH}, HTs ts bs H → ∃ H1 H2, HTs (ts.take n) (bs.take n) H1 ∧ HTs (ts.drop n) (bs.drop n) H2 ∧ H = H1 ++ H2
 | 0, _, _, H, h => ⟨[], H, .nil, h, rfl⟩
 | n + 1, _, _, _, .nil => ⟨[], [], by simpa using .nil, by simpa using .nil, rfl⟩
 | n + 1, _, _, _, .cons (H := H) h hs => by
  obtain ⟨H1, H2, a, b, c⟩ := hs.split n
  exact ⟨H ++ H1, H2, .cons h a, b, by rw [c, List.append_assoc]⟩
/-- one of them -/
theorem HTs.foc {ts bs H} (h : HTs ts bs H) {j : Nat} {k : T0} (hj : ts[j]? = some k) : ∃ b H1 H2, bs[j]? = some b ∧ HT k b H1 ∧ H.Perm (H1 ++ H2) ∧ ∀ k' H1', HT k' b H1' → ∃ H', HTs (ts.set j k') bs H' ∧ H'.Perm (H1' ++ H2) := by
 have hlt : j < ts.length := (List.getElem?_eq_some_iff.1 hj).1
 have hlb : j < bs.length := by rw [h.len]; exact hlt
 have hts : ts = ts.take j ++ k :: ts.drop (j + 1) := by
  conv => lhs; rw [← List.take_append_drop j ts]
  rw [List.drop_eq_getElem_cons hlt]
  rw [List.getElem?_eq_getElem hlt] at hj
  rw [Option.some.inj hj]
 have hbs : bs = bs.take j ++ bs[j] :: bs.drop (j + 1) := by
  conv => lhs; rw [← List.take_append_drop j bs]
  rw [List.drop_eq_getElem_cons hlb]
 obtain ⟨A, B, h1, h2, rfl⟩ := h.split j
 rw [List.drop_eq_getElem_cons hlt, List.drop_eq_getElem_cons hlb] at h2
 rw [List.getElem?_eq_getElem hlt] at hj
 rw [Option.some.inj hj] at h2
 cases h2 with
 | cons hk hr =>
  rename_i K R
  refine ⟨bs[j], K, A ++ R, List.getElem?_eq_getElem hlb, hk, ?_, fun k' H1' hk' => ⟨A ++ (H1' ++ R), ?_, ?_⟩⟩
  ·exact List.perm_append_comm_assoc _ _ _
  ·have := h1.app (.cons hk' hr)
   rw [← hbs] at this
   have e : ts.set j k' = ts.take j ++ k' :: ts.drop (j + 1) := by
    rw [List.set_eq_take_append_cons_drop, if_pos hlt]
   rw [e]; exact this
  ·exact List.perm_append_comm_assoc _ _ _
theorem HTs.one {t b H} (h : HT t b H) : HTs [t] [b] H := by have := HTs.cons h .nil; rwa [List.append_nil] at this
theorem HTs.move {ts bs H} (h : HTs ts bs H) {pos np : Nat} (hnp : np ≤ pos) : ∃ H', HTs (moveTo ts pos np) (moveTo bs pos np) H' ∧ H'.Perm H := by
 obtain ⟨A, B, h1, h2, e1⟩ := h.split pos
 obtain ⟨A1, A2, h3, h4, e2⟩ := h1.split np
 obtain ⟨B1, B2, h5, h6, e3⟩ := h2.split 1
 rw [List.take_take, Nat.min_eq_left hnp] at h3
 rw [List.take_take, Nat.min_eq_left hnp] at h3
 rw [List.drop_drop] at h6
 rw [List.drop_drop] at h6
 refine ⟨A1 ++ B1 ++ A2 ++ B2, ((h3.app h5).app h4).app h6, ?_⟩
 rw [e1, e2, e3]
 simp only [List.append_assoc]
 exact (List.perm_append_comm_assoc B1 A2 B2).append_left A1
theorem HT.w : ∀ {t b H}, HT t b H → ∀ e ∈ H, e.w = true := by
 intro t b H h
 refine HT.rec (motive_1 := fun t b H _ => ∀ e ∈ H, e.w = true) (motive_2 := fun ts bs H _ => ∀ e ∈ H, e.w = true) ?_ ?_ ?_ h
 ·intro path idx wild nt pr h full kids nb bs kv hv Hs Hh Hk hs hh hk ih e he
  simp only [List.mem_cons, List.mem_append] at he
  rcases he with rfl | he | he | he
  ·rfl
  ·exact hs.w e he
  ·exact hh.w e he
  ·exact ih e he
 ·intro e he; cases he
 ·intro t b H ts bs Hs h hs ih1 ih2 e he
  rcases List.mem_append.1 he with he | he
  ·exact ih1 e he
  ·exact ih2 e he
theorem HTs.w {ts bs H} (h : HTs ts bs H) : ∀ e ∈ H, e.w = true := by
 refine HTs.rec (motive_1 := fun t b H _ => ∀ e ∈ H, e.w = true) (motive_2 := fun ts bs H _ => ∀ e ∈ H, e.w = true) ?_ ?_ ?_ h
 ·intro path idx wild nt pr h full kids nb bs kv hv Hs Hh Hk hs hh hk ih e he
  simp only [List.mem_cons, List.mem_append] at he
  rcases he with rfl | he | he | he
  ·rfl
  ·exact hs.w e he
  ·exact hh.w e he
  ·exact ih e he
 ·intro e he; cases he
 ·intro t b H ts bs Hs h hs ih1 ih2 e he
  rcases List.mem_append.1 he with he | he
  ·exact ih1 e he
  ·exact ih2 e he
theorem cellB {w : World} {b off : Nat} {l : List Value} {t : TypeId} {fz : Nat × Nat} {v : Value} (h : w.heap[b]? = some (Blk.den (.row l t fz))) (hv : nth l off = some v) : w.cell? ⟨b, off, none⟩ = some v := by
 simp only [Blk.den] at h
 simp only [World.cell?, h]
 rw [nth_eq] at hv
 simp [hv]
theorem BS2 {P : Program} {T e : Nat} {z a b : Value} (hT : P.underlying T = some (.slice e)) (hs : ∀ w, (Go.sizeOf e).run P w = .ok 1 w) (hz : ∀ w, (zeroValue e).run P w = .ok z w) (ha : a.oneCell' = true) (hb : b.oneCell' = true) (w : World) :
  (Instr.buildSlice T 2 [(0, a), (1, b)].toArray).run P w = .ok (.slice (some ⟨w.heap.size, 0, none⟩) 2 2) { w with heap := w.heap.push (.cells [a, b].toArray e) } := by
 have hc : a.cells = #[a] := by cases a <;> first | rfl | (simp [Value.oneCell'] at ha)
 have hc2 : b.cells = #[b] := by cases b <;> first | rfl | (simp [Value.oneCell'] at hb)
 have h1 : Array.range 2 = #[0, 1] := rfl
 simp [Instr.buildSlice, underlying, hT, hs, hz, Instr.fill, hc, hc2, newRow, h1]
theorem BS1 {P : Program} {T e : Nat} {z v : Value} (hT : P.underlying T = some (.slice e)) (hs : ∀ w, (Go.sizeOf e).run P w = .ok 1 w) (hz : ∀ w, (zeroValue e).run P w = .ok z w) (hv : v.oneCell' = true) (w : World) :
  (Instr.buildSlice T 1 [(0, v)].toArray).run P w = .ok (.slice (some ⟨w.heap.size, 0, none⟩) 1 1) { w with heap := w.heap.push (.cells [v].toArray e) } := BS.one hT hs hz hv w
/-- addChild on the blocks -/
def addB (wild : Bool) (bs : List Nat) (cb : Nat) : List Nat := if wild = true ∧ bs ≠ [] then bs.dropLast ++ [cb] ++ bs.getLast?.toList else bs ++ [cb]
theorem lastD {α : Type} (l : List α) : l.getLast?.toList = l.drop (l.length - 1) := by
 rcases List.eq_nil_or_concat l with rfl | ⟨p, x, rfl⟩
 ·rfl
 ·simp
theorem HTs.add {wild : Bool} {ts : List T0} {bs : List Nat} {H : SH} (h : HTs ts bs H) {t : T0} {b : Nat} {Ht : SH} (ht : HT t b Ht) : ∃ H', HTs (addKid wild ts t) (addB wild bs b) H' ∧ H'.Perm (Ht ++ H) := by
 have hl := h.len
 by_cases hc : wild = true ∧ ts ≠ []
 ·have hb : bs ≠ [] := fun e => hc.2 (by rw [e] at hl; exact List.length_eq_zero_iff.1 hl.symm)
  rw [addKid, if_pos hc, addB, if_pos ⟨hc.1, hb⟩]
  obtain ⟨A, B, h1, h2, rfl⟩ := h.split (ts.length - 1)
  have e1 := lastD ts
  have e2 := lastD bs
  rw [hl] at e2
  rw [List.dropLast_eq_take, List.dropLast_eq_take, e1, e2, hl]
  refine ⟨_, (h1.app (HTs.one ht)).app h2, ?_⟩
  rw [List.append_assoc]
  exact List.perm_append_comm_assoc _ _ _
 ·have hb : ¬ (wild = true ∧ bs ≠ []) := fun h1 => hc ⟨h1.1, fun e => h1.2 (by rw [e] at hl; exact List.length_eq_zero_iff.1 hl)⟩
  rw [addKid, if_neg hc, addB, if_neg hb]
  exact ⟨_, h.app (HTs.one ht), List.perm_append_comm⟩
end Go.Proofs

/- addChild. Printed by wip/mk_gu3.py. -/
set_option maxRecDepth 20000
namespace Go.Proofs
open Go Bw
theorem _root_.Bw.Own.cut {e sz n cap i : Nat} {ad : Option Addr} {xs : List Value} {Hs : SH} (h : Own e sz (.slice ad n cap) n xs Hs) (hi : i ≤ n) : Own e sz (.slice ad i cap) i (xs.take (i * sz)) Hs := by
 generalize hv : Value.slice ad n cap = v at h
 cases h with
 | nil =>
  cases hv
  have : i = 0 := by omega
  subst this
  simpa using Own.nil
 | @row b _ _ _ spare hn hc hle =>
  cases hv
  have e1 : xs ++ spare = xs.take (i * sz) ++ (xs.drop (i * sz) ++ spare) := by rw [← List.append_assoc, List.take_append_drop]
  rw [e1] at hc ⊢
  exact .row (by rw [List.length_take, hn]; exact Nat.min_eq_left (Nat.mul_le_mul_right _ hi)) hc (by omega)
theorem f82_any (w : World) (D : Nat → Prop) (nb cb : Nat) (path idx : List UInt8) (wild : Bool) (nt pr : Nat) (hv : Value) (full : List UInt8) (kv : Value) (bs : List Nat) (Hs : SH) (hb : bs.length ≤ 100000) (hs : Own 83 1 kv bs.length (bs.map (Pt · 0)) Hs) (hH : HF w D (⟨nb, true, .row (nodeR path idx wild nt pr kv hv full) 94 (0, 0)⟩ :: Hs) w) :
  Calls Tryd.prog 65 #[Pt nb 0, Pt cb 0] w fun e w' => e = .returned (.tuple #[]) ∧ ∃ kv' Hs', Own 83 1 kv' (bs.length + 1) ((addB wild bs cb).map (Pt · 0)) Hs' ∧ HF w D (⟨nb, true, .row (nodeR path idx wild nt pr kv' hv full) 94 (0, 0)⟩ :: Hs') w' := by
 obtain ⟨ad, cap, rfl⟩ := hs.slice
 have hle := hs.le
 refine enter D (⟨nb, true, .row (nodeR path idx wild nt pr (.slice ad bs.length cap) hv full) 94 (0, 0)⟩ :: Hs) Tryd.func65 rfl Tryd.ntmps65 rfl rfl hH fun c hc => ?_
 subst hc
 refine GC.seq ?_
 refine GC.join (fun fr' H' => ∃ t : Bool, (t = true ↔ wild = true ∧ bs ≠ []) ∧ Sub [(0, Pt nb 0), (1, Pt cb 0), (16, .bool t)] fr' ∧ H' = ⟨nb, true, .row (nodeR path idx wild nt pr (.slice ad bs.length cap) hv full) 94 (0, 0)⟩ :: Hs) (fun J16 => ?_) ?_
 ·refine GC.reg ?_
  refine G.m1 ?_
  refine G.v (V.nc rfl) rfl ?_
  refine G.v (V.fa F94_2 rfl) rfl ?_
  refine G.v (V.ld (b := nb) (off := 0 + 2) (wf := true) (l := nodeR path idx wild nt pr (.slice ad bs.length cap) hv full) (T := 94) (fz := (0, 0)) (v := .bool wild) Tryd.isAgg4 rfl (.head _) rfl) rfl ?_
  refine G.m1 ?_
  refine G.bc 9 rfl (fun h9 => ?_) (fun h9 => ?_)
  ·refine G.m5 ?_
   refine G.vg rfl rfl (V.nc rfl) rfl ?_
   refine G.vg rfl rfl (V.fa F94_5 rfl) rfl ?_
   refine G.vg rfl rfl (V.ld (b := nb) (off := 0 + 5) (wf := true) (l := nodeR path idx wild nt pr (.slice ad bs.length cap) hv full) (T := 94) (fz := (0, 0)) (v := (.slice ad bs.length cap)) Tryd.isAgg90 rfl (.head _) rfl) rfl ?_
   refine G.vg rfl rfl (V.lenL Tryd.underlying90 rfl) rfl ?_
   refine G.vg rfl rfl (V.gt rfl rfl) rfl ?_
   refine G.m3 ?_
   refine G.nil ?_
   refine J16 _ _ ⟨_, ?_, .of rfl, rfl⟩
   rw [decide_eq_true_eq]
   constructor
   ·intro h; exact ⟨h9, fun e => by rw [e] at h; simp at h⟩
   ·intro h; have := List.length_pos_iff.2 h.2; omega
  ·refine G.s1 ?_
   refine G.s1 ?_
   refine G.s1 ?_
   refine G.s1 ?_
   refine G.s1 ?_
   refine G.s1 ?_
   refine G.m4 ?_
   refine G.nil ?_
   exact J16 _ _ ⟨false, ⟨fun h => (by cases h), fun h => by rw [h9] at h; cases h.1⟩, .of rfl, rfl⟩
 rintro fr' H' ⟨t, ht, hs16, rfl⟩
 refine GC.weak hs16 ?_
 clear hs16
 refine GC.cond rfl (fun h16 => ?_) (fun h16 => ?_)
 ·refine GC.seq ?_
  have hw1 := ht.1 h16
  obtain ⟨p, x, rfl⟩ : ∃ p x, bs = p ++ [x] := by
   rcases List.eq_nil_or_concat bs with e | ⟨p, x, e⟩
   ·exact absurd e hw1.2
   ·exact ⟨p, x, by rw [e, List.concat_eq_append]⟩
  obtain ⟨rb, cap2, spare, e1, rfl⟩ := hs.at (i := 0) (by simp)
  cases e1
  refine GC.regQ mixed (by kernel_rfl) ?_
  refine GQ.v (V.mv rfl) rfl ?_
  refine GQ.v (V.nc rfl) rfl ?_
  refine GQ.v (V.fa F94_5 rfl) rfl ?_
  refine GQ.v (V.ld (b := nb) (off := 0 + 5) (wf := true) (l := nodeR path idx wild nt pr (.slice (some ⟨rb, 0, none⟩) (p ++ [x]).length cap) hv full) (T := 94) (fz := (0, 0)) (v := (.slice (some ⟨rb, 0, none⟩) (p ++ [x]).length cap)) Tryd.isAgg90 rfl (.head _) rfl) rfl ?_
  refine GQ.v (V.mv rfl) rfl ?_
  refine GQ.v (V.nc rfl) rfl ?_
  refine GQ.v (V.fa F94_5 rfl) rfl ?_
  refine GQ.v (V.ld (b := nb) (off := 0 + 5) (wf := true) (l := nodeR path idx wild nt pr (.slice (some ⟨rb, 0, none⟩) (p ++ [x]).length cap) hv full) (T := 94) (fz := (0, 0)) (v := (.slice (some ⟨rb, 0, none⟩) (p ++ [x]).length cap)) Tryd.isAgg90 rfl (.head _) rfl) rfl ?_
  refine GQ.v (V.lenL Tryd.underlying90 rfl) rfl ?_
  refine GQ.v (V.subI (r := ((p.length : Nat) : Int)) rfl rfl (by simp) (by omega) (by simp at hb; omega)) rfl ?_
  refine GQ.v (V.ia (i := p.length) Tryd.underlying90 Tryd.sizeOf83 rfl rfl (by simp)) rfl ?_
  refine GQ.v (V.ld (b := rb) (off := 0 + p.length * 1) (wf := true) (l := (p ++ [x]).map (Pt · 0) ++ spare) (T := 83) (fz := (0, 0)) (v := Pt x 0) Tryd.isAgg83 rfl (.tail _ (.head _)) (by rw [nth_eq]; simp)) rfl ?_
  refine GQ.v (V.asg rfl) rfl ?_
  refine GQ.nil ?_
  refine GC.regM 18 (fun w1 => w1.heap[nb]? = some (Blk.den (.row (nodeR path idx wild nt pr (.slice (some ⟨rb, 0, none⟩) (p ++ [x]).length cap) hv full) 94 (0, 0)))) mixed (by kernel_rfl) ?_
  refine GM.p 0 rfl (by kernel_rfl) (by kernel_rfl) (fun w1 h1 => h1.has ⟨nb, true, .row (nodeR path idx wild nt pr (.slice (some ⟨rb, 0, none⟩) (p ++ [x]).length cap) hv full) 94 (0, 0)⟩ (by first | exact .head _ | exact .tail _ (.head _))) (fun _ => V.mv rfl) rfl ?_
  refine GM.p 1 rfl (by kernel_rfl) (by kernel_rfl) (fun w1 h1 => h1.has ⟨nb, true, .row (nodeR path idx wild nt pr (.slice (some ⟨rb, 0, none⟩) (p ++ [x]).length cap) hv full) 94 (0, 0)⟩ (by first | exact .head _ | exact .tail _ (.head _))) (fun _ => V.mv rfl) rfl ?_
  refine GM.p 2 rfl (by kernel_rfl) (by kernel_rfl) (fun w1 h1 => h1.has ⟨nb, true, .row (nodeR path idx wild nt pr (.slice (some ⟨rb, 0, none⟩) (p ++ [x]).length cap) hv full) 94 (0, 0)⟩ (by first | exact .head _ | exact .tail _ (.head _))) (fun _ => V.nc rfl) rfl ?_
  refine GM.p 3 rfl (by kernel_rfl) (by kernel_rfl) (fun w1 h1 => h1.has ⟨nb, true, .row (nodeR path idx wild nt pr (.slice (some ⟨rb, 0, none⟩) (p ++ [x]).length cap) hv full) 94 (0, 0)⟩ (by first | exact .head _ | exact .tail _ (.head _))) (fun _ => V.fa F94_5 rfl) rfl ?_
  refine GM.ld 4 rfl (by kernel_rfl) (by kernel_rfl) (fun w1 h1 => h1.has ⟨nb, true, .row (nodeR path idx wild nt pr (.slice (some ⟨rb, 0, none⟩) (p ++ [x]).length cap) hv full) 94 (0, 0)⟩ (by first | exact .head _ | exact .tail _ (.head _))) Tryd.isAgg90 rfl (fun w1 h1 => cellB h1 rfl) rfl ?_
  refine GM.p 5 rfl (by kernel_rfl) (by kernel_rfl) (fun w1 h1 => h1.has ⟨nb, true, .row (nodeR path idx wild nt pr (.slice (some ⟨rb, 0, none⟩) (p ++ [x]).length cap) hv full) 94 (0, 0)⟩ (by first | exact .head _ | exact .tail _ (.head _))) (fun _ => V.mv rfl) rfl ?_
  refine GM.p 6 rfl (by kernel_rfl) (by kernel_rfl) (fun w1 h1 => h1.has ⟨nb, true, .row (nodeR path idx wild nt pr (.slice (some ⟨rb, 0, none⟩) (p ++ [x]).length cap) hv full) 94 (0, 0)⟩ (by first | exact .head _ | exact .tail _ (.head _))) (fun _ => V.nc rfl) rfl ?_
  refine GM.p 7 rfl (by kernel_rfl) (by kernel_rfl) (fun w1 h1 => h1.has ⟨nb, true, .row (nodeR path idx wild nt pr (.slice (some ⟨rb, 0, none⟩) (p ++ [x]).length cap) hv full) 94 (0, 0)⟩ (by first | exact .head _ | exact .tail _ (.head _))) (fun _ => V.fa F94_5 rfl) rfl ?_
  refine GM.ld 8 rfl (by kernel_rfl) (by kernel_rfl) (fun w1 h1 => h1.has ⟨nb, true, .row (nodeR path idx wild nt pr (.slice (some ⟨rb, 0, none⟩) (p ++ [x]).length cap) hv full) 94 (0, 0)⟩ (by first | exact .head _ | exact .tail _ (.head _))) Tryd.isAgg90 rfl (fun w1 h1 => cellB h1 rfl) rfl ?_
  refine GM.p 9 rfl (by kernel_rfl) (by kernel_rfl) (fun w1 h1 => h1.has ⟨nb, true, .row (nodeR path idx wild nt pr (.slice (some ⟨rb, 0, none⟩) (p ++ [x]).length cap) hv full) 94 (0, 0)⟩ (by first | exact .head _ | exact .tail _ (.head _))) (fun _ => V.lenL Tryd.underlying90 rfl) rfl ?_
  refine GM.p 10 rfl (by kernel_rfl) (by kernel_rfl) (fun w1 h1 => h1.has ⟨nb, true, .row (nodeR path idx wild nt pr (.slice (some ⟨rb, 0, none⟩) (p ++ [x]).length cap) hv full) 94 (0, 0)⟩ (by first | exact .head _ | exact .tail _ (.head _))) (fun _ => V.subI (r := ((p.length : Nat) : Int)) rfl rfl (by simp) (by omega) (by simp at hb; omega)) rfl ?_
  refine GM.p 11 rfl (by kernel_rfl) (by kernel_rfl) (fun w1 h1 => h1.has ⟨nb, true, .row (nodeR path idx wild nt pr (.slice (some ⟨rb, 0, none⟩) (p ++ [x]).length cap) hv full) 94 (0, 0)⟩ (by first | exact .head _ | exact .tail _ (.head _))) (fun _ => V.slTH (i := p.length) Tryd.underlying90 Tryd.sizeOf83 rfl rfl (by simp at hle; omega)) rfl ?_
  refine GM.p 12 rfl (by kernel_rfl) (by kernel_rfl) (fun w1 h1 => h1.has ⟨nb, true, .row (nodeR path idx wild nt pr (.slice (some ⟨rb, 0, none⟩) (p ++ [x]).length cap) hv full) 94 (0, 0)⟩ (by first | exact .head _ | exact .tail _ (.head _))) (fun _ => V.mv rfl) rfl ?_
  refine GM.p 13 rfl (by kernel_rfl) (by kernel_rfl) (fun w1 h1 => h1.has ⟨nb, true, .row (nodeR path idx wild nt pr (.slice (some ⟨rb, 0, none⟩) (p ++ [x]).length cap) hv full) 94 (0, 0)⟩ (by first | exact .head _ | exact .tail _ (.head _))) (fun _ => V.mv rfl) rfl ?_
  refine GM.one 14 rfl (by kernel_rfl) ?_
  refine GMB.bs (vs := [Pt cb 0, Pt x 0]) (BS2 Tryd.underlying90 Tryd.sizeOf83 Tryd.zeroValue83 rfl rfl) rfl (fun w1 h1 => h1.has ⟨nb, true, .row (nodeR path idx wild nt pr (.slice (some ⟨rb, 0, none⟩) (p ++ [x]).length cap) hv full) 94 (0, 0)⟩ (.head _)) rfl (fun sb => ?_)
  refine GM.one 15 rfl (by kernel_rfl) ?_
  have hcut := hs.cut (i := p.length) (by simp)
  refine GMB.app (i := Tryd.t83) (sz := 1) (by_ := 8) Tryd.underlying90 rfl rfl rfl rfl rfl rfl rfl hcut (H' := [⟨sb, true, .row [Pt cb 0, Pt x 0] 83 (0, 0)⟩, ⟨nb, true, .row (nodeR path idx wild nt pr (.slice (some ⟨rb, 0, none⟩) (p ++ [x]).length cap) hv full) 94 (0, 0)⟩]) (List.perm_append_comm (l₁ := ([⟨sb, true, .row [Pt cb 0, Pt x 0] 83 (0, 0)⟩, ⟨nb, true, .row (nodeR path idx wild nt pr (.slice (some ⟨rb, 0, none⟩) (p ++ [x]).length cap) hv full) 94 (0, 0)⟩] : SH))) (src_row (vs := [Pt cb 0, Pt x 0]) (r := []) (.head _)) rfl (by simp [Value.oneCell']) (by omega) (by simp at hb; omega) (by simp at hb; omega) (fun w1 h1 => h1.has ⟨nb, true, .row (nodeR path idx wild nt pr (.slice (some ⟨rb, 0, none⟩) (p ++ [x]).length cap) hv full) 94 (0, 0)⟩ (.tail _ (.head _))) rfl (fun kv2 Hs2 hown2 => ?_)
  refine GM.p 16 rfl (by kernel_rfl) (by kernel_rfl) (fun w1 h1 => h1.has ⟨nb, true, .row (nodeR path idx wild nt pr (.slice (some ⟨rb, 0, none⟩) (p ++ [x]).length cap) hv full) 94 (0, 0)⟩ (by first | exact .head _ | exact .tail _ (.head _))) (fun _ => V.nc rfl) rfl ?_
  refine GM.p 17 rfl (by kernel_rfl) (by kernel_rfl) (fun w1 h1 => h1.has ⟨nb, true, .row (nodeR path idx wild nt pr (.slice (some ⟨rb, 0, none⟩) (p ++ [x]).length cap) hv full) 94 (0, 0)⟩ (by first | exact .head _ | exact .tail _ (.head _))) (fun _ => V.fa F94_5 rfl) rfl ?_
  refine GM.tl (by kernel_rfl) ?_
  refine G.st (b := nb) (off := 0 + 5) (l := nodeR path idx wild nt pr (.slice (some ⟨rb, 0, none⟩) (p ++ [x]).length cap) hv full) (T := 94) (fz := (0, 0)) (v := kv2) Tryd.sizeOf90 rfl rfl (Own.slice1 hown2) (.s .z) rfl rfl ?_
  refine G.nil ?_
  refine GC.end0 rfl fun w' hw' => ⟨rfl, kv2, Hs2, ?_, hw'.sub (List.sublist_cons_self _ _)⟩
  have e : ((addB wild (p ++ [x]) cb).map (Pt · 0)) = ((p ++ [x]).map (Pt · 0)).take (p.length * 1) ++ [Pt cb 0, Pt x 0] := by
   rw [addB, if_pos hw1]
   simp
  rw [e]
  have e3 : (p ++ [x]).length + 1 = p.length + 2 := by simp
  rw [e3]
  exact hown2
 refine GC.reg ?_
 refine G.m1 ?_
 refine G.m1 ?_
 refine G.v (V.nc rfl) rfl ?_
 refine G.v (V.fa F94_5 rfl) rfl ?_
 refine G.v (V.ld (b := nb) (off := 0 + 5) (wf := true) (l := nodeR path idx wild nt pr (.slice ad bs.length cap) hv full) (T := 94) (fz := (0, 0)) (v := (.slice ad bs.length cap)) Tryd.isAgg90 rfl (.head _) rfl) rfl ?_
 refine G.m1 ?_
 refine G.bs (BS.one Tryd.underlying90 Tryd.sizeOf83 Tryd.zeroValue83 (v := Pt cb 0) rfl) rfl rfl (fun sb hsb => ?_)
 refine G.app (i := Tryd.t83) (sz := 1) (by_ := 8) Tryd.underlying90 rfl rfl rfl rfl rfl rfl rfl hs (H' := [⟨sb, true, .row [Pt cb 0] 83 (0, 0)⟩, ⟨nb, true, .row (nodeR path idx wild nt pr (.slice ad bs.length cap) hv full) 94 (0, 0)⟩]) (List.perm_append_comm (l₁ := ([⟨sb, true, .row [Pt cb 0] 83 (0, 0)⟩, ⟨nb, true, .row (nodeR path idx wild nt pr (.slice ad bs.length cap) hv full) 94 (0, 0)⟩] : SH))) (src_row (vs := [Pt cb 0]) (r := []) (.head _)) rfl (by simp [Value.oneCell']) (by omega) (by omega) (by omega) rfl (fun kv2 Hs2 hown2 => ?_)
 refine G.v (V.nc rfl) rfl ?_
 refine G.v (V.fa F94_5 rfl) rfl ?_
 refine G.st (b := nb) (off := 0 + 5) (l := nodeR path idx wild nt pr (.slice ad bs.length cap) hv full) (T := 94) (fz := (0, 0)) (v := kv2) Tryd.sizeOf90 rfl rfl (Own.slice1 hown2) (.s .z) rfl rfl ?_
 refine G.nil ?_
 refine GC.end0 rfl fun w' hw' => ⟨rfl, kv2, Hs2, ?_, hw'.sub (List.sublist_cons_self _ _)⟩
 have hn : ¬ (wild = true ∧ bs ≠ []) := fun h => by rw [ht.2 h] at h16; cases h16
 rw [addB, if_neg hn, List.map_append]
 exact hown2
end Go.Proofs

/- Where a child moves to: lists. No program in sight. -/
namespace Gt
theorem moveTo_get {β : Type} (l : List β) {pos np : Nat} (hnp : np ≤ pos) (hpos : pos < l.length) (i : Nat) : (moveTo l pos np)[i]? = if i < np then l[i]? else if i = np then l[pos]? else if i ≤ pos then l[i - 1]? else l[i]? := by
  unfold moveTo
  have h1 : (l.take np).length = np := by simp; omega
  have h2 : ((l.drop pos).take 1).length = 1 := by simp; omega
  have h3 : ((l.take pos).drop np).length = pos - np := by simp; omega
  rw [List.append_assoc, List.append_assoc]
  by_cases a : i < np
  · rw [if_pos a, List.getElem?_append_left (by omega), List.getElem?_take_of_lt a]
  rw [if_neg a, List.getElem?_append_right (by omega), h1]
  by_cases b : i = np
  · subst b
    rw [if_pos rfl, List.getElem?_append_left (by omega), Nat.sub_self, List.getElem?_take_of_lt (by omega), List.getElem?_drop]
    rfl
  rw [if_neg b, List.getElem?_append_right (by omega), h2]
  by_cases c : i ≤ pos
  · rw [if_pos c, List.getElem?_append_left (by omega), List.getElem?_drop, List.getElem?_take_of_lt (by omega)]
    congr 1; omega
  · rw [if_neg c, List.getElem?_append_right (by omega), h3, List.getElem?_drop]
    congr 1; omega
theorem moveTo_self {β : Type} (l : List β) {pos : Nat} (hpos : pos < l.length) : moveTo l pos pos = l := by
  apply List.ext_getElem?
  intro i
  rw [moveTo_get l (Nat.le_refl _) hpos]
  by_cases a : i < pos
  · rw [if_pos a]
  · rw [if_neg a]
    by_cases b : i = pos
    · rw [if_pos b, b]
    · rw [if_neg b, if_neg (by omega)]
theorem moveTo_len {β : Type} (l : List β) {pos np : Nat} (hnp : np ≤ pos) (hpos : pos < l.length) : (moveTo l pos np).length = l.length := by
  unfold moveTo
  simp
  omega
theorem moveTo_swap {β : Type} (l : List β) {pos j : Nat} (hj : 0 < j) (hjp : j ≤ pos) (hpos : pos < l.length) {x y : β} (hx : l[pos]? = some x) (hy : l[j - 1]? = some y) :
    ((moveTo l pos j).set (j - 1) x).set j y = moveTo l pos (j - 1) := by
  apply List.ext_getElem?
  intro i
  have hl := moveTo_len l hjp hpos
  rw [moveTo_get l (by omega) hpos, List.getElem?_set, List.length_set, hl]
  by_cases a : j = i
  · subst a
    rw [if_pos rfl, if_pos (by omega), if_neg (by omega), if_neg (by omega), if_pos hjp, hy]
  rw [if_neg a, List.getElem?_set, hl]
  by_cases b : j - 1 = i
  · subst b
    rw [if_pos rfl, if_pos (by omega), if_neg (by omega), if_pos rfl, hx]
  rw [if_neg b, moveTo_get l hjp hpos]
  by_cases c : i < j
  · rw [if_pos c, if_pos (by omega)]
  · rw [if_neg c, if_neg (by omega : ¬ i = j), if_neg (by omega : ¬ i < j - 1), if_neg (by omega : ¬ i = j - 1)]
theorem modify_set {β : Type} {l : List β} {i : Nat} {x : β} (f : β → β) (h : l[i]? = some x) : l.modify i f = l.set i (f x) := by
  apply List.ext_getElem?
  intro j
  have hi := (List.getElem?_eq_some_iff.1 h).1
  rw [List.getElem?_modify, List.getElem?_set]
  by_cases e : i = j
  · subst e; rw [if_pos rfl, if_pos hi, h]; simp
  · rw [if_neg e]; simp [e]
theorem newPos_le (prs : List Nat) (prio : Nat) : ∀ p, newPos prs prio p ≤ p
  | 0 => Nat.le_refl _
  | p + 1 => by
    unfold newPos
    split
    · have := newPos_le prs prio p; omega
    · exact Nat.le_refl _
end Gt
namespace Go.Proofs
open Go Bw Gt
theorem wrapU32 (n : Nat) : IntKind.u32.wrap (((n % 4294967296 : Nat) : Int) + 1) = (((n + 1) % 4294967296 : Nat) : Int) := by
  unfold IntKind.wrap
  simp [IntKind.bits, IntKind.signed]
theorem wrapU32m (n : Nat) : IntKind.u32.wrap (((n % 4294967296 : Nat) : Int) - 1) = (((n + 4294967295) % 4294967296 : Nat) : Int) := by
  unfold IntKind.wrap
  simp [IntKind.bits, IntKind.signed]
  omega
end Go.Proofs

/- A child's node in memory. -/
set_option maxRecDepth 20000
namespace Go.Proofs
open Go Bw Gt
theorem HTs.mem {ts bs H} (h : HTs ts bs H) {j : Nat} {t : T0} (hj : ts[j]? = some t) : ∃ b kv hv, bs[j]? = some b ∧ (⟨b, true, .row (nodeR t.path t.idx t.wild t.nt t.pr kv hv t.full) 94 (0, 0)⟩ : Ent) ∈ H := by
 obtain ⟨b, H1, H2, h1, h2, h3, _⟩ := h.foc hj
 cases h2 with
 | mk hs hh hk => exact ⟨b, _, _, h1, h3.mem_iff.2 (List.mem_append_left _ (.head _))⟩
end Go.Proofs
