/- What the reference finds in a table, and what it leaves open. -/
import Derived.Test.YtnopecnbpflodaaNb
import Derived.Test.YtnopecnbpflodaaNa
import Derived.Laws.StandIn
import Derived.Lib.IndexLaws
import Derived.Test.YtnopecnbpflodaaKa
/- What the reference finds in a table. No program in sight. -/
namespace Gt
open Gs Tr
/-- a route goes ahead of another one -/
def BetterN : List Tk → List Tk → Prop
  | a :: s, b :: r => (a = b ∧ BetterN s r) ∨ (a ≠ b ∧ a.k.toNat < b.k.toNat)
  | _, _ => False
/-- ginMatch from a place of the path on -/
def mAt (path : List UInt8) : List Prt → Nat → List (List UInt8 × List UInt8) → Option (List (List UInt8 × List UInt8))
  | [], i, acc => if i = path.length then some acc else none
  | p :: l, i, acc =>
    if p.k.toNat = 0 then (if p.nm.isPrefixOf (path.drop i) then mAt path l (i + p.nm.length) acc else none)
    else if p.k.toNat = 1 then
      (if ((path.drop i).takeWhile (· ≠ 47)).length = 0 then none else mAt path l (i + ((path.drop i).takeWhile (· ≠ 47)).length) (acc ++ [(p.nm, (path.drop i).takeWhile (· ≠ 47))]))
    else mAt path l path.length (acc ++ [(p.nm, path.drop (i - 1))])
def matchN (l : List Prt) (path : List UInt8) : Option (List (List UInt8 × List UInt8)) := mAt path l 0 []
/-- the best one of the first routes: its place -/
noncomputable def bestN (rs : List (List Prt)) (path : List UInt8) : Nat → Option Nat
  | 0 => none
  | n + 1 => match rs[n]? with
    | none => bestN rs path n
    | some a => match matchN a path, bestN rs path n with
      | none, b => b
      | some _, none => some n
      | some _, some m => match rs[m]? with
        | none => some m
        | some b => if dec (BetterN (tks a) (tks b)) then some n else some m
end Gt

/- strings.IndexByte. Printed by wip/mk_go1.py. -/
set_option maxRecDepth 20000
namespace Go.Proofs
open Go Bw
open Gt
/-- a call of a function for which the model stands in -/
theorem _root_.Bw.V.callV {P : Program} {c : Cx} {n : Nat} {fr : SF} {H : SH} {ty : TypeId} {g : FuncId} {xs : List Operand} {vs : List Value} {tys : Array TypeId} {v : Value} (hg : ∀ w, (callFunc g vs.toArray).run P w = .ok (.value v) w) (he : evs fr xs = some vs) : Val P c n (.call ⟨.value (.func g), xs.toArray, tys⟩) ty fr H v := by
 intro a w ha hw dst pos aft gd
 have h1 := ha.evals he
 have h2 : a.eval (.func g) = .func (.func g) #[] #[] := rfl
 simp [execOp, resolve, h1, h2, Deferred.ofValue, invoke, hg]
theorem index47 (l : List UInt8) (c : UInt8) : Lib.indexByte l c = if c ∈ l then ((l.takeWhile (· ≠ c)).length : Int) else -1 := by
 induction l with
 | nil => rfl
 | cons b l ih =>
  unfold Lib.indexByte
  by_cases hb : b = c
  ·subst hb; simp
  ·have hbc : (b == c) = false := by simpa using hb
   have hcm : c ∈ b :: l ↔ c ∈ l := by
    rw [List.mem_cons]; exact ⟨fun h => h.elim (fun h => absurd h.symm hb) id, .inr⟩
   have htw : (b :: l).takeWhile (· ≠ c) = b :: l.takeWhile (· ≠ c) := by rw [List.takeWhile_cons]; simp [hb]
   rw [hbc, ih, htw]
   simp only [Bool.false_eq_true, if_false]
   by_cases hm : c ∈ l
   ·have hne : ((((l.takeWhile (· ≠ c)).length : Int)) == -1) = false := by rw [beq_eq_false_iff_ne]; omega
    rw [if_pos (hcm.2 hm), if_pos hm, hne]
    simp
   ·rw [if_neg (fun h => hm (hcm.1 h)), if_neg hm]; rfl
theorem call78 (l : List UInt8) (c : UInt8) (w : World) : (callFunc 78 #[S l, .int .u8 (c.toNat : Int)]).run Try.prog w = .ok (.value (I (Lib.indexByte l c))) w := by
 rw [run_callFunc_indexByte Try.func78 (by kernel_rfl) rfl rfl rfl]
 have h := run_indexByte_string (P := Try.prog) ⟨l.toArray⟩ (c.toNat : Int) w
 have e : ((c.toNat : Int)).toNat.toUInt8 = c := by simp
 rw [e, Lib.firstIdx_eq] at h
 show ((Extern.BytealgIndexByte.indexByte #[.string ⟨l.toArray⟩, .int .u8 (c.toNat : Int)]).run Try.prog w).andThen _ = _
 rw [h]
 rfl
theorem f71_any (w : World) (l : List UInt8) (x : UInt8) : Calls Try.prog 71 #[S l, .int .u8 (x.toNat : Int)] w fun e w' => e = .returned (I (Lib.indexByte l x)) ∧ HF w (fun _ => False) [] w' := by
 refine enter (fun _ => False) [] Try.func71 rfl Try.ntmps71 rfl rfl (HF.start w _) fun c hc => ?_
 subst hc
 refine GC.seq ?_
 refine GC.reg ?_
 refine G.m2 ?_
 refine G.nil ?_
 refine GC.seq ?_
 refine GC.reg ?_
 refine G.m1 ?_
 refine G.m1 ?_
 refine G.v (V.callV (fun w1 => call78 l x w1) rfl) rfl ?_
 refine G.m2 ?_
 refine G.nil ?_
 exact GC.ret1 rfl rfl fun w' hw' => ⟨rfl, hw'⟩
theorem f52_any (w : World) (l : List UInt8) (x : UInt8) : Calls Try.prog 52 #[S l, .int .u8 (x.toNat : Int)] w fun e w' => e = .returned (I (Lib.indexByte l x)) ∧ HF w (fun _ => False) [] w' := by
 refine enter (fun _ => False) [] Try.func52 rfl Try.ntmps52 rfl rfl (HF.start w _) fun c hc => ?_
 subst hc
 refine GC.seq ?_
 refine GC.reg ?_
 refine G.m2 ?_
 refine G.nil ?_
 refine GC.seq ?_
 refine GC.reg ?_
 refine G.m1 ?_
 refine G.m1 ?_
 refine G.callP Try.call71 rfl rfl (fun w1 hw1 => f71_any w1 l x) ?_
 refine G.m2 ?_
 refine G.nil ?_
 exact GC.ret1 rfl rfl fun w' hw' => ⟨rfl, hw'⟩
end Go.Proofs

/- better. Printed by wip/mk_go2.py. -/
set_option maxRecDepth 20000
namespace Go.Proofs
open Go Bw
open Gt
theorem V.ne102 {c : Cx} {n : Nat} {fr : SF} {H : SH} {ty u : TypeId} {x y : Operand} {p q : Tk} (hx : ev fr x = some (.agg (tkV p).toArray)) (hy : ev fr y = some (.agg (tkV q).toArray)) : Val Try.prog c n (.binOp .neq 102 x y u) ty fr H (.bool (!dec (p = q))) := by
 intro a1 w ha hw dst pos aft g
 simp [execOp, ha.eval hx, ha.eval hy, run_eqGuard_agg (P := Try.prog) w .neq 102 x y _ _ (by kernel_rfl), run_neq_struct, eqIn102]
theorem better_cons {a b : Tk} {s r : List Tk} : BetterN (a :: s) (b :: r) ↔ (a = b ∧ BetterN s r) ∨ (a ≠ b ∧ a.k.toNat < b.k.toNat) := Iff.rfl
theorem better_end {x y : List Tk} (h : x = [] ∨ y = []) : ¬ BetterN x y := by
 rcases h with rfl | rfl
 ·intro h; exact h
 ·cases x <;> exact fun h => h
theorem f54_any (w : World) (la lb : List Prt) (sa sb : Value) (hsa : Prts w sa la) (hsb : Prts w sb lb) (hla : (tks la).length ≤ 1000000 ∧ la.length ≤ 1000000) (hlb : (tks lb).length ≤ 1000000 ∧ lb.length ≤ 1000000) : Calls Try.prog 54 #[sa, sb] w fun e w' => e = .returned (.bool (dec (BetterN (tks la) (tks lb)))) ∧ HF w (fun _ => False) [] w' := by
 refine enter (fun _ => False) [] Try.func54 rfl Try.ntmps54 rfl rfl (HF.start w _) fun c hc => ?_
 subst hc
 obtain ⟨x, hxd⟩ : ∃ x, tks la = x := ⟨_, rfl⟩
 obtain ⟨y, hyd⟩ : ∃ y, tks lb = y := ⟨_, rfl⟩
 rw [hxd, hyd]
 have hxl : x.length ≤ 1000000 := by rw [← hxd]; exact hla.1
 have hyl : y.length ≤ 1000000 := by rw [← hyd]; exact hlb.1
 refine GC.seq ?_
 refine GC.reg ?_
 refine G.m2 ?_
 refine G.nil ?_
 refine GC.seq ?_
 refine GC.reg ?_
 refine G.m1 ?_
 refine G.callW (fun v H2 => ∃ Hk, Own 102 3 v x.length (flatK x) Hk ∧ H2 = Hk ++ []) Try.call57 rfl rfl (fun w1 hw1 => ?_) ?_
 ·refine (f57_any w1 la sa (hsa.old hw1) hla.1 hla.2).mono fun e w' ⟨kv, Hs, h1, h2, h3⟩ => ?_
  rw [hxd] at h2
  exact ⟨_, _, h1, hw1.after0 h3 h2.w, Hs, h2, rfl⟩
 rintro kx H2 ⟨Hx, hox, rfl⟩
 refine G.m1 ?_
 refine G.callW (fun v H2 => ∃ Hk, Own 102 3 v y.length (flatK y) Hk ∧ H2 = Hk ++ (Hx ++ [])) Try.call57 rfl rfl (fun w1 hw1 => ?_) ?_
 ·refine (f57_any w1 lb sb (hsb.old hw1) hlb.1 hlb.2).mono fun e w' ⟨kv, Hs, h1, h2, h3⟩ => ?_
  rw [hyd] at h2
  exact ⟨_, _, h1, hw1.after0 h3 h2.w, Hs, h2, rfl⟩
 rintro ky H2 ⟨Hy, hoy, rfl⟩
 refine G.m2 ?_
 refine G.m2 ?_
 refine G.nil ?_
 rw [List.append_nil]
 obtain ⟨adx, cpx, rfl, hcx, hsx⟩ := hox.tail (by rw [flatK_len, Nat.mul_comm])
 obtain ⟨ady, cpy, rfl, hcy, hsy⟩ := hoy.tail (by rw [flatK_len, Nat.mul_comm])
 refine GC.seq ?_
 refine GC.seq ?_
 refine GC.reg ?_
 refine G.m1 ?_
 refine G.v (V.lenL Try.underlying79 rfl) rfl ?_
 refine G.m1 ?_
 refine G.v (V.lenL Try.underlying79 rfl) rfl ?_
 refine G.v (V.minI (i := x.length) (j := y.length) rfl rfl) rfl ?_
 refine G.m1 ?_
 refine G.nil ?_
 refine GC.block ?_
 refine GC.loopJ (fun N fr' H' => ∃ i, i + N = min x.length y.length ∧ (BetterN x y ↔ BetterN (x.drop i) (y.drop i)) ∧ Sub [(5, .slice adx x.length cpx), (6, .slice ady y.length cpy), (16, I ((min x.length y.length : Nat) : Int)), (17, I (i : Nat))] fr' ∧ H' = Hy ++ Hx) (min x.length y.length)
  ⟨0, by omega, Iff.rfl, .of rfl, rfl⟩ ?_
 rintro N fr' H' ⟨i, hi, hap, hs2, rfl⟩ ih
 refine GC.weak hs2 ?_
 clear hs2
 refine GC.seq ?_
 refine GC.reg ?_
 refine G.v (V.lt rfl rfl) rfl ?_
 refine G.nil ?_
 refine GC.seq ?_
 refine GC.condD rfl (fun h18 => ?_) (fun h18 => ?_)
 ·refine GC.skip ?_
  refine GC.seq ?_
  refine GC.block ?_
  refine GC.seq ?_
  refine GC.reg ?_
  refine G.m1 ?_
  refine G.m2 ?_
  refine G.nil ?_
  refine GC.seq ?_
  have hix : i < x.length := by omega
  have hjy : i < y.length := by omega
  obtain ⟨a, hxa⟩ : ∃ a, x[i]? = some a := ⟨_, List.getElem?_eq_getElem hix⟩
  obtain ⟨b, hyb⟩ : ∃ b, y[i]? = some b := ⟨_, List.getElem?_eq_getElem hjy⟩
  obtain ⟨xb, xc, xs, ex, rfl⟩ := hox.at (i := i) hix
  obtain ⟨yb, yc, ys, ey, rfl⟩ := hoy.at (i := i) hjy
  cases ex
  cases ey
  have hxd2 := drop_cons hxa
  have hyd2 := drop_cons hyb
  rw [hxd2, hyd2, better_cons] at hap
  refine GC.regQ mixed (by kernel_rfl) ?_
  refine GQ.v (V.mv rfl) rfl ?_
  refine GQ.v (V.mv rfl) rfl ?_
  refine GQ.v (V.ia (i := i) Try.underlying79 Try.sizeOf102 rfl rfl hix) rfl ?_
  refine GQ.v (V.ldA (b := xb) (off := 0 + i * 3) (s := 3) (wf := true) (l := flatK x ++ xs) (T := 102) (fz := (0, 0)) (cs := tkV a) Try.isAgg102 Try.sizeOf102 rfl (.tail _ (.head _)) (flatK_at hxa _) rfl) rfl ?_
  refine GQ.v (V.mv rfl) rfl ?_
  refine GQ.v (V.mv rfl) rfl ?_
  refine GQ.v (V.ia (i := i) Try.underlying79 Try.sizeOf102 rfl rfl hjy) rfl ?_
  refine GQ.v (V.ldA (b := yb) (off := 0 + i * 3) (s := 3) (wf := true) (l := flatK y ++ ys) (T := 102) (fz := (0, 0)) (cs := tkV b) Try.isAgg102 Try.sizeOf102 rfl (.head _) (flatK_at hyb _) rfl) rfl ?_
  refine GQ.v (V.ne102 rfl rfl) rfl ?_
  refine GQ.nil ?_
  refine GC.cond rfl (fun h28 => ?_) (fun h28 => ?_)
  ·refine GC.seq ?_
   refine GC.regQ mixed (by kernel_rfl) ?_
   refine GQ.v (V.mv rfl) rfl ?_
   refine GQ.v (V.mv rfl) rfl ?_
   refine GQ.v (V.ia (i := i) Try.underlying79 Try.sizeOf102 rfl rfl hix) rfl ?_
   refine GQ.v (V.fa F102_0 rfl) rfl ?_
   refine GQ.v (V.ld (b := xb) (off := 0 + i * 3 + 0) (wf := true) (l := flatK x ++ xs) (T := 102) (fz := (0, 0)) (v := .int .u8 (a.k.toNat : Int)) Try.isAgg5 rfl (.tail _ (.head _)) (flatK_k hxa _)) rfl ?_
   refine GQ.v (V.mv rfl) rfl ?_
   refine GQ.v (V.mv rfl) rfl ?_
   refine GQ.v (V.ia (i := i) Try.underlying79 Try.sizeOf102 rfl rfl hjy) rfl ?_
   refine GQ.v (V.fa F102_0 rfl) rfl ?_
   refine GQ.v (V.ld (b := yb) (off := 0 + i * 3 + 0) (wf := true) (l := flatK y ++ ys) (T := 102) (fz := (0, 0)) (v := .int .u8 (b.k.toNat : Int)) Try.isAgg5 rfl (.head _) (flatK_k hyb _)) rfl ?_
   refine GQ.v (V.lt rfl rfl) rfl ?_
   refine GQ.v (V.asg rfl) rfl ?_
   refine GQ.nil ?_
   refine GC.ret1 rfl rfl fun w' hw' => ⟨?_, hw'.sub (List.nil_sublist _)⟩
   refine congrArg (fun b => Ending.returned (Value.bool b)) ?_
   have hab : ¬ a = b := dec_false.1 (by simpa using h28)
   refine dec_d ?_
   rw [hap]
   exact ⟨fun h => .inr ⟨hab, by omega⟩, fun h => h.elim (fun h => absurd h.1 hab) (fun h => by have := h.2; omega)⟩
  refine GC.skip ?_
  refine GC.inBlock ?_
  refine GC.reg ?_
  refine G.v (V.addI (r := ((i + 1 : Nat) : Int)) rfl rfl rfl (by omega) (by omega)) rfl ?_
  refine G.m1 ?_
  refine G.nil ?_
  have hab : a = b := dec_true.1 (by simpa using h28)
  refine ih (N - 1) _ _ (by omega) ⟨i + 1, by omega, ?_, .of rfl, rfl⟩
  rw [hap]
  exact ⟨fun h => h.elim (fun h => h.2) (fun h => absurd hab h.1), fun h => .inl ⟨hab, h⟩⟩
 refine GC.exit rfl ?_
 refine GC.seq ?_
 refine GC.reg ?_
 refine G.m2 ?_
 refine G.nil ?_
 refine GC.ret1 rfl rfl fun w' hw' => ⟨?_, hw'.sub (List.nil_sublist _)⟩
 refine congrArg (fun b => Ending.returned (Value.bool b)) ?_
 refine dec_f ?_
 rw [hap]
 refine better_end ?_
 rcases Nat.le_total x.length y.length with h | h
 ·exact .inl (List.drop_of_length_le (by omega))
 ·exact .inr (List.drop_of_length_le (by omega))
end Go.Proofs

/- ginMatch. Printed by wip/mk_go3.py. -/
set_option maxRecDepth 20000
namespace Go.Proofs
open Go Bw
open Gt
theorem bd_84 (a b : List UInt8) (w : World) : (Instr.build 84 #[(0, S a), (1, S b)]).run Try.prog w = .ok (.agg #[S a, S b]) w := by
 simp [Instr.build, Try.zeroValue84, Try.runUnderlying84, Try.sizeOf9, cells_agg, Instr.fill, cells_str]
theorem flatP_snoc1 (l : List (List UInt8 × List UInt8)) (a b : List UInt8) : flatP (l ++ [(a, b)]) = flatP l ++ [S a, S b] := by rw [flatP_app]; rfl
/-- the first part of a route has bytes -/
theorem Clean.first {l : List Prt} (h : Gt.Clean l) {p : Prt} (hp : l[0]? = some p) : p.k.toNat = 0 ∧ 0 < p.nm.length := by
 have hop := h.2.2.2 0 p hp
 have hk := hop.1.2 rfl
 exact ⟨hk, List.length_pos_iff.2 (hop.2.2.2.1 hk).1⟩
theorem f55_any (w : World) (l : List Prt) (sv : Value) (hsv : Prts w sv l) (hcl : Gt.Clean l) (path : List UInt8) (hpl : path.length ≤ 1000000) : Calls Try.prog 55 #[sv, S path] w fun e w' => ∃ pv ok Hs, e = .returned (.tuple #[pv, .bool ok]) ∧ ((ok = true ∧ ∃ ps, matchN l path = some ps ∧ ps.length ≤ 12 ∧ Own 84 2 pv ps.length (flatP ps) Hs) ∨ (ok = false ∧ matchN l path = none)) ∧ (∀ x ∈ Hs, x.w = true) ∧ HF w (fun _ => False) Hs w' := by
 refine enter (fun _ => False) [] Try.func55 rfl Try.ntmps55 rfl rfl (HF.start w _) fun c hc => ?_
 subst hc
 obtain ⟨ad, cp, rfl, hcp, hc⟩ := hsv
 have h12 := hcl.2.1
 refine GC.seq ?_
 refine GC.reg ?_
 refine G.m2 ?_
 refine G.m2 ?_
 refine G.nil ?_
 refine GC.seq ?_
 refine GC.reg ?_
 refine G.m2 ?_
 refine G.nil ?_
 refine GC.seq ?_
 refine GC.reg ?_
 refine G.m2 ?_
 refine G.nil ?_
 refine GC.seq ?_
 refine GC.seq ?_
 refine GC.reg ?_
 refine G.m1 ?_
 refine G.v (V.lenL Try.underlying35 rfl) rfl ?_
 refine G.m1 ?_
 refine G.nil ?_
 refine GC.block ?_
 refine GC.loopJ (fun N fr' H' => ∃ (j i : Nat) (kv : Value) (Hs : SH) (acc : List (List UInt8 × List UInt8)), j + N = l.length ∧ i ≤ path.length ∧ (1 ≤ j → 1 ≤ i) ∧ acc.length ≤ j ∧ matchN l path = mAt path (l.drop j) i acc ∧ Own 84 2 kv acc.length (flatP acc) Hs ∧ Sub [(1, S path), (6, kv), (7, I (i : Nat)), (11, .slice ad l.length cp), (12, I (l.length : Nat)), (13, I (j : Nat))] fr' ∧ Hs = H') l.length
  ⟨0, 0, .slice none 0 0, [], [], by omega, by omega, by omega, by simp, rfl, Own.nil, .of rfl, rfl⟩ ?_
 rintro N fr' H' ⟨j, i, kv, Hs, acc, hj, hil, hi1, hal, hma, hown, hs2, rfl⟩ ih
 refine GC.weak hs2 ?_
 clear hs2
 refine GC.seq ?_
 refine GC.reg ?_
 refine G.v (V.lt rfl rfl) rfl ?_
 refine G.nil ?_
 refine GC.seq ?_
 refine GC.condD rfl (fun h14 => ?_) (fun h14 => ?_)
 ·refine GC.skip ?_
  refine GC.seq ?_
  refine GC.block ?_
  refine GC.seq ?_
  have hjl : j < l.length := by omega
  obtain ⟨p, hp⟩ : ∃ p, l[j]? = some p := ⟨_, List.getElem?_eq_getElem hjl⟩
  obtain ⟨b, o, rfl, hc1, hc2⟩ := hc j p hp
  have hop := hcl.2.2.2 j p hp
  have hk2 := hop.2.1
  have hdr := drop_at hp
  rw [hdr] at hma
  unfold mAt at hma
  refine GC.reg ?_
  refine G.v (V.ia (i := j) Try.underlying35 Try.sizeOf50 rfl rfl hjl) rfl ?_
  refine G.v (V.ldAC (s := 2) (cs := prV p) Try.isAgg50 Try.sizeOf50 rfl (cells2 hc1 hc2) rfl id) rfl ?_
  refine G.al Try.zeroValue50 rfl rfl (fun pb hpb => ?_)
  refine G.stA (cs := prV p) Try.sizeOf50 rfl rfl (by simp [prV, Value.oneCell']) .z rfl ?_
  refine G.nil ?_
  refine GC.seq ?_
  refine GC.reg ?_
  refine G.v (V.fa F50_0 rfl) rfl ?_
  refine G.v (V.ld (b := pb) (off := 0 + 0) (wf := true) (l := prV p) (T := 50) (fz := (0, 0)) (v := .int .u8 (p.k.toNat : Int)) Try.isAgg5 rfl (.head _) rfl) rfl ?_
  refine G.nil ?_
  refine GC.block ?_
  refine GC.seq ?_
  refine GC.reg ?_
  refine G.v (V.eqI rfl rfl) rfl ?_
  refine G.m2 ?_
  refine G.nil ?_
  refine GC.condD rfl (fun h19 => ?_) (fun h19 => ?_)
  ·refine GC.seq ?_
   refine GC.seq ?_
   have hk0 : p.k.toNat = 0 := by omega
   rw [if_pos hk0] at hma
   refine GC.regQ mixed (by kernel_rfl) ?_
   refine GQ.v (V.mv rfl) rfl ?_
   refine GQ.v (V.mv rfl) rfl ?_
   refine GQ.v (V.slL (i := i) Try.underlying9 rfl rfl hil) rfl ?_
   refine GQ.v (V.fa F50_1 rfl) rfl ?_
   refine GQ.v (V.ld (b := pb) (off := 0 + 1) (wf := true) (l := prV p) (T := 50) (fz := (0, 0)) (v := S p.nm) Try.isAgg9 rfl (.head _) rfl) rfl ?_
   refine GQ.callP (v := .bool (decide (p.nm <+: path.drop i))) Try.call46 rfl rfl (fun w1 hw1 => f46_any w1 (path.drop i) p.nm (by rw [List.length_drop]; omega) (by have := (hop.2.2.2.1 hk0).2.1; omega)) ?_
   refine GQ.v (V.not rfl) rfl ?_
   refine GQ.nil ?_
   refine GC.cond rfl (fun h27 => ?_) (fun h27 => ?_)
   ·refine GC.seq ?_
    refine GC.reg ?_
    refine G.m2 ?_
    refine G.m2 ?_
    refine G.nil ?_
    refine GC.ret2 rfl rfl rfl fun w' hw' => ⟨_, _, [], rfl, ?_, by simp, hw'.sub (List.nil_sublist _)⟩
    have hnp : ¬ p.nm <+: path.drop i := by simpa using h27
    rw [if_neg (fun h => hnp (List.isPrefixOf_iff_prefix.1 h))] at hma
    exact .inr ⟨rfl, hma⟩
   refine GC.skip ?_
   have hpre : p.nm <+: path.drop i := by simpa using h27
   have hple := hpre.length_le
   rw [List.length_drop] at hple
   rw [if_pos (List.isPrefixOf_iff_prefix.2 hpre)] at hma
   refine GC.reg ?_
   refine G.m1 ?_
   refine G.v (V.fa F50_1 rfl) rfl ?_
   refine G.v (V.ld (b := pb) (off := 0 + 1) (wf := true) (l := prV p) (T := 50) (fz := (0, 0)) (v := S p.nm) Try.isAgg9 rfl (.head _) rfl) rfl ?_
   refine G.v (V.lenS Try.underlying9 rfl) rfl ?_
   refine G.v (V.addI (r := ((i + p.nm.length : Nat) : Int)) rfl rfl (by omega) (by omega) (by omega)) rfl ?_
   refine G.m2 ?_
   refine G.nil ?_
   refine GC.inBlock ?_
   refine GC.inBlock ?_
   refine GC.reg ?_
   refine G.v (V.addI (r := ((j + 1 : Nat) : Int)) rfl rfl rfl (by omega) (by omega)) rfl ?_
   refine G.m1 ?_
   refine G.nil ?_
   have hnm : 0 < p.nm.length := List.length_pos_iff.2 (hop.2.2.2.1 hk0).1
   refine GC.turn (H' := Hs) (fun w1 h1 => h1.sub (List.sublist_cons_self _ _)) ?_
   exact ih (N - 1) _ _ (by omega) ⟨j + 1, i + p.nm.length, kv, Hs, acc, by omega, by omega, by omega, by omega, hma, hown, .of rfl, rfl⟩
  refine GC.seq ?_
  refine GC.reg ?_
  refine G.v (V.eqI rfl rfl) rfl ?_
  refine G.m2 ?_
  refine G.nil ?_
  refine GC.condD rfl (fun h33 => ?_) (fun h33 => ?_)
  ·refine GC.seq ?_
   have hk1 : p.k.toNat = 1 := by omega
   rw [if_neg (by omega), if_pos hk1] at hma
   obtain ⟨m, hm⟩ : ∃ m, m = ((path.drop i).takeWhile (· ≠ 47)).length := ⟨_, rfl⟩
   have hml : m ≤ path.length - i := by
    rw [hm, ← List.length_drop]
    exact (List.takeWhile_sublist _).length_le
   rw [← hm] at hma
   refine GC.reg ?_
   refine G.m1 ?_
   refine G.m1 ?_
   refine G.v (V.slL (i := i) Try.underlying9 rfl rfl hil) rfl ?_
   refine G.callP (v := I (Lib.indexByte (path.drop i) 47)) Try.call52 rfl rfl (fun w1 hw1 => f52_any w1 (path.drop i) 47) ?_
   rw [index47, ← hm]
   refine G.m2 ?_
   refine G.nil ?_
   refine GC.seq ?_
   refine GC.seq ?_
   refine GC.reg ?_
   refine G.m1 ?_
   refine G.v (V.lt rfl rfl) rfl ?_
   refine G.nil ?_
   refine GC.join (fun fr' H' => Sub [(9, Pt pb 0), (10, I (m : Nat)), (1, S path), (6, kv), (7, I (i : Nat)), (11, .slice (some ⟨b, o, none⟩) l.length cp), (12, I (l.length : Nat)), (13, I (j : Nat))] fr' ∧ H' = ⟨pb, true, .row (prV p) 50 (0, 0)⟩ :: Hs) (fun J40 => ?_) ?_
   ·refine GC.condD rfl (fun h40 => ?_) (fun h40 => ?_)
    ·refine GC.reg ?_
     refine G.m1 ?_
     refine G.v (V.lenS Try.underlying9 rfl) rfl ?_
     refine G.m1 ?_
     have hn47 : ¬ (47 : UInt8) ∈ path.drop i := fun h => by rw [if_pos h] at h40; omega
     have hmm : m = path.length - i := by
      rw [hm, takeW hn47, List.length_drop]
     refine G.v (V.subI (r := (m : Int)) rfl rfl (by omega) (by omega) (by omega)) rfl ?_
     refine G.m2 ?_
     refine G.nil ?_
     exact J40 _ _ ⟨.of rfl, rfl⟩
    refine GC.skip ?_
    have h47 : (47 : UInt8) ∈ path.drop i := Classical.byContradiction fun h => (by rw [if_neg h] at h40; omega)
    refine J40 _ _ ⟨?_, rfl⟩
    rw [if_pos h47]
    exact .of rfl
   rintro fr' H' ⟨hs4, rfl⟩
   refine GC.weak hs4 ?_
   clear hs4
   refine GC.seq ?_
   refine GC.seq ?_
   refine GC.reg ?_
   refine G.m1 ?_
   refine G.v (V.eqI rfl rfl) rfl ?_
   refine G.nil ?_
   refine GC.condD rfl (fun h46 => ?_) (fun h46 => ?_)
   ·refine GC.seq ?_
    refine GC.reg ?_
    refine G.m2 ?_
    refine G.m2 ?_
    refine G.nil ?_
    refine GC.ret2 rfl rfl rfl fun w' hw' => ⟨_, _, [], rfl, ?_, by simp, hw'.sub (List.nil_sublist _)⟩
    rw [if_pos (by omega)] at hma
    exact .inr ⟨rfl, hma⟩
   refine GC.skip ?_
   refine GC.seq ?_
   have hm0 : ¬ m = 0 := by omega
   rw [if_neg hm0] at hma
   have htk : (path.take (i + m)).drop i = (path.drop i).takeWhile (· ≠ 47) := by
    rw [List.drop_take, Nat.add_sub_cancel_left, hm]
    exact (List.prefix_iff_eq_take.1 (List.takeWhile_prefix _)).symm
   refine GC.regM 12 (fun w1 => w1.heap[pb]? = some (Blk.den (.row (prV p) 50 (0, 0)))) mixed (by kernel_rfl) ?_
   refine GM.p 0 rfl (by kernel_rfl) (by kernel_rfl) (fun w1 h1 => h1.has ⟨pb, true, .row (prV p) 50 (0, 0)⟩ (by first | exact .head _ | exact .tail _ (.head _))) (fun _ => V.mv rfl) rfl ?_
   refine GM.p 1 rfl (by kernel_rfl) (by kernel_rfl) (fun w1 h1 => h1.has ⟨pb, true, .row (prV p) 50 (0, 0)⟩ (by first | exact .head _ | exact .tail _ (.head _))) (fun _ => V.fa F50_1 rfl) rfl ?_
   refine GM.ld 2 rfl (by kernel_rfl) (by kernel_rfl) (fun w1 h1 => h1.has ⟨pb, true, .row (prV p) 50 (0, 0)⟩ (by first | exact .head _ | exact .tail _ (.head _))) Try.isAgg9 rfl (fun w1 h1 => cellB h1 rfl) rfl ?_
   refine GM.p 3 rfl (by kernel_rfl) (by kernel_rfl) (fun w1 h1 => h1.has ⟨pb, true, .row (prV p) 50 (0, 0)⟩ (by first | exact .head _ | exact .tail _ (.head _))) (fun _ => V.mv rfl) rfl ?_
   refine GM.p 4 rfl (by kernel_rfl) (by kernel_rfl) (fun w1 h1 => h1.has ⟨pb, true, .row (prV p) 50 (0, 0)⟩ (by first | exact .head _ | exact .tail _ (.head _))) (fun _ => V.mv rfl) rfl ?_
   refine GM.p 5 rfl (by kernel_rfl) (by kernel_rfl) (fun w1 h1 => h1.has ⟨pb, true, .row (prV p) 50 (0, 0)⟩ (by first | exact .head _ | exact .tail _ (.head _))) (fun _ => V.mv rfl) rfl ?_
   refine GM.p 6 rfl (by kernel_rfl) (by kernel_rfl) (fun w1 h1 => h1.has ⟨pb, true, .row (prV p) 50 (0, 0)⟩ (by first | exact .head _ | exact .tail _ (.head _))) (fun _ => V.mv rfl) rfl ?_
   refine GM.p 7 rfl (by kernel_rfl) (by kernel_rfl) (fun w1 h1 => h1.has ⟨pb, true, .row (prV p) 50 (0, 0)⟩ (by first | exact .head _ | exact .tail _ (.head _))) (fun _ => V.addI (r := ((i + m : Nat) : Int)) rfl rfl (by omega) (by omega) (by omega)) rfl ?_
   refine GM.p 8 rfl (by kernel_rfl) (by kernel_rfl) (fun w1 h1 => h1.has ⟨pb, true, .row (prV p) 50 (0, 0)⟩ (by first | exact .head _ | exact .tail _ (.head _))) (fun _ => V.slLHe (i := i) (j := i + m) Try.underlying9 rfl rfl rfl (by omega) (by omega) htk) rfl ?_
   refine GM.p 9 rfl (by kernel_rfl) (by kernel_rfl) (fun w1 h1 => h1.has ⟨pb, true, .row (prV p) 50 (0, 0)⟩ (by first | exact .head _ | exact .tail _ (.head _))) (fun _ => V.bd (vs := [(0, S p.nm), (1, S ((path.drop i).takeWhile (· ≠ 47)))]) rfl (fun w1 => bd_84 _ _ w1)) rfl ?_
   refine GM.one 10 rfl (by kernel_rfl) ?_
   refine GMB.bs (vl := [(0, .agg #[S p.nm, S ((path.drop i).takeWhile (· ≠ 47))])]) (vs := [S p.nm, S ((path.drop i).takeWhile (· ≠ 47))]) (BS.two Try.underlying53 Try.sizeOf84 Try.zeroValue84) rfl (fun w1 h1 => h1.has ⟨pb, true, .row (prV p) 50 (0, 0)⟩ (.head _)) rfl (fun sb => ?_)
   refine GM.one 11 rfl (by kernel_rfl) ?_
   refine GMB.app (i := Try.t84) (sz := 2) (by_ := 32) (vs := [S p.nm, S ((path.drop i).takeWhile (· ≠ 47))]) Try.underlying53 rfl rfl rfl rfl rfl rfl rfl hown (H' := [⟨sb, true, .row [S p.nm, S ((path.drop i).takeWhile (· ≠ 47))] 84 (0, 0)⟩, ⟨pb, true, .row (prV p) 50 (0, 0)⟩]) (List.perm_append_comm (l₁ := ([⟨sb, true, .row [S p.nm, S ((path.drop i).takeWhile (· ≠ 47))] 84 (0, 0)⟩, ⟨pb, true, .row (prV p) 50 (0, 0)⟩] : SH))) (src_row (vs := [S p.nm, S ((path.drop i).takeWhile (· ≠ 47))]) (r := []) (.head _)) rfl (by simp [Value.oneCell']) (by omega) (by omega) (by omega) (fun w1 h1 => h1.has ⟨pb, true, .row (prV p) 50 (0, 0)⟩ (.tail _ (.head _))) rfl (fun kv2 Hs2 hown2 => ?_)
   refine GM.tl (by kernel_rfl) ?_
   refine G.m2 ?_
   refine G.nil ?_
   refine GC.turn (H' := Hs2) (fun w1 h1 => h1.sub (List.sublist_append_right _ _)) ?_
   have hown3 : Own 84 2 kv2 (acc ++ [(p.nm, ((path.drop i).takeWhile (· ≠ 47)))]).length (flatP (acc ++ [(p.nm, ((path.drop i).takeWhile (· ≠ 47)))])) Hs2 := by
    rw [flatP_snoc1, List.length_append]
    exact hown2
   refine GC.reg ?_
   refine G.m1 ?_
   refine G.m1 ?_
   refine G.v (V.addI (r := ((i + m : Nat) : Int)) rfl rfl (by omega) (by omega) (by omega)) rfl ?_
   refine G.m2 ?_
   refine G.nil ?_
   refine GC.inBlock ?_
   refine GC.inBlock ?_
   refine GC.reg ?_
   refine G.v (V.addI (r := ((j + 1 : Nat) : Int)) rfl rfl rfl (by omega) (by omega)) rfl ?_
   refine G.m1 ?_
   refine G.nil ?_
   exact ih (N - 1) _ _ (by omega) ⟨j + 1, i + m, kv2, Hs2, _, by omega, by omega, by omega, by simp; omega, hma, hown3, .of rfl, rfl⟩
  refine GC.seq ?_
  refine GC.reg ?_
  refine G.v (V.eqI rfl rfl) rfl ?_
  refine G.m2 ?_
  refine G.nil ?_
  refine GC.condD rfl (fun h62 => ?_) (fun h62 => ?_)
  ·refine GC.seq ?_
   have hk2' : p.k.toNat = 2 := by omega
   rw [if_neg (by omega), if_neg (by omega)] at hma
   have hj1 : 1 ≤ j := by
    rcases Nat.eq_zero_or_pos j with h0 | h0
    ·subst h0; have := (Clean.first hcl hp).1; omega
    ·exact h0
   have hi1' := hi1 hj1
   refine GC.regM 10 (fun w1 => w1.heap[pb]? = some (Blk.den (.row (prV p) 50 (0, 0)))) mixed (by kernel_rfl) ?_
   refine GM.p 0 rfl (by kernel_rfl) (by kernel_rfl) (fun w1 h1 => h1.has ⟨pb, true, .row (prV p) 50 (0, 0)⟩ (by first | exact .head _ | exact .tail _ (.head _))) (fun _ => V.mv rfl) rfl ?_
   refine GM.p 1 rfl (by kernel_rfl) (by kernel_rfl) (fun w1 h1 => h1.has ⟨pb, true, .row (prV p) 50 (0, 0)⟩ (by first | exact .head _ | exact .tail _ (.head _))) (fun _ => V.fa F50_1 rfl) rfl ?_
   refine GM.ld 2 rfl (by kernel_rfl) (by kernel_rfl) (fun w1 h1 => h1.has ⟨pb, true, .row (prV p) 50 (0, 0)⟩ (by first | exact .head _ | exact .tail _ (.head _))) Try.isAgg9 rfl (fun w1 h1 => cellB h1 rfl) rfl ?_
   refine GM.p 3 rfl (by kernel_rfl) (by kernel_rfl) (fun w1 h1 => h1.has ⟨pb, true, .row (prV p) 50 (0, 0)⟩ (by first | exact .head _ | exact .tail _ (.head _))) (fun _ => V.mv rfl) rfl ?_
   refine GM.p 4 rfl (by kernel_rfl) (by kernel_rfl) (fun w1 h1 => h1.has ⟨pb, true, .row (prV p) 50 (0, 0)⟩ (by first | exact .head _ | exact .tail _ (.head _))) (fun _ => V.mv rfl) rfl ?_
   refine GM.p 5 rfl (by kernel_rfl) (by kernel_rfl) (fun w1 h1 => h1.has ⟨pb, true, .row (prV p) 50 (0, 0)⟩ (by first | exact .head _ | exact .tail _ (.head _))) (fun _ => V.subI (r := ((i - 1 : Nat) : Int)) rfl rfl (by omega) (by omega) (by omega)) rfl ?_
   refine GM.p 6 rfl (by kernel_rfl) (by kernel_rfl) (fun w1 h1 => h1.has ⟨pb, true, .row (prV p) 50 (0, 0)⟩ (by first | exact .head _ | exact .tail _ (.head _))) (fun _ => V.slL (i := i - 1) Try.underlying9 rfl rfl (by omega)) rfl ?_
   refine GM.p 7 rfl (by kernel_rfl) (by kernel_rfl) (fun w1 h1 => h1.has ⟨pb, true, .row (prV p) 50 (0, 0)⟩ (by first | exact .head _ | exact .tail _ (.head _))) (fun _ => V.bd (vs := [(0, S p.nm), (1, S (path.drop (i - 1)))]) rfl (fun w1 => bd_84 _ _ w1)) rfl ?_
   refine GM.one 8 rfl (by kernel_rfl) ?_
   refine GMB.bs (vl := [(0, .agg #[S p.nm, S (path.drop (i - 1))])]) (vs := [S p.nm, S (path.drop (i - 1))]) (BS.two Try.underlying53 Try.sizeOf84 Try.zeroValue84) rfl (fun w1 h1 => h1.has ⟨pb, true, .row (prV p) 50 (0, 0)⟩ (.head _)) rfl (fun sb => ?_)
   refine GM.one 9 rfl (by kernel_rfl) ?_
   refine GMB.app (i := Try.t84) (sz := 2) (by_ := 32) (vs := [S p.nm, S (path.drop (i - 1))]) Try.underlying53 rfl rfl rfl rfl rfl rfl rfl hown (H' := [⟨sb, true, .row [S p.nm, S (path.drop (i - 1))] 84 (0, 0)⟩, ⟨pb, true, .row (prV p) 50 (0, 0)⟩]) (List.perm_append_comm (l₁ := ([⟨sb, true, .row [S p.nm, S (path.drop (i - 1))] 84 (0, 0)⟩, ⟨pb, true, .row (prV p) 50 (0, 0)⟩] : SH))) (src_row (vs := [S p.nm, S (path.drop (i - 1))]) (r := []) (.head _)) rfl (by simp [Value.oneCell']) (by omega) (by omega) (by omega) (fun w1 h1 => h1.has ⟨pb, true, .row (prV p) 50 (0, 0)⟩ (.tail _ (.head _))) rfl (fun kv2 Hs2 hown2 => ?_)
   refine GM.tl (by kernel_rfl) ?_
   refine G.m2 ?_
   refine G.nil ?_
   refine GC.turn (H' := Hs2) (fun w1 h1 => h1.sub (List.sublist_append_right _ _)) ?_
   have hown3 : Own 84 2 kv2 (acc ++ [(p.nm, (path.drop (i - 1)))]).length (flatP (acc ++ [(p.nm, (path.drop (i - 1)))])) Hs2 := by
    rw [flatP_snoc1, List.length_append]
    exact hown2
   refine GC.reg ?_
   refine G.m1 ?_
   refine G.v (V.lenS Try.underlying9 rfl) rfl ?_
   refine G.m2 ?_
   refine G.nil ?_
   refine GC.inBlock ?_
   refine GC.inBlock ?_
   refine GC.reg ?_
   refine G.v (V.addI (r := ((j + 1 : Nat) : Int)) rfl rfl rfl (by omega) (by omega)) rfl ?_
   refine G.m1 ?_
   refine G.nil ?_
   exact ih (N - 1) _ _ (by omega) ⟨j + 1, path.length, kv2, Hs2, _, by omega, by omega, by omega, by simp; omega, hma, hown3, .of rfl, rfl⟩
  refine GC.skip ?_
  refine GC.inBlock ?_
  refine GC.inBlock ?_
  refine GC.reg ?_
  refine G.v (V.addI (r := ((j + 1 : Nat) : Int)) rfl rfl rfl (by omega) (by omega)) rfl ?_
  refine G.m1 ?_
  refine G.nil ?_
  omega
 refine GC.exit rfl ?_
 refine GC.seq ?_
 refine GC.reg ?_
 refine G.m1 ?_
 refine G.m1 ?_
 refine G.m1 ?_
 refine G.v (V.lenS Try.underlying9 rfl) rfl ?_
 refine G.v (V.eqI rfl rfl) rfl ?_
 refine G.m2 ?_
 refine G.m2 ?_
 refine G.nil ?_
 have hje : j = l.length := by omega
 rw [hje, List.drop_length] at hma
 unfold mAt at hma
 refine GC.ret2 rfl rfl rfl fun w' hw' => ⟨_, _, _, rfl, ?_, ?_, hw'⟩
 ·by_cases hii : i = path.length
  ·rw [if_pos hii] at hma
   exact .inl ⟨decide_eq_true (by omega), acc, hma, by omega, hown⟩
  ·rw [if_neg hii] at hma
   exact .inr ⟨decide_eq_false (by omega), hma⟩
 ·exact hown.w
end Go.Proofs

/- What the reference finds in a table. Printed by wip/mk_go4.py. -/
set_option maxRecDepth 20000
namespace Go.Proofs
open Go Bw
open Gt
theorem bestN_lt {rs : List (List Prt)} {path : List UInt8} : ∀ {n m : Nat}, bestN rs path n = some m → m < n
 | 0, m, h => by cases h
 | n + 1, m, h => by
  unfold bestN at h
  split at h
  ·exact Nat.lt_succ_of_lt (bestN_lt h)
  ·split at h
   ·exact Nat.lt_succ_of_lt (bestN_lt h)
   ·cases h; exact Nat.lt_succ_self _
   ·rename_i hb
    split at h
    ·cases h; exact Nat.lt_succ_of_lt (bestN_lt hb)
    ·split at h
     ·cases h; exact Nat.lt_succ_self _
     ·cases h; exact Nat.lt_succ_of_lt (bestN_lt hb)
/-- what is kept of the best one so far -/
def BestAt (rs : List (List Prt)) (path : List UInt8) (o : Option Nat) (r : Nat) (pv : Value) (full : List UInt8) (Hp : SH) : Prop :=
 (o = none ∧ r = 0 ∧ pv = .slice none 0 0 ∧ full = [] ∧ Hp = []) ∨ ∃ m a ps, o = some m ∧ r = m + 1 ∧ rs[m]? = some a ∧ full = rtT a ∧ matchN a path = some ps ∧ ps.length ≤ 12 ∧ Own 84 2 pv ps.length (flatP ps) Hp
theorem BestAt.w {rs path o r pv full Hp} (h : BestAt rs path o r pv full Hp) : ∀ x ∈ Hp, x.w = true := by
 rcases h with ⟨_, _, _, _, rfl⟩ | ⟨m, a, ps, _, _, _, _, _, _, h⟩
 ·simp
 ·exact h.w
theorem BestAt.one {rs path o r pv full Hp} (h : BestAt rs path o r pv full Hp) : pv.oneCell' = true := by
 rcases h with ⟨_, _, rfl, _⟩ | ⟨m, a, ps, _, _, _, _, _, _, h⟩
 ·rfl
 ·exact Own.slice1 h
theorem bd_55 (r : Int) (pv : Value) (hpv : pv.oneCell' = true) (s : List UInt8) (w : World) : (Instr.build 55 #[(0, I r), (1, pv), (2, S s)]).run Try.prog w = .ok (.agg #[I r, pv, S s, .bool false]) w := by
 have hc : pv.cells = #[pv] := by cases pv <;> first | rfl | (simp [Value.oneCell'] at hpv)
 have hi : (I r).cells = #[I r] := rfl
 simp [Instr.build, Try.zeroValue55, Try.runUnderlying55, Try.sizeOf9, Try.sizeOf3, Try.sizeOf53, cells_agg, Instr.fill, cells_str, hc, hi]
theorem bd_55z (w : World) : (Instr.build 55 #[]).run Try.prog w = .ok (.agg #[I 0, .slice none 0 0, S [], .bool false]) w := by
 simp [Instr.build, Try.zeroValue55, Try.runUnderlying55, Instr.fill, Value.cells]
theorem f33_any (w : World) (l : List (List Prt)) (sv : Value) (hsv : Tbl w sv l) (hcl : ∀ r ∈ l, Gt.Clean r) (hll : l.length ≤ 1000000) (path : List UInt8) (hpl : path.length ≤ 1000000) : Calls Try.prog 33 #[sv, S path] w fun e w' => ∃ (r : Nat) (pv : Value) (full : List UInt8) (Hp : SH), e = .returned (.agg #[I (r : Nat), pv, S full, .bool false]) ∧ BestAt l path (bestN l path l.length) r pv full Hp ∧ HF w (fun _ => False) Hp w' := by
 refine enter (fun _ => False) [] Try.func33 rfl Try.ntmps33 rfl rfl (HF.start w _) fun c hc => ?_
 subst hc
 obtain ⟨ad, cp, rfl, hcp, hc⟩ := hsv
 refine GC.seq ?_
 refine GC.reg ?_
 refine G.al Try.zeroValue55 rfl rfl (fun b4 hb4 => ?_)
 refine G.nil ?_
 refine GC.seq ?_
 refine GC.reg ?_
 refine G.v (V.bd (vs := []) rfl (fun w1 => bd_55z w1)) rfl ?_
 refine G.al Try.zeroValue55 rfl rfl (fun b5 hb5 => ?_)
 refine G.stA (cs := [I 0, .slice none 0 0, S [], .bool false]) Try.sizeOf55 rfl rfl (by simp [Value.oneCell']) .z rfl ?_
 refine G.nil ?_
 refine GC.seq ?_
 refine GC.seq ?_
 refine GC.reg ?_
 refine G.m1 ?_
 refine G.v (V.lenL Try.underlying34 rfl) rfl ?_
 refine G.m1 ?_
 refine G.nil ?_
 refine GC.block ?_
 refine GC.loopJ (fun N fr' H' => ∃ (j r : Nat) (pv : Value) (full : List UInt8) (Hp : SH), j + N = l.length ∧ BestAt l path (bestN l path j) r pv full Hp ∧ Sub [(0, .slice ad l.length cp), (1, S path), (4, Pt b4 0), (5, Pt b5 0), (11, .slice ad l.length cp), (12, I (l.length : Nat)), (13, I (j : Nat))] fr' ∧ H' = ⟨b5, true, .row [I (r : Nat), pv, S full, .bool false] 55 (0, 0)⟩ :: ⟨b4, true, .row [I 0, .slice none 0 0, S [], .bool false] 55 (0, 0)⟩ :: Hp) l.length
  ⟨0, 0, .slice none 0 0, [], [], by omega, .inl ⟨rfl, rfl, rfl, rfl, rfl⟩, .of rfl, rfl⟩ ?_
 rintro N fr' H' ⟨j, r, pv, full, Hp, hj, hB, hs2, rfl⟩ ih
 refine GC.weak hs2 ?_
 clear hs2
 refine GC.seq ?_
 refine GC.reg ?_
 refine G.v (V.lt rfl rfl) rfl ?_
 refine G.nil ?_
 refine GC.seq ?_
 refine GC.condD rfl (fun h14 => ?_) (fun h14 => ?_)
 ·refine GC.skip ?_
  refine GC.seq ?_
  refine GC.block ?_
  refine GC.seq ?_
  have hjl : j < l.length := by omega
  obtain ⟨a, ha⟩ : ∃ p, l[j]? = some p := ⟨_, List.getElem?_eq_getElem hjl⟩
  obtain ⟨b, o, av, rfl, hc1, hc2⟩ := hc j a ha
  have hca := hcl a (List.mem_of_getElem? ha)
  refine GC.reg ?_
  refine G.m1 ?_
  refine G.v (V.ia (i := j) Try.underlying34 Try.sizeOf35 rfl rfl hjl) rfl ?_
  refine G.v (V.ldC (v := av) Try.isAgg35 rfl (by rw [Nat.mul_one]; exact hc1) id) rfl ?_
  refine G.m2 ?_
  refine G.m2 ?_
  refine G.nil ?_
  refine GC.seq ?_
  refine GC.reg ?_
  refine G.m1 ?_
  refine G.m1 ?_
  refine G.callW (fun v H2 => ∃ pv2 ok Hs, v = .tuple #[pv2, .bool ok] ∧ ((ok = true ∧ ∃ ps, matchN a path = some ps ∧ ps.length ≤ 12 ∧ Own 84 2 pv2 ps.length (flatP ps) Hs) ∨ (ok = false ∧ matchN a path = none)) ∧ H2 = Hs ++ (⟨b5, true, .row [I (r : Nat), pv, S full, .bool false] 55 (0, 0)⟩ :: ⟨b4, true, .row [I 0, .slice none 0 0, S [], .bool false] 55 (0, 0)⟩ :: Hp)) Try.call55 rfl rfl (fun w1 hw1 => ?_) ?_
  ·exact (f55_any w1 a av (hc2.old hw1) hca path hpl).mono fun e w' ⟨pv2, ok, Hs, h1, h2, h3, h4⟩ => ⟨_, _, h1, hw1.after0 h4 h3, pv2, ok, Hs, rfl, h2, rfl⟩
  rintro v H2 ⟨pv2, ok, Hs, rfl, hok, rfl⟩
  refine G.m1 ?_
  refine G.v (V.ex rfl rfl) rfl ?_
  refine G.v (V.ex rfl rfl) rfl ?_
  refine G.m2 ?_
  refine G.m2 ?_
  refine G.nil ?_
  refine GC.seq ?_
  have hst : bestN l path (j + 1) = match matchN a path, bestN l path j with
    | none, b => b
    | some _, none => some j
    | some _, some m => match l[m]? with
     | none => some m
     | some b => if dec (BetterN (tks a) (tks b)) then some j else some m := by
   rw [bestN, ha] <;> rfl
  refine GC.join (fun fr' H' => Sub [(0, .slice (some ⟨b, o, none⟩) l.length cp), (1, S path), (4, Pt b4 0), (5, Pt b5 0), (6, I (j : Nat)), (7, av), (8, pv2), (11, .slice (some ⟨b, o, none⟩) l.length cp), (12, I (l.length : Nat)), (13, I (j : Nat)), (39, .bool (dec (bestN l path (j + 1) = some j)))] fr' ∧ H' = Hs ++ (⟨b5, true, .row [I (r : Nat), pv, S full, .bool false] 55 (0, 0)⟩ :: ⟨b4, true, .row [I 0, .slice none 0 0, S [], .bool false] 55 (0, 0)⟩ :: Hp)) (fun J6 => ?_) ?_
  ·refine GC.reg ?_
   refine G.m1 ?_
   refine G.m1 ?_
   refine G.bc 25 rfl (fun h25 => ?_) (fun h25 => ?_)
   ·refine G.vg rfl rfl (V.fa F55_0 rfl) rfl ?_
    refine G.vg rfl rfl (V.ld (b := b5) (off := 0 + 0) (wf := true) (l := [I (r : Nat), pv, S full, .bool false]) (T := 55) (fz := (0, 0)) (v := I (r : Nat)) Try.isAgg3 rfl (List.mem_append_right _ (.head _)) rfl) rfl ?_
    refine G.vg rfl rfl (V.eqI rfl rfl) rfl ?_
    refine G.m5 ?_
    refine G.bc 29 rfl (fun h29 => ?_) (fun h29 => ?_)
    ·refine G.s1 ?_
     refine G.s1 ?_
     refine G.s1 ?_
     refine G.s1 ?_
     refine G.s1 ?_
     refine G.s1 ?_
     refine G.s1 ?_
     refine G.s1 ?_
     refine G.vg rfl rfl (V.pickT rfl rfl) rfl ?_
     refine G.m3 ?_
     refine G.nil ?_
     refine J6 _ _ ⟨.cons rfl (.cons rfl (.cons rfl (.cons rfl (.cons rfl (.cons rfl (.cons rfl (.cons rfl (.cons rfl (.cons rfl (.cons (rfl.trans (congrArg (fun b => some (Value.bool b)) ?_)) .nil)))))))))), rfl⟩
     obtain ⟨ps2, hm2, _⟩ : ∃ ps, matchN a path = some ps ∧ ps.length ≤ 12 ∧ Own 84 2 pv2 ps.length (flatP ps) Hs := by
      rcases hok with h | h
      ·exact h.2
      ·rw [h25] at h; cases h.1
     have hr0 : r = 0 := by have := of_decide_eq_true h29; omega
     have hbn : bestN l path j = none := by
      rcases hB with h | ⟨m, _, _, _, h, _⟩
      ·exact h.1
      ·omega
     exact dec_t (by rw [hst, hm2, hbn])
    ·refine G.m5 ?_
     refine G.m5 ?_
     refine G.vg rfl rfl (V.fa F55_0 rfl) rfl ?_
     refine G.vg rfl rfl (V.ld (b := b5) (off := 0 + 0) (wf := true) (l := [I (r : Nat), pv, S full, .bool false]) (T := 55) (fz := (0, 0)) (v := I (r : Nat)) Try.isAgg3 rfl (List.mem_append_right _ (.head _)) rfl) rfl ?_
     have hr0 : ¬ r = 0 := by have := of_decide_eq_false h29; omega
     obtain ⟨m, d, ps, hbm, hrm, hd, hfd, hmd, _, _⟩ : ∃ m a ps, bestN l path j = some m ∧ r = m + 1 ∧ l[m]? = some a ∧ full = rtT a ∧ matchN a path = some ps ∧ ps.length ≤ 12 ∧ Own 84 2 pv ps.length (flatP ps) Hp := hB.resolve_left (fun h => hr0 h.2.1)
     have hml := bestN_lt hbm
     obtain ⟨b', o', dv, e0, hd1, hd2⟩ := hc m d hd
     cases e0
     have hcd := hcl d (List.mem_of_getElem? hd)
     refine G.vg rfl rfl (V.subI (r := ((m : Nat) : Int)) rfl rfl (by omega) (by omega) (by omega)) rfl ?_
     refine G.vg rfl rfl (V.ia (i := m) Try.underlying34 Try.sizeOf35 rfl rfl (by omega)) rfl ?_
     refine G.vg rfl rfl (V.ldC (v := dv) Try.isAgg35 rfl (by rw [Nat.mul_one]; exact hd1) id) rfl ?_
     refine G.gd rfl rfl ?_
     refine G.callP (v := .bool (dec (BetterN (tks a) (tks d)))) Try.call54 rfl rfl (fun w1 hw1 => f54_any w1 a d av dv (hc2.old hw1) (hd2.old hw1) (clean_len hca) (clean_len hcd)) ?_
     refine G.vg rfl rfl (V.pickF rfl rfl) rfl ?_
     refine G.m3 ?_
     refine G.nil ?_
     refine J6 _ _ ⟨.cons rfl (.cons rfl (.cons rfl (.cons rfl (.cons rfl (.cons rfl (.cons rfl (.cons rfl (.cons rfl (.cons rfl (.cons (rfl.trans (congrArg (fun b => some (Value.bool b)) ?_)) .nil)))))))))), rfl⟩
     obtain ⟨ps2, hm2, _⟩ : ∃ ps, matchN a path = some ps ∧ ps.length ≤ 12 ∧ Own 84 2 pv2 ps.length (flatP ps) Hs := by
      rcases hok with h | h
      ·exact h.2
      ·rw [h25] at h; cases h.1
     rw [hm2, hbm] at hst
     simp only [hd] at hst
     cases hbt : dec (BetterN (tks a) (tks d)) with
     | true => rw [hbt, if_pos rfl] at hst; exact dec_t hst
     | false => rw [hbt] at hst; simp only [Bool.false_eq_true, if_false] at hst; exact dec_f (by rw [hst]; intro h; cases h; omega)
   ·refine G.s1 ?_
    refine G.s1 ?_
    refine G.s1 ?_
    refine G.s1 ?_
    refine G.sgU rfl rfl rfl rfl rfl ?_
    refine G.sgU rfl rfl rfl rfl rfl ?_
    refine G.sgU rfl rfl rfl rfl rfl ?_
    refine G.sgU rfl rfl rfl rfl rfl ?_
    refine G.sgU rfl rfl rfl rfl rfl ?_
    refine G.sgU rfl rfl rfl rfl rfl ?_
    refine G.sgU rfl rfl rfl rfl rfl ?_
    refine G.sgU rfl rfl rfl rfl rfl ?_
    refine G.s1 ?_
    refine G.m4 ?_
    refine G.nil ?_
    refine J6 _ _ ⟨.cons rfl (.cons rfl (.cons rfl (.cons rfl (.cons rfl (.cons rfl (.cons rfl (.cons rfl (.cons rfl (.cons rfl (.cons (rfl.trans (congrArg (fun b => some (Value.bool b)) ?_)) .nil)))))))))), rfl⟩
    have hmn : matchN a path = none := by
     rcases hok with h | h
     ·rw [h25] at h; cases h.1
     ·exact h.2
    exact dec_f (by rw [hst, hmn]; intro h; have := bestN_lt h; omega)
  rintro fr' H' ⟨hs4, rfl⟩
  refine GC.weak hs4 ?_
  clear hs4
  refine GC.cond rfl (fun h39 => ?_) (fun h39 => ?_)
  ·have hbj := dec_true.1 h39
   obtain ⟨ps2, hm2, hps2, hown2⟩ : ∃ ps, matchN a path = some ps ∧ ps.length ≤ 12 ∧ Own 84 2 pv2 ps.length (flatP ps) Hs := by
    rcases hok with h | h
    ·exact h.2
    ·rw [hst, h.2] at hbj; have := bestN_lt hbj; omega
   refine GC.reg ?_
   refine G.turn (H' := ⟨b5, true, .row [I (r : Nat), pv, S full, .bool false] 55 (0, 0)⟩ :: ⟨b4, true, .row [I 0, .slice none 0 0, S [], .bool false] 55 (0, 0)⟩ :: (Hs ++ Hp)) (fun w1 h1 => ?_) ?_
   ·have p1 := perm_idx [Hs, [⟨b5, true, .row [I (r : Nat), pv, S full, .bool false] 55 (0, 0)⟩], [⟨b4, true, .row [I 0, .slice none 0 0, S [], .bool false] 55 (0, 0)⟩], Hp] [0, 1, 2, 3] [1, 2, 0, 3] (by decide)
    exact h1.perm (by simpa using p1)
   refine G.m1 ?_
   refine G.v (V.addI (r := ((j + 1 : Nat) : Int)) rfl rfl rfl (by omega) (by omega)) rfl ?_
   refine G.m1 ?_
   refine G.m1 ?_
   refine G.callP (v := S (rtT a)) Try.call24 rfl rfl (fun w1 hw1 => f24_any w1 a av (hc2.old hw1) (Nat.le_trans hca.txt.1 (by omega)) (clean_len hca).2) ?_
   refine G.v (V.bd (vs := [(0, I ((j + 1 : Nat) : Int)), (1, pv2), (2, S (rtT a))]) rfl (fun w1 => bd_55 _ _ (Own.slice1 hown2) _ w1)) rfl ?_
   refine G.stA (b := b5) (cs := [I ((j + 1 : Nat) : Int), pv2, S (rtT a), .bool false]) (l := [I (r : Nat), pv, S full, .bool false]) Try.sizeOf55 rfl rfl (fun u hu => by simp only [List.mem_cons, List.not_mem_nil, or_false] at hu; rcases hu with rfl | rfl | rfl | rfl <;> first | rfl | exact Own.slice1 hown2) .z rfl ?_
   refine G.nil ?_
   refine GC.turn (H' := ⟨b5, true, .row [I ((j + 1 : Nat) : Int), pv2, S (rtT a), .bool false] 55 (0, 0)⟩ :: ⟨b4, true, .row [I 0, .slice none 0 0, S [], .bool false] 55 (0, 0)⟩ :: Hs) (fun w1 h1 => h1.sub ?_) ?_
   ·exact ((List.sublist_append_left Hs Hp).cons_cons _).cons_cons _
   refine GC.inBlock ?_
   refine GC.reg ?_
   refine G.v (V.addI (r := ((j + 1 : Nat) : Int)) rfl rfl rfl (by omega) (by omega)) rfl ?_
   refine G.m1 ?_
   refine G.nil ?_
   exact ih (N - 1) _ _ (by omega) ⟨j + 1, j + 1, pv2, rtT a, Hs, by omega, .inr ⟨j, a, ps2, hbj, rfl, ha, rfl, hm2, hps2, hown2⟩, .of rfl, rfl⟩
  refine GC.skip ?_
  refine GC.inBlock ?_
  refine GC.reg ?_
  refine G.v (V.addI (r := ((j + 1 : Nat) : Int)) rfl rfl rfl (by omega) (by omega)) rfl ?_
  refine G.m1 ?_
  refine G.nil ?_
  have hnb := dec_false.1 h39
  have hsame : bestN l path (j + 1) = bestN l path j := by
   rw [hst] at hnb ⊢
   cases hm0 : matchN a path with
   | none => rfl
   | some ps0 =>
    rw [hm0] at hnb
    cases hb0 : bestN l path j with
    | none => rw [hb0] at hnb; exact absurd rfl hnb
    | some m =>
     rw [hb0] at hnb
     simp only at hnb ⊢
     cases hd0 : l[m]? with
     | none => rfl
     | some d0 =>
      rw [hd0] at hnb
      simp only at hnb ⊢
      cases hbt : dec (BetterN (tks a) (tks d0)) with
      | true => rw [hbt, if_pos rfl] at hnb; exact absurd rfl hnb
      | false => rfl
  refine GC.turn (H' := ⟨b5, true, .row [I (r : Nat), pv, S full, .bool false] 55 (0, 0)⟩ :: ⟨b4, true, .row [I 0, .slice none 0 0, S [], .bool false] 55 (0, 0)⟩ :: Hp) (fun w1 h1 => h1.sub (List.sublist_append_right _ _)) ?_
  exact ih (N - 1) _ _ (by omega) ⟨j + 1, r, pv, full, Hp, by omega, by rw [hsame]; exact hB, .of rfl, rfl⟩
 refine GC.exit rfl ?_
 refine GC.seq ?_
 refine GC.reg ?_
 refine G.v (V.ldA (b := b5) (off := 0) (s := 4) (wf := true) (l := [I (r : Nat), pv, S full, .bool false]) (T := 55) (fz := (0, 0)) (cs := [I (r : Nat), pv, S full, .bool false]) Try.isAgg55 Try.sizeOf55 rfl (.head _) rfl rfl) rfl ?_
 refine G.stA (b := b4) (cs := [I (r : Nat), pv, S full, .bool false]) (l := [I 0, .slice none 0 0, S [], .bool false]) Try.sizeOf55 rfl rfl (fun u hu => by simp only [List.mem_cons, List.not_mem_nil, or_false] at hu; rcases hu with rfl | rfl | rfl | rfl <;> first | rfl | exact hB.one) (.s .z) rfl ?_
 refine G.nil ?_
 have hje : j = l.length := by omega
 rw [hje] at hB
 refine GC.retC (cs := [I (r : Nat), pv, S full, .bool false]) rfl Try.isAgg55 Try.sizeOf55 rfl (.tail _ (.head _)) rfl fun w' hw' => ⟨r, pv, full, Hp, rfl, hB, ?_⟩
 exact hw'.sub ((List.sublist_cons_self _ _).trans (List.sublist_cons_self _ _))
end Go.Proofs

/- What the reference leaves open. No program in sight. -/
namespace Gt
open Gs Tr
/-- how far the next slash is -/
def sl (d : List UInt8) : Nat := (d.takeWhile (· ≠ 47)).length
theorem sl_le (d : List UInt8) : sl d ≤ d.length := (List.takeWhile_sublist _).length_le
theorem sl_lt : ∀ {d : List UInt8} {q : Nat}, q < sl d → ∃ x, d[q]? = some x ∧ x ≠ 47
  | [], q, h => by simp [sl] at h
  | c :: d, q, h => by
    unfold sl at h
    rw [List.takeWhile_cons] at h
    split at h
    · rename_i hc
      cases q with
      | zero => exact ⟨c, rfl, by simpa using hc⟩
      | succ q => simpa using sl_lt (d := d) (q := q) (by unfold sl; simpa using h)
    · simp at h
theorem sl_end : ∀ {d : List UInt8} {x : UInt8}, d[sl d]? = some x → x = 47
  | [], x, h => by simp at h
  | c :: d, x, h => by
    unfold sl at h
    rw [List.takeWhile_cons] at h
    split at h
    · exact sl_end (d := d) (by unfold sl; simpa using h)
    · rename_i hc
      have hcx : c = x := by simpa using h
      rw [← hcx]; simpa using hc
theorem sl_no {d : List UInt8} (h : ¬ (47 : UInt8) ∈ d) : sl d = d.length := by
  refine Nat.le_antisymm (sl_le d) (Nat.not_lt.1 fun hlt => h ?_)
  have := sl_end (List.getElem?_eq_getElem hlt)
  exact this ▸ List.getElem_mem hlt
/-- a path is one of a route whose parameters may be empty -/
def LAt (path : List UInt8) : List Prt → Nat → Prop
  | [], i => i = path.length
  | p :: l, i => if p.k.toNat = 0 then p.nm <+: path.drop i ∧ LAt path l (i + p.nm.length)
    else if p.k.toNat = 1 then LAt path l (i + sl (path.drop i)) else LAt path l path.length
def LooseN (l : List Prt) (path : List UInt8) : Prop := LAt path l 0
/-- how far two routes go together -/
noncomputable def same : List Tk → List Tk → Nat
  | a :: s, b :: r => @ite _ (a = b) (Classical.propDecidable _) (same s r + 1) 0
  | _, _ => 0
/-- passes from a token on: d: how far the routes go together -/
def PAt (path : List UInt8) (d : Nat) : List Tk → Nat → Nat → Prop
  | [], _, _ => False
  | t :: x, i, at_ => if t.k.toNat ≠ 0 then (if d < i then t.k.toNat = 2 ∨ at_ < path.length else PAt path d x (i + 1) (at_ + sl (path.drop at_)))
    else path[at_]? = some t.c ∧ PAt path d x (i + 1) (at_ + 1)
def PassN (x r : List Tk) (path : List UInt8) : Prop := PAt path (same x r) x 0 0
/-- begins from a token on -/
def BAt (path : List UInt8) : List Tk → Nat → Prop
  | [], at_ => at_ = path.length
  | t :: x, at_ => at_ = path.length ∨ (if t.k.toNat ≠ 0 then ¬ (47 : UInt8) ∈ path.drop at_ ∨ t.k.toNat = 2 ∨ BAt path x (at_ + sl (path.drop at_)) else path[at_]? = some t.c ∧ BAt path x (at_ + 1))
def BeginN (x : List Tk) (path : List UInt8) : Prop := BAt path x 0
end Gt

/- loose. Printed by wip/mk_go5.py. -/
set_option maxRecDepth 20000
namespace Go.Proofs
open Go Bw
open Gt
theorem f53_any (w : World) (l : List Prt) (sv : Value) (hsv : Prts w sv l) (hcl : Gt.Clean l) (path : List UInt8) (hpl : path.length ≤ 1000000) : Calls Try.prog 53 #[sv, S path] w fun e w' => e = .returned (.bool (dec (LooseN l path))) ∧ HF w (fun _ => False) [] w' := by
 refine enter (fun _ => False) [] Try.func53 rfl Try.ntmps53 rfl rfl (HF.start w _) fun c hc => ?_
 subst hc
 obtain ⟨ad, cp, rfl, hcp, hc⟩ := hsv
 have h12 := hcl.2.1
 refine GC.seq ?_
 refine GC.reg ?_
 refine G.m2 ?_
 refine G.nil ?_
 refine GC.seq ?_
 refine GC.reg ?_
 refine G.m2 ?_
 refine G.nil ?_
 refine GC.seq ?_
 refine GC.seq ?_
 refine GC.reg ?_
 refine G.m1 ?_
 refine G.v (V.lenL Try.underlying35 rfl) rfl ?_
 refine G.m1 ?_
 refine G.nil ?_
 refine GC.block ?_
 refine GC.loopJ (fun N fr' H' => ∃ (j i : Nat), j + N = l.length ∧ i ≤ path.length ∧ (LooseN l path ↔ LAt path (l.drop j) i) ∧ Sub [(1, S path), (5, I (i : Nat)), (8, .slice ad l.length cp), (9, I (l.length : Nat)), (10, I (j : Nat))] fr' ∧ H' = []) l.length
  ⟨0, 0, by omega, by omega, Iff.rfl, .of rfl, rfl⟩ ?_
 rintro N fr' H' ⟨j, i, hj, hil, hma, hs2, rfl⟩ ih
 refine GC.weak hs2 ?_
 clear hs2
 refine GC.seq ?_
 refine GC.reg ?_
 refine G.v (V.lt rfl rfl) rfl ?_
 refine G.nil ?_
 refine GC.seq ?_
 refine GC.condD rfl (fun h11 => ?_) (fun h11 => ?_)
 ·refine GC.skip ?_
  refine GC.seq ?_
  refine GC.block ?_
  refine GC.seq ?_
  have hjl : j < l.length := by omega
  obtain ⟨p, hp⟩ : ∃ p, l[j]? = some p := ⟨_, List.getElem?_eq_getElem hjl⟩
  obtain ⟨b, o, rfl, hc1, hc2⟩ := hc j p hp
  have hop := hcl.2.2.2 j p hp
  have hk2 := hop.2.1
  have hdr := drop_at hp
  rw [hdr] at hma
  unfold LAt at hma
  refine GC.reg ?_
  refine G.v (V.ia (i := j) Try.underlying35 Try.sizeOf50 rfl rfl hjl) rfl ?_
  refine G.v (V.ldAC (s := 2) (cs := prV p) Try.isAgg50 Try.sizeOf50 rfl (cells2 hc1 hc2) rfl id) rfl ?_
  refine G.al Try.zeroValue50 rfl rfl (fun pb hpb => ?_)
  refine G.stA (cs := prV p) Try.sizeOf50 rfl rfl (by simp [prV, Value.oneCell']) .z rfl ?_
  refine G.nil ?_
  refine GC.seq ?_
  refine GC.reg ?_
  refine G.v (V.fa F50_0 rfl) rfl ?_
  refine G.v (V.ld (b := pb) (off := 0 + 0) (wf := true) (l := prV p) (T := 50) (fz := (0, 0)) (v := .int .u8 (p.k.toNat : Int)) Try.isAgg5 rfl (.head _) rfl) rfl ?_
  refine G.nil ?_
  refine GC.block ?_
  refine GC.seq ?_
  refine GC.reg ?_
  refine G.v (V.eqI rfl rfl) rfl ?_
  refine G.m2 ?_
  refine G.nil ?_
  refine GC.condD rfl (fun h16 => ?_) (fun h16 => ?_)
  ·refine GC.seq ?_
   refine GC.seq ?_
   have hk0 : p.k.toNat = 0 := by omega
   rw [if_pos hk0] at hma
   refine GC.regQ mixed (by kernel_rfl) ?_
   refine GQ.v (V.mv rfl) rfl ?_
   refine GQ.v (V.mv rfl) rfl ?_
   refine GQ.v (V.slL (i := i) Try.underlying9 rfl rfl hil) rfl ?_
   refine GQ.v (V.fa F50_1 rfl) rfl ?_
   refine GQ.v (V.ld (b := pb) (off := 0 + 1) (wf := true) (l := prV p) (T := 50) (fz := (0, 0)) (v := S p.nm) Try.isAgg9 rfl (.head _) rfl) rfl ?_
   refine GQ.callP (v := .bool (decide (p.nm <+: path.drop i))) Try.call46 rfl rfl (fun w1 hw1 => f46_any w1 (path.drop i) p.nm (by rw [List.length_drop]; omega) (by have := (hop.2.2.2.1 hk0).2.1; omega)) ?_
   refine GQ.v (V.not rfl) rfl ?_
   refine GQ.nil ?_
   refine GC.cond rfl (fun h24 => ?_) (fun h24 => ?_)
   ·refine GC.seq ?_
    refine GC.reg ?_
    refine G.m2 ?_
    refine G.nil ?_
    refine GC.ret1 rfl rfl fun w' hw' => ⟨?_, hw'.sub (List.nil_sublist _)⟩
    refine congrArg (fun b => Ending.returned (Value.bool b)) ?_
    have hnp : ¬ p.nm <+: path.drop i := by simpa using h24
    exact dec_f fun h => hnp (hma.1 h).1
   refine GC.skip ?_
   have hpre : p.nm <+: path.drop i := by simpa using h24
   have hple := hpre.length_le
   rw [List.length_drop] at hple
   refine GC.reg ?_
   refine G.m1 ?_
   refine G.v (V.fa F50_1 rfl) rfl ?_
   refine G.v (V.ld (b := pb) (off := 0 + 1) (wf := true) (l := prV p) (T := 50) (fz := (0, 0)) (v := S p.nm) Try.isAgg9 rfl (.head _) rfl) rfl ?_
   refine G.v (V.lenS Try.underlying9 rfl) rfl ?_
   refine G.v (V.addI (r := ((i + p.nm.length : Nat) : Int)) rfl rfl (by omega) (by omega) (by omega)) rfl ?_
   refine G.m2 ?_
   refine G.nil ?_
   refine GC.inBlock ?_
   refine GC.inBlock ?_
   refine GC.reg ?_
   refine G.v (V.addI (r := ((j + 1 : Nat) : Int)) rfl rfl rfl (by omega) (by omega)) rfl ?_
   refine G.m1 ?_
   refine G.nil ?_
   refine GC.turn (H' := []) (fun w1 h1 => h1.sub (List.nil_sublist _)) ?_
   exact ih (N - 1) _ _ (by omega) ⟨j + 1, i + p.nm.length, by omega, by omega, hma.trans ⟨fun h => h.2, fun h => ⟨hpre, h⟩⟩, .of rfl, rfl⟩
  refine GC.seq ?_
  refine GC.reg ?_
  refine G.v (V.eqI rfl rfl) rfl ?_
  refine G.m2 ?_
  refine G.nil ?_
  refine GC.condD rfl (fun h30 => ?_) (fun h30 => ?_)
  ·refine GC.block ?_
   refine GC.loopJ (fun N2 fr' H' => ∃ q : Nat, q + N2 = sl (path.drop i) ∧ Sub [(1, S path), (5, I ((i + q : Nat) : Int)), (8, .slice (some ⟨b, o, none⟩) l.length cp), (9, I (l.length : Nat)), (10, I (j : Nat))] fr' ∧ H' = [⟨pb, true, .row (prV p) 50 (0, 0)⟩]) (sl (path.drop i))
    ⟨0, by omega, .of rfl, rfl⟩ ?_
   rintro N2 fr' H' ⟨q, hq, hs2, rfl⟩ ih2
   refine GC.weak hs2 ?_
   clear hs2
   refine GC.seq ?_
   refine GC.seq ?_
   have hk1 : p.k.toNat = 1 := by omega
   have hsle := sl_le (path.drop i)
   rw [List.length_drop] at hsle
   refine GC.join (fun fr' H' => Sub [(1, S path), (5, I ((i + q : Nat) : Int)), (8, .slice (some ⟨b, o, none⟩) l.length cp), (9, I (l.length : Nat)), (10, I (j : Nat)), (41, .bool (dec (q < sl (path.drop i))))] fr' ∧ H' = [⟨pb, true, .row (prV p) 50 (0, 0)⟩]) (fun J11 => ?_) ?_
   ·refine GC.reg ?_
    refine G.m1 ?_
    refine G.m1 ?_
    refine G.v (V.lenS Try.underlying9 rfl) rfl ?_
    refine G.v (V.lt rfl rfl) rfl ?_
    refine G.m1 ?_
    refine G.bc 36 rfl (fun h36 => ?_) (fun h36 => ?_)
    ·refine G.m5 ?_
     refine G.m5 ?_
     have h36' := of_decide_eq_true h36
     obtain ⟨x, hx⟩ : ∃ x, path[i + q]? = some x := ⟨_, List.getElem?_eq_getElem (by omega)⟩
     have hxd : (path.drop i)[q]? = some x := by rw [List.getElem?_drop]; exact hx
     refine G.vg rfl rfl (V.idx (i := i + q) (b := x) Try.underlying9 rfl rfl hx) rfl ?_
     refine G.vg rfl rfl (V.neI rfl rfl) rfl ?_
     refine G.m3 ?_
     refine G.nil ?_
     refine J11 _ _ ⟨.cons rfl (.cons rfl (.cons rfl (.cons rfl (.cons rfl (.cons (rfl.trans (congrArg (fun b => some (Value.bool b)) ?_)) .nil))))), rfl⟩
     refine dec_n ⟨fun h => ?_, fun h hx47 => ?_⟩
     ·rcases Nat.lt_or_ge q (sl (path.drop i)) with h1 | h1
      ·exact h1
      ·have hqe : q = sl (path.drop i) := by omega
       rw [hqe] at hxd
       exact absurd (by rw [sl_end hxd]; rfl) h
     ·obtain ⟨y, hy1, hy2⟩ := sl_lt h
      rw [hxd] at hy1
      cases hy1
      exact hy2 (u_eq (k := 47) (by omega) (by omega))
    ·refine G.s1 ?_
     refine G.s1 ?_
     refine G.s1 ?_
     refine G.s1 ?_
     refine G.m4 ?_
     refine G.nil ?_
     refine J11 _ _ ⟨.cons rfl (.cons rfl (.cons rfl (.cons rfl (.cons rfl (.cons (rfl.trans (congrArg (fun b => some (Value.bool b)) ?_)) .nil))))), rfl⟩
     have h36' := of_decide_eq_false h36
     exact dec_f fun h => h36' (by omega)
   rintro fr' H' ⟨hs4, rfl⟩
   refine GC.weak hs4 ?_
   clear hs4
   refine GC.cond rfl (fun h41 => ?_) (fun h41 => ?_)
   ·refine GC.skip ?_
    refine GC.block ?_
    refine GC.reg ?_
    refine G.m1 ?_
    refine G.v (V.addI (r := ((i + (q + 1) : Nat) : Int)) rfl rfl (by omega) (by omega) (by omega)) rfl ?_
    refine G.m2 ?_
    refine G.nil ?_
    refine GC.inBlock ?_
    have hlt := dec_true.1 h41
    exact ih2 (N2 - 1) _ _ (by omega) ⟨q + 1, by omega, .of rfl, rfl⟩
   refine GC.exit rfl ?_
   refine GC.inBlock ?_
   refine GC.inBlock ?_
   refine GC.reg ?_
   refine G.v (V.addI (r := ((j + 1 : Nat) : Int)) rfl rfl rfl (by omega) (by omega)) rfl ?_
   refine G.m1 ?_
   refine G.nil ?_
   refine GC.turn (H' := []) (fun w1 h1 => h1.sub (List.nil_sublist _)) ?_
   have hge := dec_false.1 h41
   have hqe : q = sl (path.drop i) := by omega
   rw [if_neg (by omega), if_pos hk1, ← hqe] at hma
   exact ih (N - 1) _ _ (by omega) ⟨j + 1, i + q, by omega, by omega, hma, .of rfl, rfl⟩
  refine GC.seq ?_
  refine GC.reg ?_
  refine G.v (V.eqI rfl rfl) rfl ?_
  refine G.m2 ?_
  refine G.nil ?_
  refine GC.condD rfl (fun h44 => ?_) (fun h44 => ?_)
  ·refine GC.reg ?_
   refine G.m1 ?_
   refine G.v (V.lenS Try.underlying9 rfl) rfl ?_
   refine G.m2 ?_
   refine G.nil ?_
   refine GC.inBlock ?_
   refine GC.inBlock ?_
   refine GC.reg ?_
   refine G.v (V.addI (r := ((j + 1 : Nat) : Int)) rfl rfl rfl (by omega) (by omega)) rfl ?_
   refine G.m1 ?_
   refine G.nil ?_
   refine GC.turn (H' := []) (fun w1 h1 => h1.sub (List.nil_sublist _)) ?_
   rw [if_neg (by omega), if_neg (by omega)] at hma
   exact ih (N - 1) _ _ (by omega) ⟨j + 1, path.length, by omega, by omega, hma, .of rfl, rfl⟩
  refine GC.skip ?_
  refine GC.inBlock ?_
  refine GC.inBlock ?_
  refine GC.reg ?_
  refine G.v (V.addI (r := ((j + 1 : Nat) : Int)) rfl rfl rfl (by omega) (by omega)) rfl ?_
  refine G.m1 ?_
  refine G.nil ?_
  omega
 refine GC.exit rfl ?_
 refine GC.seq ?_
 refine GC.reg ?_
 refine G.m1 ?_
 refine G.m1 ?_
 refine G.v (V.lenS Try.underlying9 rfl) rfl ?_
 refine G.v (V.eqI rfl rfl) rfl ?_
 refine G.m2 ?_
 refine G.nil ?_
 refine GC.ret1 rfl rfl fun w' hw' => ⟨?_, hw'.sub (List.nil_sublist _)⟩
 refine congrArg (fun b => Ending.returned (Value.bool b)) ?_
 have hje : j = l.length := by omega
 rw [hje, List.drop_length] at hma
 unfold LAt at hma
 exact dec_d ⟨fun h => hma.2 (by omega), fun h => by have := hma.1 h; omega⟩
end Go.Proofs

/- begins. Printed by wip/mk_go6.py. -/
set_option maxRecDepth 20000
namespace Go.Proofs
open Go Bw
open Gt
/-- tokens in memory -/
def Tks (w : World) (sv : Value) (l : List Tk) : Prop := ∃ ad cp, sv = .slice ad l.length cp ∧ ∀ (j : Nat) t, l[j]? = some t → ∃ b o, ad = some ⟨b, o, none⟩ ∧ ∀ (q : Nat) v, (tkV t)[q]? = some v → w.cell? ⟨b, o + j * 3 + q, none⟩ = some v
theorem Tks.old {w w1 : World} {sv : Value} {l : List Tk} {H : SH} (h : Tks w sv l) (hw : HF w (fun _ => False) H w1) : Tks w1 sv l := by
 obtain ⟨ad, cp, rfl, hc⟩ := h
 refine ⟨ad, cp, rfl, fun j p hj => ?_⟩
 obtain ⟨b, o, e, h1⟩ := hc j p hj
 exact ⟨b, o, e, fun q v hv => hw.cellOld (h1 q v hv) id⟩
theorem _root_.Bw.Own.tks {w0 w : World} {D : Nat → Prop} {H Hs : SH} {sv : Value} {l : List Tk} (ho : Own 102 3 sv l.length (flatK l) Hs) (hw : HF w0 D H w) (hsub : ∀ x ∈ Hs, x ∈ H) : Tks w sv l := by
 generalize hn : l.length = n at ho
 generalize hx : flatK l = xs at ho
 cases ho with
 | nil => exact ⟨none, 0, by rw [hn], fun j x hj => by have := (List.getElem?_eq_some_iff.1 hj).1; omega⟩
 | @row b n cap xs spare h1 h2 h3 =>
  subst hx
  refine ⟨some ⟨b, 0, none⟩, cap, by rw [hn], fun j t hj => ⟨b, 0, rfl, fun q v hv => ?_⟩⟩
  have h4 := flatK_at hj spare
  have hq : q < 3 := (List.getElem?_eq_some_iff.1 hv).1
  have h5 : (((flatK l ++ spare).drop (0 + j * 3)).take 3)[q]? = some v := by rw [h4]; exact hv
  rw [List.getElem?_take_of_lt hq, List.getElem?_drop] at h5
  exact cell_row hw (hsub _ (.head _)) (by rw [nth_eq]; exact h5)
theorem f58_any (w : World) (l : List Tk) (sv : Value) (hsv : Tks w sv l) (hll : l.length ≤ 1000000) (path : List UInt8) (hpl : path.length ≤ 1000000) : Calls Try.prog 58 #[sv, S path] w fun e w' => e = .returned (.bool (dec (BeginN l path))) ∧ HF w (fun _ => False) [] w' := by
 refine enter (fun _ => False) [] Try.func58 rfl Try.ntmps58 rfl rfl (HF.start w _) fun c hc => ?_
 subst hc
 obtain ⟨ad, cp, rfl, hc⟩ := hsv
 refine GC.seq ?_
 refine GC.reg ?_
 refine G.m2 ?_
 refine G.nil ?_
 refine GC.seq ?_
 refine GC.reg ?_
 refine G.m2 ?_
 refine G.nil ?_
 refine GC.seq ?_
 refine GC.seq ?_
 refine GC.reg ?_
 refine G.m1 ?_
 refine G.v (V.lenL Try.underlying79 rfl) rfl ?_
 refine G.m1 ?_
 refine G.nil ?_
 refine GC.block ?_
 refine GC.loopJ (fun N fr' H' => ∃ (j i : Nat), j + N = l.length ∧ i ≤ path.length ∧ (BeginN l path ↔ BAt path (l.drop j) i) ∧ Sub [(1, S path), (5, I (i : Nat)), (9, .slice ad l.length cp), (10, I (l.length : Nat)), (11, I (j : Nat))] fr' ∧ H' = []) l.length
  ⟨0, 0, by omega, by omega, Iff.rfl, .of rfl, rfl⟩ ?_
 rintro N fr' H' ⟨j, i, hj, hil, hma, hs2, rfl⟩ ih
 refine GC.weak hs2 ?_
 clear hs2
 refine GC.seq ?_
 refine GC.reg ?_
 refine G.v (V.lt rfl rfl) rfl ?_
 refine G.nil ?_
 refine GC.seq ?_
 refine GC.condD rfl (fun h12 => ?_) (fun h12 => ?_)
 ·refine GC.skip ?_
  refine GC.seq ?_
  refine GC.block ?_
  refine GC.seq ?_
  have hjl : j < l.length := by omega
  obtain ⟨t, ht⟩ : ∃ p, l[j]? = some p := ⟨_, List.getElem?_eq_getElem hjl⟩
  obtain ⟨b, o, rfl, hc1⟩ := hc j t ht
  have hdr := drop_cons ht
  rw [hdr] at hma
  unfold BAt at hma
  refine GC.reg ?_
  refine G.v (V.ia (i := j) Try.underlying79 Try.sizeOf102 rfl rfl hjl) rfl ?_
  refine G.v (V.ldAC (s := 3) (cs := tkV t) Try.isAgg102 Try.sizeOf102 rfl hc1 rfl id) rfl ?_
  refine G.al Try.zeroValue102 rfl rfl (fun pb hpb => ?_)
  refine G.stA (cs := tkV t) Try.sizeOf102 rfl rfl (tkV_one t) .z rfl ?_
  refine G.nil ?_
  refine GC.seq ?_
  refine GC.seq ?_
  refine GC.reg ?_
  refine G.m1 ?_
  refine G.m1 ?_
  refine G.v (V.lenS Try.underlying9 rfl) rfl ?_
  refine G.v (V.eqI rfl rfl) rfl ?_
  refine G.nil ?_
  refine GC.condD rfl (fun h18 => ?_) (fun h18 => ?_)
  ·refine GC.seq ?_
   refine GC.reg ?_
   refine G.m2 ?_
   refine G.nil ?_
   refine GC.ret1 rfl rfl fun w' hw' => ⟨?_, hw'.sub (List.nil_sublist _)⟩
   refine congrArg (fun b => Ending.returned (Value.bool b)) ?_
   exact dec_t (hma.2 (.inl (by omega)))
  refine GC.skip ?_
  refine GC.seq ?_
  refine GC.seq ?_
  have hine : ¬ i = path.length := by omega
  refine GC.reg ?_
  refine G.v (V.fa F102_0 rfl) rfl ?_
  refine G.v (V.ld (b := pb) (off := 0 + 0) (wf := true) (l := tkV t) (T := 102) (fz := (0, 0)) (v := .int .u8 (t.k.toNat : Int)) Try.isAgg5 rfl (.head _) rfl) rfl ?_
  refine G.v (V.neI rfl rfl) rfl ?_
  refine G.nil ?_
  refine GC.cond rfl (fun h21 => ?_) (fun h21 => ?_)
  ·refine GC.seq ?_
   have hk0 : t.k.toNat ≠ 0 := by simpa using h21
   rw [if_pos hk0] at hma
   refine GC.reg ?_
   refine G.m1 ?_
   refine G.m1 ?_
   refine G.v (V.slL (i := i) Try.underlying9 rfl rfl hil) rfl ?_
   refine G.callP (v := I (Lib.indexByte (path.drop i) 47)) Try.call52 rfl rfl (fun w1 hw1 => f52_any w1 (path.drop i) 47) ?_
   rw [index47]
   refine G.m2 ?_
   refine G.nil ?_
   refine GC.seq ?_
   refine GC.seq ?_
   refine GC.join (fun fr' H' => Sub [(8, I (if (47 : UInt8) ∈ path.drop i then ((sl (path.drop i) : Nat) : Int) else -1)), (1, S path), (5, I (i : Nat)), (9, .slice (some ⟨b, o, none⟩) l.length cp), (10, I (l.length : Nat)), (11, I (j : Nat)), (32, .bool (dec (¬ (47 : UInt8) ∈ path.drop i ∨ t.k.toNat = 2)))] fr' ∧ H' = [⟨pb, true, .row (tkV t) 102 (0, 0)⟩]) (fun J9 => ?_) ?_
   ·refine GC.reg ?_
    refine G.m1 ?_
    refine G.v (V.lt rfl rfl) rfl ?_
    refine G.m1 ?_
    refine G.bc 28 rfl (fun h28 => ?_) (fun h28 => ?_)
    ·refine G.s1 ?_
     refine G.s1 ?_
     refine G.s1 ?_
     refine G.m3 ?_
     refine G.nil ?_
     refine J9 _ _ ⟨.cons rfl (.cons rfl (.cons rfl (.cons rfl (.cons rfl (.cons rfl (.cons (rfl.trans (congrArg (fun b => some (Value.bool b)) ?_)) .nil)))))), rfl⟩
     have h28' := of_decide_eq_true h28
     exact dec_t (.inl fun h => by rw [if_pos h] at h28'; omega)
    ·refine G.vg rfl rfl (V.fa F102_0 rfl) rfl ?_
     refine G.vg rfl rfl (V.ld (b := pb) (off := 0 + 0) (wf := true) (l := tkV t) (T := 102) (fz := (0, 0)) (v := .int .u8 (t.k.toNat : Int)) Try.isAgg5 rfl (.head _) rfl) rfl ?_
     refine G.vg rfl rfl (V.eqI rfl rfl) rfl ?_
     refine G.m4 ?_
     refine G.nil ?_
     refine J9 _ _ ⟨.cons rfl (.cons rfl (.cons rfl (.cons rfl (.cons rfl (.cons rfl (.cons (rfl.trans (congrArg (fun b => some (Value.bool b)) ?_)) .nil)))))), rfl⟩
     have h28' := of_decide_eq_false h28
     have hin : (47 : UInt8) ∈ path.drop i := Classical.byContradiction fun h => h28' (by rw [if_neg h]; decide)
     exact dec_d ⟨fun h => .inr (by omega), fun h => h.elim (fun h => absurd hin h) (fun h => by omega)⟩
   rintro fr' H' ⟨hs4, rfl⟩
   refine GC.weak hs4 ?_
   clear hs4
   refine GC.cond rfl (fun h32 => ?_) (fun h32 => ?_)
   ·refine GC.seq ?_
    refine GC.reg ?_
    refine G.m2 ?_
    refine G.nil ?_
    refine GC.ret1 rfl rfl fun w' hw' => ⟨?_, hw'.sub (List.nil_sublist _)⟩
    refine congrArg (fun b => Ending.returned (Value.bool b)) ?_
    have hb := dec_true.1 h32
    refine dec_t (hma.2 (.inr ?_))
    rcases hb with h | h
    ·exact .inl h
    ·exact .inr (.inl h)
   refine GC.skip ?_
   refine GC.seq ?_
   have hnb := dec_false.1 h32
   have hin : (47 : UInt8) ∈ path.drop i := Classical.byContradiction fun h => hnb (.inl h)
   have hsle := sl_le (path.drop i)
   rw [List.length_drop] at hsle
   rw [if_pos hin]
   refine GC.reg ?_
   refine G.m1 ?_
   refine G.m1 ?_
   refine G.v (V.addI (r := ((i + sl (path.drop i) : Nat) : Int)) rfl rfl (by omega) (by omega) (by omega)) rfl ?_
   refine G.m2 ?_
   refine G.nil ?_
   refine GC.exit rfl ?_
   refine GC.reg ?_
   refine G.v (V.addI (r := ((j + 1 : Nat) : Int)) rfl rfl rfl (by omega) (by omega)) rfl ?_
   refine G.m1 ?_
   refine G.nil ?_
   refine GC.turn (H' := []) (fun w1 h1 => h1.sub (List.nil_sublist _)) ?_
   refine ih (N - 1) _ _ (by omega) ⟨j + 1, i + sl (path.drop i), by omega, by omega, hma.trans ⟨fun h => ?_, fun h => .inr (.inr (.inr h))⟩, .of rfl, rfl⟩
   rcases h with h | h | h | h
   ·exact absurd h hine
   ·exact absurd hin h
   ·exact absurd (.inr h) hnb
   ·exact h
  refine GC.skip ?_
  refine GC.seq ?_
  refine GC.seq ?_
  have hk0 : t.k.toNat = 0 := by simpa using h21
  rw [if_neg (fun h => h hk0)] at hma
  obtain ⟨x, hx⟩ : ∃ x, path[i]? = some x := ⟨_, List.getElem?_eq_getElem (by omega)⟩
  refine GC.regQ mixed (by kernel_rfl) ?_
  refine GQ.v (V.mv rfl) rfl ?_
  refine GQ.v (V.mv rfl) rfl ?_
  refine GQ.v (V.idx (i := i) (b := x) Try.underlying9 rfl rfl hx) rfl ?_
  refine GQ.v (V.fa F102_1 rfl) rfl ?_
  refine GQ.v (V.ld (b := pb) (off := 0 + 1) (wf := true) (l := tkV t) (T := 102) (fz := (0, 0)) (v := .int .u8 (t.c.toNat : Int)) Try.isAgg5 rfl (.head _) rfl) rfl ?_
  refine GQ.v (V.neI rfl rfl) rfl ?_
  refine GQ.nil ?_
  refine GC.cond rfl (fun h41 => ?_) (fun h41 => ?_)
  ·refine GC.seq ?_
   refine GC.reg ?_
   refine G.m2 ?_
   refine G.nil ?_
   refine GC.ret1 rfl rfl fun w' hw' => ⟨?_, hw'.sub (List.nil_sublist _)⟩
   refine congrArg (fun b => Ending.returned (Value.bool b)) ?_
   have hxc : ¬ x.toNat = t.c.toNat := by
    have h41' : ¬ (x.toNat : Int) = t.c.toNat := by simpa using h41
    omega
   refine dec_f fun h => ?_
   rcases hma.1 h with h | h
   ·exact hine h
   ·rw [hx] at h; cases h.1; exact hxc rfl
  refine GC.skip ?_
  refine GC.reg ?_
  refine G.m1 ?_
  refine G.v (V.addI (r := ((i + 1 : Nat) : Int)) rfl rfl rfl (by omega) (by omega)) rfl ?_
  refine G.m2 ?_
  refine G.nil ?_
  refine GC.inBlock ?_
  refine GC.reg ?_
  refine G.v (V.addI (r := ((j + 1 : Nat) : Int)) rfl rfl rfl (by omega) (by omega)) rfl ?_
  refine G.m1 ?_
  refine G.nil ?_
  refine GC.turn (H' := []) (fun w1 h1 => h1.sub (List.nil_sublist _)) ?_
  have hxc : x = t.c := by
   have h41' : (x.toNat : Int) = t.c.toNat := by simpa using h41
   exact UInt8.toNat_inj.1 (by omega)
  refine ih (N - 1) _ _ (by omega) ⟨j + 1, i + 1, by omega, by omega, hma.trans ⟨fun h => ?_, fun h => .inr ⟨by rw [hx, hxc], h⟩⟩, .of rfl, rfl⟩
  rcases h with h | h
  ·exact absurd h hine
  ·exact h.2
 refine GC.exit rfl ?_
 refine GC.seq ?_
 refine GC.reg ?_
 refine G.m1 ?_
 refine G.m1 ?_
 refine G.v (V.lenS Try.underlying9 rfl) rfl ?_
 refine G.v (V.eqI rfl rfl) rfl ?_
 refine G.m2 ?_
 refine G.nil ?_
 refine GC.ret1 rfl rfl fun w' hw' => ⟨?_, hw'.sub (List.nil_sublist _)⟩
 refine congrArg (fun b => Ending.returned (Value.bool b)) ?_
 have hje : j = l.length := by omega
 rw [hje, List.drop_length] at hma
 unfold BAt at hma
 exact dec_d ⟨fun h => hma.2 (by omega), fun h => by have := hma.1 h; omega⟩
end Go.Proofs

/- passes. Printed by wip/mk_go7.py. -/
set_option maxRecDepth 20000
namespace Go.Proofs
open Go Bw
open Gt
theorem same_step {x r : List Tk} {d : Nat} {a : Tk} (hx : x[d]? = some a) (hr : r[d]? = some a) : same (x.drop d) (r.drop d) = same (x.drop (d + 1)) (r.drop (d + 1)) + 1 := by
 rw [drop_cons hx, drop_cons hr, same, if_pos rfl]
theorem same_stop {x r : List Tk} {d : Nat} (h : ¬ (d < x.length ∧ d < r.length ∧ x[d]? = r[d]?)) : same (x.drop d) (r.drop d) = 0 := by
 rcases Nat.lt_or_ge d x.length with h1 | h1
 ·rcases Nat.lt_or_ge d r.length with h2 | h2
  ·have hx := List.getElem?_eq_getElem h1
   have hr := List.getElem?_eq_getElem h2
   rw [drop_cons hx, drop_cons hr, same, if_neg]
   intro e
   exact h ⟨h1, h2, by rw [hx, hr, e]⟩
  ·rw [List.drop_of_length_le h2]
   cases x.drop d <;> rfl
 ·rw [List.drop_of_length_le h1]; rfl
theorem f56_any (w : World) (x r : List Tk) (sx sr : Value) (hsx : Tks w sx x) (hsr : Tks w sr r) (hxl : x.length ≤ 1000000) (hrl : r.length ≤ 1000000) (path : List UInt8) (hpl : path.length ≤ 1000000) : Calls Try.prog 56 #[sx, sr, S path] w fun e w' => e = .returned (.bool (dec (PassN x r path))) ∧ HF w (fun _ => False) [] w' := by
 refine enter (fun _ => False) [] Try.func56 rfl Try.ntmps56 rfl rfl (HF.start w _) fun c hc => ?_
 subst hc
 obtain ⟨adx, cpx, rfl, hcx⟩ := hsx
 obtain ⟨adr, cpr, rfl, hcr⟩ := hsr
 refine GC.seq ?_
 refine GC.reg ?_
 refine G.m2 ?_
 refine G.nil ?_
 refine GC.seq ?_
 refine GC.reg ?_
 refine G.m2 ?_
 refine G.nil ?_
 refine GC.seq ?_
 refine GC.block ?_
 refine GC.loopJ (fun N fr' H' => ∃ (d : Nat), d + N = x.length ∧ same x r = d + same (x.drop d) (r.drop d) ∧ Sub [(0, .slice adx x.length cpx), (1, .slice adr r.length cpr), (2, S path), (7, I (d : Nat))] fr' ∧ H' = []) x.length
  ⟨0, by omega, by simp, .of rfl, rfl⟩ ?_
 rintro N fr' H' ⟨d, hd, hsm, hs2, rfl⟩ ih
 refine GC.weak hs2 ?_
 clear hs2
 refine GC.seq ?_
 refine GC.seq ?_
 refine GC.join (fun fr' H' => Sub [(0, .slice adx x.length cpx), (1, .slice adr r.length cpr), (2, S path), (7, I (d : Nat)), (32, .bool (dec (d < x.length ∧ d < r.length ∧ x[d]? = r[d]?)))] fr' ∧ H' = []) (fun J2 => ?_) ?_
 ·refine GC.regQ mixed (by kernel_rfl) ?_
  refine GQ.v (V.mv rfl) rfl ?_
  refine GQ.v (V.mv rfl) rfl ?_
  refine GQ.v (V.lenL Try.underlying79 rfl) rfl ?_
  refine GQ.v (V.lt rfl rfl) rfl ?_
  refine GQ.v (V.mv rfl) rfl ?_
  refine GQ.bc 16 rfl (fun h16 => ?_) (fun h16 => ?_)
  ·refine GQ.vg rfl rfl (V.mv rfl) rfl ?_
   refine GQ.vg rfl rfl (V.mv rfl) rfl ?_
   refine GQ.vg rfl rfl (V.lenL Try.underlying79 rfl) rfl ?_
   refine GQ.vg rfl rfl (V.lt rfl rfl) rfl ?_
   refine GQ.v (V.pickT rfl rfl) rfl ?_
   refine GQ.v (V.mv rfl) rfl ?_
   refine GQ.bc 22 rfl (fun h22 => ?_) (fun h22 => ?_)
   ·refine GQ.vg rfl rfl (V.mv rfl) rfl ?_
    refine GQ.vg rfl rfl (V.mv rfl) rfl ?_
    have h16' := of_decide_eq_true h16
    have h22' := of_decide_eq_true h22
    have hdx : d < x.length := by omega
    have hdr : d < r.length := by omega
    obtain ⟨a, hxa⟩ : ∃ a, x[d]? = some a := ⟨_, List.getElem?_eq_getElem hdx⟩
    obtain ⟨b, hrb⟩ : ∃ b, r[d]? = some b := ⟨_, List.getElem?_eq_getElem hdr⟩
    obtain ⟨b1, o1, rfl, hc1⟩ := hcx d a hxa
    obtain ⟨b2, o2, rfl, hc2⟩ := hcr d b hrb
    refine GQ.vg rfl rfl (V.ia (i := d) Try.underlying79 Try.sizeOf102 rfl rfl hdx) rfl ?_
    refine GQ.vg rfl rfl (V.ldAC (s := 3) (cs := tkV a) Try.isAgg102 Try.sizeOf102 rfl hc1 rfl id) rfl ?_
    refine GQ.vg rfl rfl (V.mv rfl) rfl ?_
    refine GQ.vg rfl rfl (V.mv rfl) rfl ?_
    refine GQ.vg rfl rfl (V.ia (i := d) Try.underlying79 Try.sizeOf102 rfl rfl hdr) rfl ?_
    refine GQ.vg rfl rfl (V.ldAC (s := 3) (cs := tkV b) Try.isAgg102 Try.sizeOf102 rfl hc2 rfl id) rfl ?_
    refine GQ.vg rfl rfl (V.eq102 rfl rfl) rfl ?_
    refine GQ.v (V.pickT rfl rfl) rfl ?_
    refine GQ.nil ?_
    refine J2 _ _ ⟨.cons rfl (.cons rfl (.cons rfl (.cons rfl (.cons (rfl.trans (congrArg (fun b => some (Value.bool b)) ?_)) .nil)))), rfl⟩
    exact dec_c ⟨fun h => ⟨hdx, hdr, by rw [hxa, hrb, h]⟩, fun h => by have h3 := h.2.2; rw [hxa, hrb] at h3; exact Option.some.inj h3⟩
   ·refine GQ.sg rfl rfl rfl rfl rfl rfl ?_
    refine GQ.sg rfl rfl rfl rfl rfl rfl ?_
    refine GQ.sg rfl rfl rfl rfl rfl rfl ?_
    refine GQ.sg rfl rfl rfl rfl rfl rfl ?_
    refine GQ.sg rfl rfl rfl rfl rfl rfl ?_
    refine GQ.sg rfl rfl rfl rfl rfl rfl ?_
    refine GQ.sg rfl rfl rfl rfl rfl rfl ?_
    refine GQ.sg rfl rfl rfl rfl rfl rfl ?_
    refine GQ.sg rfl rfl rfl rfl rfl rfl ?_
    refine GQ.v (V.pickF rfl rfl) rfl ?_
    refine GQ.nil ?_
    refine J2 _ _ ⟨.cons rfl (.cons rfl (.cons rfl (.cons rfl (.cons (rfl.trans (congrArg (fun b => some (Value.bool b)) ?_)) .nil)))), rfl⟩
    have h22' := of_decide_eq_false h22
    exact dec_f fun h => h22' (by have := h.2.1; omega)
  ·refine GQ.sg rfl rfl rfl rfl rfl rfl ?_
   refine GQ.sg rfl rfl rfl rfl rfl rfl ?_
   refine GQ.sg rfl rfl rfl rfl rfl rfl ?_
   refine GQ.sg rfl rfl rfl rfl rfl rfl ?_
   refine GQ.v (V.pickF rfl rfl) rfl ?_
   refine GQ.v (V.mv rfl) rfl ?_
   refine GQ.sg rfl rfl rfl rfl rfl rfl ?_
   refine GQ.sg rfl rfl rfl rfl rfl rfl ?_
   refine GQ.sg rfl rfl rfl rfl rfl rfl ?_
   refine GQ.sg rfl rfl rfl rfl rfl rfl ?_
   refine GQ.sg rfl rfl rfl rfl rfl rfl ?_
   refine GQ.sg rfl rfl rfl rfl rfl rfl ?_
   refine GQ.sg rfl rfl rfl rfl rfl rfl ?_
   refine GQ.sg rfl rfl rfl rfl rfl rfl ?_
   refine GQ.sg rfl rfl rfl rfl rfl rfl ?_
   refine GQ.v (V.pickF rfl rfl) rfl ?_
   refine GQ.nil ?_
   refine J2 _ _ ⟨.cons rfl (.cons rfl (.cons rfl (.cons rfl (.cons (rfl.trans (congrArg (fun b => some (Value.bool b)) ?_)) .nil)))), rfl⟩
   have h16' := of_decide_eq_false h16
   exact dec_f fun h => h16' (by have := h.1; omega)
 rintro fr' H' ⟨hs4, rfl⟩
 refine GC.weak hs4 ?_
 clear hs4
 refine GC.cond rfl (fun h32 => ?_) (fun h32 => ?_)
 ·refine GC.skip ?_
  refine GC.block ?_
  obtain ⟨hdx, hdr, hxr⟩ := dec_true.1 h32
  obtain ⟨a, hxa⟩ : ∃ a, x[d]? = some a := ⟨_, List.getElem?_eq_getElem hdx⟩
  have hst := same_step hxa (by rw [← hxr]; exact hxa)
  refine GC.reg ?_
  refine G.m1 ?_
  refine G.v (V.addI (r := ((d + 1 : Nat) : Int)) rfl rfl rfl (by omega) (by omega)) rfl ?_
  refine G.m2 ?_
  refine G.nil ?_
  refine GC.inBlock ?_
  exact ih (N - 1) _ _ (by omega) ⟨d + 1, by omega, by rw [hsm, hst]; omega, .of rfl, rfl⟩
 refine GC.exit rfl ?_
 refine GC.seq ?_
 have hsd : same x r = d := by rw [hsm, same_stop (dec_false.1 h32)]; rfl
 refine GC.reg ?_
 refine G.m2 ?_
 refine G.nil ?_
 refine GC.seq ?_
 refine GC.seq ?_
 refine GC.reg ?_
 refine G.m1 ?_
 refine G.v (V.lenL Try.underlying79 rfl) rfl ?_
 refine G.m1 ?_
 refine G.nil ?_
 refine GC.block ?_
 refine GC.loopJ (fun N2 fr' H' => ∃ (j i : Nat), j + N2 = x.length ∧ i ≤ path.length ∧ (PassN x r path ↔ PAt path d (x.drop j) j i) ∧ Sub [(2, S path), (7, I (d : Nat)), (8, I (i : Nat)), (35, .slice adx x.length cpx), (36, I (x.length : Nat)), (37, I (j : Nat))] fr' ∧ H' = []) x.length
  ⟨0, 0, by omega, by omega, by unfold PassN; rw [hsd]; exact Iff.rfl, .of rfl, rfl⟩ ?_
 rintro N2 fr' H' ⟨j, i, hj, hil, hma, hs2, rfl⟩ ih2
 refine GC.weak hs2 ?_
 clear hs2
 refine GC.seq ?_
 refine GC.reg ?_
 refine G.v (V.lt rfl rfl) rfl ?_
 refine G.nil ?_
 refine GC.seq ?_
 refine GC.condD rfl (fun h38 => ?_) (fun h38 => ?_)
 ·refine GC.skip ?_
  refine GC.seq ?_
  refine GC.block ?_
  refine GC.seq ?_
  have hjl : j < x.length := by omega
  obtain ⟨t, ht⟩ : ∃ p, x[j]? = some p := ⟨_, List.getElem?_eq_getElem hjl⟩
  obtain ⟨b, o, rfl, hc1⟩ := hcx j t ht
  have hdr := drop_cons ht
  rw [hdr] at hma
  unfold PAt at hma
  refine GC.reg ?_
  refine G.m1 ?_
  refine G.v (V.ia (i := j) Try.underlying79 Try.sizeOf102 rfl rfl hjl) rfl ?_
  refine G.v (V.ldAC (s := 3) (cs := tkV t) Try.isAgg102 Try.sizeOf102 rfl hc1 rfl id) rfl ?_
  refine G.al Try.zeroValue102 rfl rfl (fun pb hpb => ?_)
  refine G.m2 ?_
  refine G.stA (cs := tkV t) Try.sizeOf102 rfl rfl (tkV_one t) .z rfl ?_
  refine G.nil ?_
  refine GC.seq ?_
  refine GC.seq ?_
  refine GC.reg ?_
  refine G.v (V.fa F102_0 rfl) rfl ?_
  refine G.v (V.ld (b := pb) (off := 0 + 0) (wf := true) (l := tkV t) (T := 102) (fz := (0, 0)) (v := .int .u8 (t.k.toNat : Int)) Try.isAgg5 rfl (.head _) rfl) rfl ?_
  refine G.v (V.neI rfl rfl) rfl ?_
  refine G.nil ?_
  refine GC.cond rfl (fun h44 => ?_) (fun h44 => ?_)
  ·refine GC.seq ?_
   have hk0 : t.k.toNat ≠ 0 := by simpa using h44
   rw [if_pos hk0] at hma
   have hsle := sl_le (path.drop i)
   rw [List.length_drop] at hsle
   refine GC.reg ?_
   refine G.m1 ?_
   refine G.m1 ?_
   refine G.v (V.slL (i := i) Try.underlying9 rfl rfl hil) rfl ?_
   refine G.callP (v := I (Lib.indexByte (path.drop i) 47)) Try.call52 rfl rfl (fun w1 hw1 => f52_any w1 (path.drop i) 47) ?_
   rw [index47]
   refine G.m2 ?_
   refine G.nil ?_
   refine GC.seq ?_
   refine GC.seq ?_
   refine GC.reg ?_
   refine G.m1 ?_
   refine G.v (V.lt rfl rfl) rfl ?_
   refine G.nil ?_
   refine GC.join (fun fr' H' => Sub [(11, I ((sl (path.drop i) : Nat) : Int)), (2, S path), (7, I (d : Nat)), (8, I (i : Nat)), (35, .slice (some ⟨b, o, none⟩) x.length cpx), (36, I (x.length : Nat)), (37, I (j : Nat)), (9, I (j : Nat)), (10, Pt pb 0)] fr' ∧ H' = [⟨pb, true, .row (tkV t) 102 (0, 0)⟩]) (fun J50 => ?_) ?_
   ·refine GC.condD rfl (fun h50 => ?_) (fun h50 => ?_)
    ·refine GC.reg ?_
     refine G.m1 ?_
     refine G.v (V.lenS Try.underlying9 rfl) rfl ?_
     refine G.m1 ?_
     have hn47 : ¬ (47 : UInt8) ∈ path.drop i := fun h => by rw [if_pos h] at h50; omega
     have hmm : sl (path.drop i) = path.length - i := by rw [sl_no hn47, List.length_drop]
     refine G.v (V.subI (r := ((sl (path.drop i) : Nat) : Int)) rfl rfl (by omega) (by omega) (by omega)) rfl ?_
     refine G.m2 ?_
     refine G.nil ?_
     exact J50 _ _ ⟨.of rfl, rfl⟩
    refine GC.skip ?_
    have h47 : (47 : UInt8) ∈ path.drop i := Classical.byContradiction fun h => (by rw [if_neg h] at h50; omega)
    refine J50 _ _ ⟨?_, rfl⟩
    rw [if_pos h47]
    exact .of rfl
   rintro fr' H' ⟨hs4, rfl⟩
   refine GC.weak hs4 ?_
   clear hs4
   refine GC.seq ?_
   refine GC.seq ?_
   refine GC.reg ?_
   refine G.m1 ?_
   refine G.m1 ?_
   refine G.v (V.gt rfl rfl) rfl ?_
   refine G.nil ?_
   refine GC.condD rfl (fun h57 => ?_) (fun h57 => ?_)
   ·refine GC.seq ?_
    rw [if_pos (show d < j by omega)] at hma
    refine GC.reg ?_
    refine G.v (V.fa F102_0 rfl) rfl ?_
    refine G.v (V.ld (b := pb) (off := 0 + 0) (wf := true) (l := tkV t) (T := 102) (fz := (0, 0)) (v := .int .u8 (t.k.toNat : Int)) Try.isAgg5 rfl (.head _) rfl) rfl ?_
    refine G.v (V.eqI rfl rfl) rfl ?_
    refine G.m1 ?_
    refine G.bc 61 rfl (fun h61 => ?_) (fun h61 => ?_)
    ·refine G.s1 ?_
     refine G.s1 ?_
     refine G.s1 ?_
     refine G.s1 ?_
     refine G.m3 ?_
     refine G.m2 ?_
     refine G.nil ?_
     refine GC.ret1 rfl rfl fun w' hw' => ⟨?_, hw'.sub (List.nil_sublist _)⟩
     refine congrArg (fun b => Ending.returned (Value.bool b)) ?_
     have h61' := of_decide_eq_true h61
     exact dec_t (hma.2 (.inl (by omega)))
    ·refine G.m5 ?_
     refine G.m5 ?_
     refine G.vg rfl rfl (V.lenS Try.underlying9 rfl) rfl ?_
     refine G.vg rfl rfl (V.lt rfl rfl) rfl ?_
     refine G.m4 ?_
     refine G.m2 ?_
     refine G.nil ?_
     refine GC.ret1 rfl rfl fun w' hw' => ⟨?_, hw'.sub (List.nil_sublist _)⟩
     refine congrArg (fun b => Ending.returned (Value.bool b)) ?_
     have h61' := of_decide_eq_false h61
     exact dec_d ⟨fun h => hma.2 (.inr (by omega)), fun h => (hma.1 h).elim (fun h => by omega) (fun h => by omega)⟩
   refine GC.skip ?_
   refine GC.seq ?_
   rw [if_neg (show ¬ d < j by omega)] at hma
   refine GC.reg ?_
   refine G.m1 ?_
   refine G.m1 ?_
   refine G.v (V.addI (r := ((i + sl (path.drop i) : Nat) : Int)) rfl rfl (by omega) (by omega) (by omega)) rfl ?_
   refine G.m2 ?_
   refine G.nil ?_
   refine GC.exit rfl ?_
   refine GC.reg ?_
   refine G.v (V.addI (r := ((j + 1 : Nat) : Int)) rfl rfl rfl (by omega) (by omega)) rfl ?_
   refine G.m1 ?_
   refine G.nil ?_
   refine GC.turn (H' := []) (fun w1 h1 => h1.sub (List.nil_sublist _)) ?_
   exact ih2 (N2 - 1) _ _ (by omega) ⟨j + 1, i + sl (path.drop i), by omega, by omega, hma, .of rfl, rfl⟩
  refine GC.skip ?_
  refine GC.seq ?_
  refine GC.seq ?_
  have hk0 : t.k.toNat = 0 := by simpa using h44
  rw [if_neg (fun h => h hk0)] at hma
  refine GC.join (fun fr' H' => Sub [(2, S path), (7, I (d : Nat)), (8, I (i : Nat)), (35, .slice (some ⟨b, o, none⟩) x.length cpx), (36, I (x.length : Nat)), (37, I (j : Nat)), (9, I (j : Nat)), (10, Pt pb 0), (81, .bool (dec (¬ path[i]? = some t.c)))] fr' ∧ H' = [⟨pb, true, .row (tkV t) 102 (0, 0)⟩]) (fun J15 => ?_) ?_
  ·refine GC.regQ mixed (by kernel_rfl) ?_
   refine GQ.v (V.mv rfl) rfl ?_
   refine GQ.v (V.mv rfl) rfl ?_
   refine GQ.v (V.lenS Try.underlying9 rfl) rfl ?_
   refine GQ.v (V.eqI rfl rfl) rfl ?_
   refine GQ.v (V.mv rfl) rfl ?_
   refine GQ.bc 74 rfl (fun h74 => ?_) (fun h74 => ?_)
   ·refine GQ.sg rfl rfl rfl rfl rfl rfl ?_
    refine GQ.sg rfl rfl rfl rfl rfl rfl ?_
    refine GQ.sg rfl rfl rfl rfl rfl rfl ?_
    refine GQ.sg rfl rfl rfl rfl rfl rfl ?_
    refine GQ.sg rfl rfl rfl rfl rfl rfl ?_
    refine GQ.sg rfl rfl rfl rfl rfl rfl ?_
    refine GQ.v (V.pickT rfl rfl) rfl ?_
    refine GQ.nil ?_
    refine J15 _ _ ⟨.cons rfl (.cons rfl (.cons rfl (.cons rfl (.cons rfl (.cons rfl (.cons rfl (.cons rfl (.cons (rfl.trans (congrArg (fun b => some (Value.bool b)) ?_)) .nil)))))))), rfl⟩
    have h74' := of_decide_eq_true h74
    exact dec_t (by rw [List.getElem?_eq_none (by omega)]; simp)
   ·refine GQ.vg rfl rfl (V.mv rfl) rfl ?_
    refine GQ.vg rfl rfl (V.mv rfl) rfl ?_
    have h74' := of_decide_eq_false h74
    obtain ⟨z, hz⟩ : ∃ z, path[i]? = some z := ⟨_, List.getElem?_eq_getElem (by omega)⟩
    refine GQ.vg rfl rfl (V.idx (i := i) (b := z) Try.underlying9 rfl rfl hz) rfl ?_
    refine GQ.vg rfl rfl (V.fa F102_1 rfl) rfl ?_
    refine GQ.vg rfl rfl (V.ld (b := pb) (off := 0 + 1) (wf := true) (l := tkV t) (T := 102) (fz := (0, 0)) (v := .int .u8 (t.c.toNat : Int)) Try.isAgg5 rfl (.head _) rfl) rfl ?_
    refine GQ.vg rfl rfl (V.neI rfl rfl) rfl ?_
    refine GQ.v (V.pickF rfl rfl) rfl ?_
    refine GQ.nil ?_
    refine J15 _ _ ⟨.cons rfl (.cons rfl (.cons rfl (.cons rfl (.cons rfl (.cons rfl (.cons rfl (.cons rfl (.cons (rfl.trans (congrArg (fun b => some (Value.bool b)) ?_)) .nil)))))))), rfl⟩
    exact dec_n ⟨fun h hh => h (by rw [hz] at hh; cases hh; rfl), fun h hh => h (by rw [hz, UInt8.toNat_inj.1 (show z.toNat = t.c.toNat by omega)])⟩
  rintro fr' H' ⟨hs4, rfl⟩
  refine GC.weak hs4 ?_
  clear hs4
  refine GC.cond rfl (fun h81 => ?_) (fun h81 => ?_)
  ·refine GC.seq ?_
   refine GC.reg ?_
   refine G.m2 ?_
   refine G.nil ?_
   refine GC.ret1 rfl rfl fun w' hw' => ⟨?_, hw'.sub (List.nil_sublist _)⟩
   refine congrArg (fun b => Ending.returned (Value.bool b)) ?_
   exact dec_f fun h => dec_true.1 h81 (hma.1 h).1
  refine GC.skip ?_
  have hpc : path[i]? = some t.c := Classical.not_not.1 (dec_false.1 h81)
  have hip := (List.getElem?_eq_some_iff.1 hpc).1
  refine GC.reg ?_
  refine G.m1 ?_
  refine G.v (V.addI (r := ((i + 1 : Nat) : Int)) rfl rfl rfl (by omega) (by omega)) rfl ?_
  refine G.m2 ?_
  refine G.nil ?_
  refine GC.inBlock ?_
  refine GC.reg ?_
  refine G.v (V.addI (r := ((j + 1 : Nat) : Int)) rfl rfl rfl (by omega) (by omega)) rfl ?_
  refine G.m1 ?_
  refine G.nil ?_
  refine GC.turn (H' := []) (fun w1 h1 => h1.sub (List.nil_sublist _)) ?_
  exact ih2 (N2 - 1) _ _ (by omega) ⟨j + 1, i + 1, by omega, by omega, hma.trans ⟨fun h => h.2, fun h => ⟨hpc, h⟩⟩, .of rfl, rfl⟩
 refine GC.exit rfl ?_
 refine GC.seq ?_
 refine GC.reg ?_
 refine G.m2 ?_
 refine G.nil ?_
 refine GC.ret1 rfl rfl fun w' hw' => ⟨?_, hw'.sub (List.nil_sublist _)⟩
 refine congrArg (fun b => Ending.returned (Value.bool b)) ?_
 have hje : j = x.length := by omega
 rw [hje, List.drop_length] at hma
 exact dec_f fun h => hma.1 h
end Go.Proofs

/- When it is left open what a path finds. No program in sight. -/
namespace Gt
open Gs Tr
/-- the path with another end -/
def other (path : List UInt8) : List UInt8 := @ite _ (1 < path.length ∧ path[path.length - 1]? = some 47) inferInstance (path.take (path.length - 1)) (path ++ [47])
def OpenX (x r : List Prt) (path : List UInt8) : Prop := matchN x (other path) ≠ none ∨ PassN (tks x) (tks r) path ∨ ((other path).length < path.length ∧ BeginN (tks x) (other path))
/-- GinOpen -/
def OpenN (rs : List (List Prt)) (path : List UInt8) : Prop := match bestN rs path rs.length with
  | none => ∃ x ∈ rs, LooseN x path
  | some m => ∃ r, rs[m]? = some r ∧ ∃ x ∈ rs, BetterN (tks x) (tks r) ∧ OpenX x r path
end Gt

/- GinOpen. Printed by wip/mk_go8.py. -/
set_option maxRecDepth 20000
namespace Go.Proofs
open Go Bw
open Gt
theorem f30_any (w : World) (l : List (List Prt)) (sv : Value) (hsv : Tbl w sv l) (hcl : ∀ r ∈ l, Gt.Clean r) (hll : l.length ≤ 1000000) (path : List UInt8) (hpl : path.length ≤ 100000) : Calls Try.prog 30 #[sv, S path] w fun e w' => e = .returned (.bool (dec (OpenN l path))) ∧ HF w (fun _ => False) [] w' := by
 refine enter (fun _ => False) [] Try.func30 rfl Try.ntmps30 rfl rfl (HF.start w _) fun c hc => ?_
 subst hc
 have hsv0 := hsv
 obtain ⟨ad, cp, rfl, hcp, hc⟩ := hsv
 refine GC.seq ?_
 refine GC.reg ?_
 refine G.m2 ?_
 refine G.nil ?_
 refine GC.seq ?_
 refine GC.reg ?_
 refine G.m1 ?_
 refine G.m1 ?_
 refine G.callW (fun v H2 => ∃ (r : Nat) (pv : Value) (full : List UInt8) (Hp : SH), v = .agg #[I (r : Nat), pv, S full, .bool false] ∧ BestAt l path (bestN l path l.length) r pv full Hp ∧ H2 = Hp ++ []) Try.call33 rfl rfl (fun w1 hw1 => ?_) ?_
 ·exact (f33_any w1 l _ (hsv0.old hw1) hcl hll path (by omega)).mono fun e w' ⟨r, pv, full, Hp, h1, h2, h3⟩ => ⟨_, _, h1, hw1.after0 h3 h2.w, r, pv, full, Hp, rfl, h2, rfl⟩
 rintro v H2 ⟨r, pv, full, Hp, rfl, hB, rfl⟩
 refine G.al Try.zeroValue55 rfl rfl (fun b5 hb5 => ?_)
 refine G.stA (cs := [I (r : Nat), pv, S full, .bool false]) Try.sizeOf55 rfl rfl (fun u hu => by simp only [List.mem_cons, List.not_mem_nil, or_false] at hu; rcases hu with rfl | rfl | rfl | rfl <;> first | rfl | exact hB.one) .z rfl ?_
 refine G.nil ?_
 refine GC.seq ?_
 refine GC.seq ?_
 refine GC.reg ?_
 refine G.v (V.fa F55_0 rfl) rfl ?_
 refine G.v (V.ld (b := b5) (off := 0 + 0) (wf := true) (l := [I (r : Nat), pv, S full, .bool false]) (T := 55) (fz := (0, 0)) (v := I (r : Nat)) Try.isAgg3 rfl (.head _) rfl) rfl ?_
 refine G.v (V.eqI rfl rfl) rfl ?_
 refine G.nil ?_
 refine GC.condD rfl (fun h19 => ?_) (fun h19 => ?_)
 ·refine GC.seq ?_
  refine GC.seq ?_
  refine GC.turn (H' := []) (fun w1 h1 => h1.sub (List.nil_sublist _)) ?_
  have hbn : bestN l path l.length = none := by
   rcases hB with h | ⟨m, _, _, _, h, _⟩
   ·exact h.1
   ·omega
  have hop : OpenN l path ↔ ∃ x ∈ l, LooseN x path := by unfold OpenN; rw [hbn]
  refine GC.reg ?_
  refine G.m1 ?_
  refine G.v (V.lenL Try.underlying34 rfl) rfl ?_
  refine G.m1 ?_
  refine G.nil ?_
  refine GC.block ?_
  refine GC.loopJ (fun N fr' H' => ∃ (j : Nat), j + N = l.length ∧ (∀ (i : Nat) x, i < j → l[i]? = some x → ¬ LooseN x path) ∧ Sub [(1, S path), (20, .slice ad l.length cp), (21, I (l.length : Nat)), (22, I (j : Nat))] fr' ∧ H' = []) l.length
   ⟨0, by omega, fun i x hi => by omega, .of rfl, rfl⟩ ?_
  rintro N fr' H' ⟨j, hj, hno, hs2, rfl⟩ ih
  refine GC.weak hs2 ?_
  clear hs2
  refine GC.seq ?_
  refine GC.reg ?_
  refine G.v (V.lt rfl rfl) rfl ?_
  refine G.nil ?_
  refine GC.seq ?_
  refine GC.condD rfl (fun h23 => ?_) (fun h23 => ?_)
  ·refine GC.skip ?_
   refine GC.seq ?_
   refine GC.block ?_
   refine GC.seq ?_
   have hjl : j < l.length := by omega
   obtain ⟨x, hx⟩ : ∃ p, l[j]? = some p := ⟨_, List.getElem?_eq_getElem hjl⟩
   obtain ⟨b, o, xv, e0, hc1, hc2⟩ := hc j x hx
   have hcx := hcl x (List.mem_of_getElem? hx)
   refine GC.reg ?_
   subst e0
   refine G.v (V.ia (i := j) Try.underlying34 Try.sizeOf35 rfl rfl hjl) rfl ?_
   refine G.v (V.ldC (v := xv) Try.isAgg35 rfl (by rw [Nat.mul_one]; exact hc1) id) rfl ?_
   refine G.m2 ?_
   refine G.nil ?_
   refine GC.seq ?_
   refine GC.reg ?_
   refine G.m1 ?_
   refine G.m1 ?_
   refine G.callP (v := .bool (dec (LooseN x path))) Try.call53 rfl rfl (fun w1 hw1 => f53_any w1 x xv (hc2.old hw1) hcx path (by omega)) ?_
   refine G.nil ?_
   refine GC.cond rfl (fun h28 => ?_) (fun h28 => ?_)
   ·refine GC.seq ?_
    refine GC.reg ?_
    refine G.m2 ?_
    refine G.nil ?_
    refine GC.ret1 rfl rfl fun w' hw' => ⟨?_, hw'.sub (List.nil_sublist _)⟩
    refine congrArg (fun b => Ending.returned (Value.bool b)) ?_
    exact dec_t (hop.2 ⟨x, List.mem_of_getElem? hx, dec_true.1 h28⟩)
   refine GC.skip ?_
   refine GC.inBlock ?_
   refine GC.reg ?_
   refine G.v (V.addI (r := ((j + 1 : Nat) : Int)) rfl rfl rfl (by omega) (by omega)) rfl ?_
   refine G.m1 ?_
   refine G.nil ?_
   refine ih (N - 1) _ _ (by omega) ⟨j + 1, by omega, fun i y hi hy => ?_, .of rfl, rfl⟩
   by_cases hij : i = j
   ·subst hij
    rw [hx] at hy
    cases hy
    exact dec_false.1 h28
   ·exact hno i y (by omega) hy
  refine GC.exit rfl ?_
  refine GC.seq ?_
  refine GC.reg ?_
  refine G.m2 ?_
  refine G.nil ?_
  refine GC.ret1 rfl rfl fun w' hw' => ⟨?_, hw'.sub (List.nil_sublist _)⟩
  refine congrArg (fun b => Ending.returned (Value.bool b)) ?_
  refine dec_f fun h => ?_
  obtain ⟨y, hy, hl⟩ := hop.1 h
  obtain ⟨i, hi⟩ := List.getElem?_of_mem hy
  exact hno i y (by have := (List.getElem?_eq_some_iff.1 hi).1; omega) hi hl
 refine GC.skip ?_
 refine GC.seq ?_
 obtain ⟨m, r0, ps, hbm, hrm, hr0, _⟩ : ∃ m a ps, bestN l path l.length = some m ∧ r = m + 1 ∧ l[m]? = some a ∧ full = rtT a ∧ matchN a path = some ps ∧ ps.length ≤ 12 ∧ Own 84 2 pv ps.length (flatP ps) Hp := hB.resolve_left (fun h => by have := h.2.1; omega)
 have hml := bestN_lt hbm
 obtain ⟨b0, o0, rv, e00, hr1, hr2⟩ := hc m r0 hr0
 have hcr := hcl r0 (List.mem_of_getElem? hr0)
 have hop : OpenN l path ↔ ∃ x ∈ l, BetterN (tks x) (tks r0) ∧ OpenX x r0 path := by
  unfold OpenN; rw [hbm]
  exact ⟨fun ⟨r1, h1, h2⟩ => by rw [hr0] at h1; cases h1; exact h2, fun h => ⟨r0, hr0, h⟩⟩
 refine GC.reg ?_
 refine G.m1 ?_
 refine G.v (V.fa F55_0 rfl) rfl ?_
 refine G.v (V.ld (b := b5) (off := 0 + 0) (wf := true) (l := [I (r : Nat), pv, S full, .bool false]) (T := 55) (fz := (0, 0)) (v := I (r : Nat)) Try.isAgg3 rfl (.head _) rfl) rfl ?_
 refine G.v (V.subI (r := ((m : Nat) : Int)) rfl rfl (by omega) (by omega) (by omega)) rfl ?_
 subst e00
 refine G.v (V.ia (i := m) Try.underlying34 Try.sizeOf35 rfl rfl (by omega)) rfl ?_
 refine G.v (V.ldC (v := rv) Try.isAgg35 rfl (by rw [Nat.mul_one]; exact hr1) id) rfl ?_
 refine G.m2 ?_
 refine G.nil ?_
 refine GC.turn (H' := []) (fun w1 h1 => h1.sub (List.nil_sublist _)) ?_
 refine GC.seq ?_
 refine GC.reg ?_
 refine G.m1 ?_
 refine G.v (V.cat rfl rfl (by simp; omega)) rfl ?_
 refine G.m2 ?_
 refine G.nil ?_
 refine GC.seq ?_
 refine GC.seq ?_
 refine GC.join (fun fr' H' => Sub [(9, S (path ++ [47])), (0, .slice (some ⟨b0, o0, none⟩) l.length cp), (1, S path), (8, rv), (48, .bool (decide (1 < path.length ∧ path[path.length - 1]? = some 47)))] fr' ∧ H' = []) (fun J12 => ?_) ?_
 ·refine GC.reg ?_
  refine G.m1 ?_
  refine G.v (V.lenS Try.underlying9 rfl) rfl ?_
  refine G.v (V.gt rfl rfl) rfl ?_
  refine G.m1 ?_
  refine G.bc 41 rfl (fun h41 => ?_) (fun h41 => ?_)
  ·refine G.m5 ?_
   refine G.m5 ?_
   refine G.vg rfl rfl (V.lenS Try.underlying9 rfl) rfl ?_
   have h41' := of_decide_eq_true h41
   refine G.vg rfl rfl (V.subI (r := ((path.length - 1 : Nat) : Int)) rfl rfl (by omega) (by omega) (by omega)) rfl ?_
   obtain ⟨z, hz⟩ : ∃ z, path[path.length - 1]? = some z := ⟨_, List.getElem?_eq_getElem (by omega)⟩
   refine G.vg rfl rfl (V.idx (i := path.length - 1) (b := z) Try.underlying9 rfl rfl hz) rfl ?_
   refine G.vg rfl rfl (V.eqI rfl rfl) rfl ?_
   refine G.m3 ?_
   refine G.nil ?_
   refine J12 _ _ ⟨.cons rfl (.cons rfl (.cons rfl (.cons rfl (.cons (rfl.trans (congrArg (fun b => some (Value.bool b)) ?_)) .nil)))), rfl⟩
   exact decide_eq_decide.2 ⟨fun h => ⟨by omega, by rw [hz, u_eq (x := z) (k := 47) (by omega) (by omega)]; rfl⟩, fun h => by have h2 := h.2; rw [hz] at h2; cases h2; rfl⟩
  ·refine G.s1 ?_
   refine G.s1 ?_
   refine G.s1 ?_
   refine G.s1 ?_
   refine G.s1 ?_
   refine G.s1 ?_
   refine G.m4 ?_
   refine G.nil ?_
   refine J12 _ _ ⟨.cons rfl (.cons rfl (.cons rfl (.cons rfl (.cons (rfl.trans (congrArg (fun b => some (Value.bool b)) ?_)) .nil)))), rfl⟩
   have h41' := of_decide_eq_false h41
   exact (decide_eq_false fun h => h41' (by have := h.1; omega)).symm
 rintro fr' H' ⟨hs4, rfl⟩
 refine GC.weak hs4 ?_
 clear hs4
 refine GC.join (fun fr' H' => Sub [(9, S (other path)), (0, .slice (some ⟨b0, o0, none⟩) l.length cp), (1, S path), (8, rv)] fr' ∧ H' = []) (fun J48 => ?_) ?_
 ·refine GC.cond rfl (fun h48 => ?_) (fun h48 => ?_)
  ·have h48' := of_decide_eq_true h48
   refine GC.reg ?_
   refine G.m1 ?_
   refine G.m1 ?_
   refine G.v (V.lenS Try.underlying9 rfl) rfl ?_
   refine G.v (V.subI (r := ((path.length - 1 : Nat) : Int)) rfl rfl (by omega) (by omega) (by omega)) rfl ?_
   refine G.v (V.slH (j := path.length - 1) Try.underlying9 rfl rfl (by omega)) rfl ?_
   refine G.m2 ?_
   refine G.nil ?_
   have e : other path = path.take (path.length - 1) := if_pos h48'
   refine J48 _ _ ⟨?_, rfl⟩
   rw [e]
   exact .of rfl
  refine GC.skip ?_
  have h48' := of_decide_eq_false h48
  have e : other path = path ++ [47] := if_neg h48'
  refine J48 _ _ ⟨?_, rfl⟩
  rw [e]
  exact .of rfl
 rintro fr' H' ⟨hs4, rfl⟩
 refine GC.weak hs4 ?_
 clear hs4
 have hol : (other path).length ≤ path.length + 1 := by unfold other; split <;> simp <;> omega
 refine GC.seq ?_
 refine GC.seq ?_
 refine GC.reg ?_
 refine G.m1 ?_
 refine G.v (V.lenL Try.underlying34 rfl) rfl ?_
 refine G.m1 ?_
 refine G.nil ?_
 refine GC.block ?_
 refine GC.loopJ (fun N fr' H' => ∃ (j : Nat), j + N = l.length ∧ (∀ (i : Nat) x, i < j → l[i]? = some x → ¬ (BetterN (tks x) (tks r0) ∧ OpenX x r0 path)) ∧ Sub [(1, S path), (8, rv), (9, S (other path)), (54, .slice (some ⟨b0, o0, none⟩) l.length cp), (55, I (l.length : Nat)), (56, I (j : Nat))] fr' ∧ H' = []) l.length
  ⟨0, by omega, fun i x hi => by omega, .of rfl, rfl⟩ ?_
 rintro N fr' H' ⟨j, hj, hno, hs2, rfl⟩ ih
 refine GC.weak hs2 ?_
 clear hs2
 refine GC.seq ?_
 refine GC.reg ?_
 refine G.v (V.lt rfl rfl) rfl ?_
 refine G.nil ?_
 refine GC.seq ?_
 refine GC.condD rfl (fun h57 => ?_) (fun h57 => ?_)
 ·refine GC.skip ?_
  refine GC.seq ?_
  refine GC.block ?_
  refine GC.seq ?_
  have hjl : j < l.length := by omega
  obtain ⟨x, hx⟩ : ∃ p, l[j]? = some p := ⟨_, List.getElem?_eq_getElem hjl⟩
  obtain ⟨b, o, xv, e0, hc1, hc2⟩ := hc j x hx
  have hcx := hcl x (List.mem_of_getElem? hx)
  refine GC.reg ?_
  cases e0
  refine G.v (V.ia (i := j) Try.underlying34 Try.sizeOf35 rfl rfl hjl) rfl ?_
  refine G.v (V.ldC (v := xv) Try.isAgg35 rfl (by rw [Nat.mul_one]; exact hc1) id) rfl ?_
  refine G.m2 ?_
  refine G.nil ?_
  refine GC.seq ?_
  refine GC.seq ?_
  refine GC.reg ?_
  refine G.m1 ?_
  refine G.m1 ?_
  refine G.callP (v := .bool (dec (BetterN (tks x) (tks r0)))) Try.call54 rfl rfl (fun w1 hw1 => f54_any w1 x r0 xv rv (hc2.old hw1) (hr2.old hw1) (clean_len hcx) (clean_len hcr)) ?_
  refine G.v (V.not rfl) rfl ?_
  refine G.nil ?_
  refine GC.cond rfl (fun h63 => ?_) (fun h63 => ?_)
  ·refine GC.exit rfl ?_
   refine GC.reg ?_
   refine G.v (V.addI (r := ((j + 1 : Nat) : Int)) rfl rfl rfl (by omega) (by omega)) rfl ?_
   refine G.m1 ?_
   refine G.nil ?_
   refine ih (N - 1) _ _ (by omega) ⟨j + 1, by omega, fun i y hi hy => ?_, .of rfl, rfl⟩
   by_cases hij : i = j
   ·subst hij
    rw [hx] at hy
    cases hy
    exact fun h => dec_false.1 (by simpa using h63) h.1
   ·exact hno i y (by omega) hy
  refine GC.skip ?_
  refine GC.seq ?_
  have hbt : BetterN (tks x) (tks r0) := dec_true.1 (by simpa using h63)
  refine GC.reg ?_
  refine G.m1 ?_
  refine G.m1 ?_
  refine G.callW (fun v H2 => ∃ pv2 ok Hs, v = .tuple #[pv2, .bool ok] ∧ (ok = true ↔ matchN x (other path) ≠ none) ∧ H2 = Hs ++ []) Try.call55 rfl rfl (fun w1 hw1 => ?_) ?_
  ·refine (f55_any w1 x xv (hc2.old hw1) hcx (other path) (by omega)).mono fun e w' ⟨pv2, ok, Hs, h1, h2, h3, h4⟩ => ⟨_, _, h1, hw1.after0 h4 h3, pv2, ok, Hs, rfl, ?_, rfl⟩
   rcases h2 with ⟨h5, ps, h6, _⟩ | ⟨h5, h6⟩
   ·exact ⟨fun _ => (by rw [h6]; simp), fun _ => h5⟩
   ·exact ⟨fun h => (by rw [h5] at h; cases h), fun h => absurd h6 h⟩
  rintro v H2 ⟨pv2, ok, Hs, rfl, hok, rfl⟩
  refine G.m1 ?_
  refine G.v (V.ex rfl rfl) rfl ?_
  refine G.v (V.ex rfl rfl) rfl ?_
  refine G.m2 ?_
  refine G.m2 ?_
  refine G.nil ?_
  refine GC.seq ?_
  refine GC.join (fun fr' H' => Sub [(1, S path), (8, rv), (9, S (other path)), (54, .slice (some ⟨b0, o0, none⟩) l.length cp), (55, I (l.length : Nat)), (56, I (j : Nat)), (91, .bool (dec (OpenX x r0 path)))] fr' ∧ H' = []) (fun J19 => ?_) ?_
  ·refine GC.reg ?_
   refine G.m1 ?_
   refine G.m1 ?_
   refine G.bc 71 rfl (fun h71 => ?_) (fun h71 => ?_)
   ·refine G.s1 ?_
    refine G.s1 ?_
    refine G.s1 ?_
    refine G.s1 ?_
    refine G.s1 ?_
    refine G.s1 ?_
    refine G.m3 ?_
    refine G.m1 ?_
    refine G.s1 ?_
    refine G.s1 ?_
    refine G.s1 ?_
    refine G.s1 ?_
    refine G.s1 ?_
    refine G.s1 ?_
    refine G.sgU rfl rfl rfl rfl rfl ?_
    refine G.sgU rfl rfl rfl rfl rfl ?_
    refine G.sgU rfl rfl rfl rfl rfl ?_
    refine G.sgU rfl rfl rfl rfl rfl ?_
    refine G.s1 ?_
    refine G.m3 ?_
    refine G.nil ?_
    refine GC.turn (H' := []) (fun w1 h1 => h1.sub (List.nil_sublist _)) ?_
    refine J19 _ _ ⟨.cons rfl (.cons rfl (.cons rfl (.cons rfl (.cons rfl (.cons rfl (.cons (rfl.trans (congrArg (fun b => some (Value.bool b)) ?_)) .nil)))))), rfl⟩
    exact dec_t (.inl (hok.1 h71))
   ·refine G.m5 ?_
    refine G.gd rfl rfl ?_
    refine G.callW (fun v H2 => ∃ Hk, Own 102 3 v (tks x).length (flatK (tks x)) Hk ∧ H2 = Hk ++ (Hs ++ [])) Try.call57 rfl rfl (fun w1 hw1 => ?_) ?_
    ·exact (f57_any w1 x xv (hc2.old hw1) (clean_len hcx).1 (clean_len hcx).2).mono fun e w' ⟨kv, Hs, h1, h2, h3⟩ => ⟨_, _, h1, hw1.after0 h3 h2.w, Hs, h2, rfl⟩
    rintro k1 H2 ⟨Q1, ho1, rfl⟩
    refine G.m5 ?_
    refine G.gd rfl rfl ?_
    refine G.callW (fun v H2 => ∃ Hk, Own 102 3 v (tks r0).length (flatK (tks r0)) Hk ∧ H2 = Hk ++ (Q1 ++ (Hs ++ []))) Try.call57 rfl rfl (fun w1 hw1 => ?_) ?_
    ·exact (f57_any w1 r0 rv (hr2.old hw1) (clean_len hcr).1 (clean_len hcr).2).mono fun e w' ⟨kv, Hs, h1, h2, h3⟩ => ⟨_, _, h1, hw1.after0 h3 h2.w, Hs, h2, rfl⟩
    rintro k2 H2 ⟨Q2, ho2, rfl⟩
    refine G.m5 ?_
    refine G.gd rfl rfl ?_
    refine G.callP (v := .bool (dec (PassN (tks x) (tks r0) path))) Try.call56 rfl rfl (fun w1 hw1 => f56_any w1 (tks x) (tks r0) _ _ (ho1.tks hw1 (fun e he => List.mem_append_right _ (List.mem_append_left _ he))) (ho2.tks hw1 (fun e he => List.mem_append_left _ he)) (clean_len hcx).1 (clean_len hcr).1 path (by omega)) ?_
    refine G.m4 ?_
    refine G.m1 ?_
    refine G.bc 79 rfl (fun h79 => ?_) (fun h79 => ?_)
    ·refine G.s1 ?_
     refine G.s1 ?_
     refine G.s1 ?_
     refine G.s1 ?_
     refine G.s1 ?_
     refine G.s1 ?_
     refine G.sgU rfl rfl rfl rfl rfl ?_
     refine G.sgU rfl rfl rfl rfl rfl ?_
     refine G.sgU rfl rfl rfl rfl rfl ?_
     refine G.sgU rfl rfl rfl rfl rfl ?_
     refine G.s1 ?_
     refine G.m3 ?_
     refine G.nil ?_
     refine GC.turn (H' := []) (fun w1 h1 => h1.sub (List.nil_sublist _)) ?_
     refine J19 _ _ ⟨.cons rfl (.cons rfl (.cons rfl (.cons rfl (.cons rfl (.cons rfl (.cons (rfl.trans (congrArg (fun b => some (Value.bool b)) ?_)) .nil)))))), rfl⟩
     exact dec_t (.inr (.inl (dec_true.1 h79)))
    ·refine G.m5 ?_
     refine G.vg rfl rfl (V.lenS Try.underlying9 rfl) rfl ?_
     refine G.m5 ?_
     refine G.vg rfl rfl (V.lenS Try.underlying9 rfl) rfl ?_
     refine G.vg rfl rfl (V.lt rfl rfl) rfl ?_
     refine G.m5 ?_
     refine G.bc 85 rfl (fun h85 => ?_) (fun h85 => ?_)
     ·refine G.m5 ?_
      refine G.gd rfl rfl ?_
      refine G.callW (fun v H2 => ∃ Hk, Own 102 3 v (tks x).length (flatK (tks x)) Hk ∧ H2 = Hk ++ (Q2 ++ (Q1 ++ (Hs ++ [])))) Try.call57 rfl rfl (fun w1 hw1 => ?_) ?_
      ·exact (f57_any w1 x xv (hc2.old hw1) (clean_len hcx).1 (clean_len hcx).2).mono fun e w' ⟨kv, Hs, h1, h2, h3⟩ => ⟨_, _, h1, hw1.after0 h3 h2.w, Hs, h2, rfl⟩
      rintro k3 H2 ⟨Q3, ho3, rfl⟩
      refine G.m5 ?_
      refine G.gd rfl rfl ?_
      refine G.callP (v := .bool (dec (BeginN (tks x) (other path)))) Try.call58 rfl rfl (fun w1 hw1 => f58_any w1 (tks x) _ (ho3.tks hw1 (fun e he => List.mem_append_left _ he)) (clean_len hcx).1 (other path) (by omega)) ?_
      refine G.vg rfl rfl (V.pickT rfl rfl) rfl ?_
      refine G.m4 ?_
      refine G.nil ?_
      refine GC.turn (H' := []) (fun w1 h1 => h1.sub (List.nil_sublist _)) ?_
      refine J19 _ _ ⟨.cons rfl (.cons rfl (.cons rfl (.cons rfl (.cons rfl (.cons rfl (.cons (rfl.trans (congrArg (fun b => some (Value.bool b)) ?_)) .nil)))))), rfl⟩
      have h71' : ¬ matchN x (other path) ≠ none := fun h => by have := hok.2 h; rw [h71] at this; cases this
      have h79' := dec_false.1 h79
      have h85' := of_decide_eq_true h85
      exact dec_c ⟨fun h => .inr (.inr ⟨by omega, h⟩), fun h => (h.resolve_left h71').elim (fun h => absurd h h79') (fun h => h.2)⟩
     ·refine G.s1 ?_
      refine G.s1 ?_
      refine G.s1 ?_
      refine G.s1 ?_
      refine G.vg rfl rfl (V.pickF rfl rfl) rfl ?_
      refine G.m4 ?_
      refine G.nil ?_
      refine GC.turn (H' := []) (fun w1 h1 => h1.sub (List.nil_sublist _)) ?_
      refine J19 _ _ ⟨.cons rfl (.cons rfl (.cons rfl (.cons rfl (.cons rfl (.cons rfl (.cons (rfl.trans (congrArg (fun b => some (Value.bool b)) ?_)) .nil)))))), rfl⟩
      have h71' : ¬ matchN x (other path) ≠ none := fun h => by have := hok.2 h; rw [h71] at this; cases this
      have h79' := dec_false.1 h79
      have h85' := of_decide_eq_false h85
      exact dec_f fun h => (h.resolve_left h71').elim (fun h => h79' h) (fun h => h85' (by have := h.1; omega))
  rintro fr' H' ⟨hs4, rfl⟩
  refine GC.weak hs4 ?_
  clear hs4
  refine GC.cond rfl (fun h91 => ?_) (fun h91 => ?_)
  ·refine GC.seq ?_
   refine GC.reg ?_
   refine G.m2 ?_
   refine G.nil ?_
   refine GC.ret1 rfl rfl fun w' hw' => ⟨?_, hw'.sub (List.nil_sublist _)⟩
   refine congrArg (fun b => Ending.returned (Value.bool b)) ?_
   exact dec_t (hop.2 ⟨x, List.mem_of_getElem? hx, hbt, dec_true.1 h91⟩)
  refine GC.skip ?_
  refine GC.inBlock ?_
  refine GC.reg ?_
  refine G.v (V.addI (r := ((j + 1 : Nat) : Int)) rfl rfl rfl (by omega) (by omega)) rfl ?_
  refine G.m1 ?_
  refine G.nil ?_
  refine ih (N - 1) _ _ (by omega) ⟨j + 1, by omega, fun i y hi hy => ?_, .of rfl, rfl⟩
  by_cases hij : i = j
  ·subst hij
   rw [hx] at hy
   cases hy
   exact fun h => dec_false.1 h91 h.2
  ·exact hno i y (by omega) hy
 refine GC.exit rfl ?_
 refine GC.seq ?_
 refine GC.reg ?_
 refine G.m2 ?_
 refine G.nil ?_
 refine GC.ret1 rfl rfl fun w' hw' => ⟨?_, hw'.sub (List.nil_sublist _)⟩
 refine congrArg (fun b => Ending.returned (Value.bool b)) ?_
 refine dec_f fun h => ?_
 obtain ⟨y, hy, hl⟩ := hop.1 h
 obtain ⟨i, hi⟩ := List.getElem?_of_mem hy
 exact hno i y (by have := (List.getElem?_eq_some_iff.1 hi).1; omega) hi hl
end Go.Proofs

/- sameFound: the closure. Printed by wip/mk_go9.py. -/
set_option maxRecDepth 20000
namespace Go.Proofs
open Go Bw
open Gt
end Go.Proofs

/- sameFound: parameters compared. Printed by wip/mk_go10.py. -/
set_option maxRecDepth 20000
namespace Go.Proofs
open Go Bw
open Gt
end Go.Proofs

/- sameFound. Printed by wip/mk_go11.py. -/
set_option maxRecDepth 20000
namespace Go.Proofs
open Go Bw
open Gt
end Go.Proofs

/- zzFits3. Printed by wip/mk_go12.py. -/
set_option maxRecDepth 20000
namespace Go.Proofs
open Go Bw
open Gt
end Go.Proofs

/- Regions that draw: more rules for operations that stand under a guard. No program in sight. -/
namespace Bw
open Go
section
variable {P : Program} {c : Cx} {n : Nat} {k : List Item} {fr : SF} {H : SH} {ops : Array Oper} {ty : TypeId} {pos : String} {aft : Array Edge} {S : World → Prop} {fuel : Nat} {listed : Array Bool}
/-- a known bool is one of two -/
theorem GA.bc (t : Nat) {b : Bool} (hb : look t fr = some (.bool b)) (ht : b = true → GA P c n k ops S fuel listed ((t, .bool true) :: fr) H) (hf : b = false → GA P c n k ops S fuel listed ((t, .bool false) :: fr) H) : GA P c n k ops S fuel listed fr H := by
 intro hF a w ha hw
 cases b
 ·exact hf rfl hF a w (ha.bcase hb rfl) hw
 ·exact ht rfl hF a w (ha.bcase hb rfl) hw
/-- a call that leaves memory as it is -/
theorem GB.callP {g : FuncId} {xs : List Operand} {vs : List Value} {tys : Array TypeId} {d : Nat} {v : Value} (hg : ∀ (args : Array Value) w, (callFunc g args).run P w = .ok (.enter g args) w) (he : evs fr xs = some vs) (hd : Nat.blt d n = true)
  (hS : ∀ w, HF c.w0 c.D H w → S w) (hc : ∀ w, HF c.w0 c.D H w → Calls P g vs.toArray w (fun e w' => e = .returned v ∧ HF w (fun _ => False) [] w'))
  (hk : GA P c n k ops S fuel listed ((d, v) :: fr) H) :
  GB P c n k ops S fuel listed ⟨some d, .call ⟨.value (.func g), xs.toArray, tys⟩, ty, pos, aft, none⟩ fr H := by
 refine GB.callW (fun v' H' => v' = v ∧ H' = H) hg he hd (fun v' H' ⟨_, h2⟩ w hw => hS w (h2 ▸ hw)) (fun w hw => ?_) (fun v' H' ⟨h1, h2⟩ => h1 ▸ h2 ▸ hk)
 refine (hc w hw).mono fun e w' ⟨h1, h2⟩ => ⟨v, H, h1, ?_, rfl, rfl⟩
 have := hw.after0 h2 (fun e he => by cases he)
 simpa using this
end
end Bw
