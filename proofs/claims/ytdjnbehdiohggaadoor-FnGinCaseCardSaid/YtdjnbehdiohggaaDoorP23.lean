/- Lemmas of the walk and plain facts (HuK9 .. HuO4). -/
import Derived.Test.YtdjnbehdiohggaaDoorP22
import Derived.Test.YtdjnbehdiohggaaDoorP01
import Derived.Laws.StandIn
import Derived.Lib.IndexLaws
import Derived.Test.YtdjnbehdiohggaaDoorP16
/- Rules: an append of what may be nothing, within a region that is drawn; the tail of an owned row. -/
namespace Bw
open Go
section
variable {P : Program} {c : Cx} {n : Nat} {k : List Item} {fr : SF} {H : SH} {ops : Array Oper} {rest tail : List Oper} {ty t u : TypeId} {pos : String} {aft : Array Edge} {S : World → Prop} {m fuel : Nat} {listed : Array Bool}
theorem GMB.appZ {T e sz by_ : Nat} {i : TypeInfo} {z : Value} {x y : Operand} {sv : Value} {n0 : Nat} {xs vs : List Value} {Hs H' : SH} {ad : Option Addr} {m1 mc d : Nat}
  (hT : P.underlying T = some (.slice e)) (hi : P.info? e = some i) (hz : i.zero = some z) (hsz : i.size = sz) (hby : i.bytes = by_) (hzs : z.cells.size = sz)
  (hx : ev fr x = some sv) (hy : ev fr y = some (.slice ad m1 mc)) (hown : Own e sz sv n0 xs Hs) (hperm : H.Perm (Hs ++ H'))
  (hsrc : 0 < m1 → ∃ a, ad = some a ∧ ∀ w, HF c.w0 c.D H w → ∀ j u, vs[j]? = some u → w.cell? (a.add j) = some u) (hvl : vs.length = m1 * sz) (h1 : ∀ u ∈ vs, u.oneCell' = true) (hbd : (n0 + m1) * by_ ≤ 140737488355328) (h63 : n0 + m1 ≤ 9223372036854775807)
  (hS : ∀ w, HF c.w0 c.D H' w → S w) (hd : Nat.blt d n = true)
  (hk : ∀ sv' Hs', Own e sz sv' (n0 + m1) (xs ++ vs) Hs' → GM P c n k ops S m tail fuel listed ((d, sv') :: fr) (H' ++ Hs')) :
  GMB P c n k ops S m tail fuel listed ⟨some d, .call ⟨.builtin .append, #[x, y], #[T, T]⟩, ty, pos, aft, none⟩ fr H := by
 rcases Nat.eq_zero_or_pos m1 with h0 | h0
 ·subst h0
  have hv : vs = [] := List.length_eq_zero_iff.1 (by omega)
  subst hv
  obtain ⟨ad1, cp1, rfl, hle⟩ : ∃ ad1 cp1, sv = .slice ad1 n0 cp1 ∧ n0 ≤ cp1 := by
   cases hown with
   | nil => exact ⟨none, 0, rfl, Nat.le_refl _⟩
   | row hn hc hle => exact ⟨_, _, rfl, hle⟩
  have hk' := hk _ _ (by rw [Nat.add_zero, List.append_nil]; exact hown)
  refine GMB.eff (A := Unit) (H' := fun _ => H' ++ Hs) (v := fun _ => .slice ad1 n0 cp1) (fun a w ha hw => ⟨(), w, ?_, hw.perm (hperm.trans List.perm_append_comm)⟩) (fun _ w hw => hS w (hw.sub (List.sublist_append_left _ _))) hd (fun _ => hk')
  exact V.app0 hT hi hz hx hy hle a w ha hw _ _ _ _
 ·obtain ⟨a, rfl, hs⟩ := hsrc h0
  exact GMB.app hT hi hz hsz hby hzs hx hy hown hperm hs hvl h1 h0 hbd h63 hS hd hk
end
theorem Own.tail {e sz n : Nat} {v : Value} {xs : List Value} {Hs : SH} (h : Own e sz v n xs Hs) (hxl : xs.length = n * sz) : ∃ ad cp, v = .slice ad n cp ∧ n ≤ cp ∧ ∀ (i : Nat) (w0 : World) (D : Nat → Prop) (H : SH), (∀ x ∈ Hs, x ∈ H) → 0 < n - i → ∃ a, (if cp = i then ad else ad.map (·.add (i * sz))) = some a ∧ ∀ w, HF w0 D H w → ∀ (j : Nat) u, (xs.drop (i * sz))[j]? = some u → w.cell? (a.add j) = some u := by
 cases h with
 | nil => exact ⟨none, 0, rfl, Nat.le_refl _, fun i w0 D H _ hi => by omega⟩
 | @row b n cap xs spare hn hc hle =>
  refine ⟨some ⟨b, 0, none⟩, cap, rfl, hle, fun i w0 D H hsub hi => ?_⟩
  rw [if_neg (by omega)]
  refine ⟨_, rfl, fun w hw j u hj => ?_⟩
  have e1 : ((⟨b, 0, none⟩ : Addr).add (i * sz)).add j = ⟨b, i * sz + j, none⟩ := by
   by_cases h0 : i * sz = 0
   ·by_cases h1 : j = 0 <;> simp [Addr.add, h0, h1]
   ·by_cases h1 : j = 0 <;> simp [Addr.add, h0, h1]
  rw [e1]
  refine cell_row hw (hsub _ (.head _)) ?_
  rw [List.getElem?_drop] at hj
  rw [nth_eq, List.getElem?_append_left (List.getElem?_eq_some_iff.1 hj).1]
  exact hj
end Bw

/- GinApart. Printed by wip/mk_gn4.py. -/
set_option maxRecDepth 20000
namespace Go.Proofs
open Go Bw
open Gt
theorem flatK_at {l : List Tk} {j : Nat} {x : Tk} (h : l[j]? = some x) (r : List Value) : ((flatK l ++ r).drop (0 + j * 3)).take 3 = tkV x := by
 induction l generalizing j with
 | nil => simp at h
 | cons t l ih =>
  have e : flatK (t :: l) = tkV t ++ flatK l := rfl
  rw [e, List.append_assoc]
  cases j with
  | zero => simp at h; subst h; simp [tkV]
  | succ j =>
   have e2 : 0 + (j + 1) * 3 = (tkV t).length + (0 + j * 3) := by simp [tkV]; omega
   rw [e2, ← List.drop_drop, List.drop_left]
   exact ih (by simpa using h)
theorem flatK_k {l : List Tk} {j : Nat} {x : Tk} (h : l[j]? = some x) (r : List Value) : nth (flatK l ++ r) (0 + j * 3 + 0) = some (.int .u8 (x.k.toNat : Int)) := by
 have h1 := flatK_at h r
 have h2 : (((flatK l ++ r).drop (0 + j * 3)).take 3)[0]? = some (.int .u8 (x.k.toNat : Int)) := by rw [h1]; rfl
 rw [List.getElem?_take_of_lt (by omega), List.getElem?_drop] at h2
 rw [nth_eq]; exact h2
theorem apart_end {x y z : List Tk} {t : Tk} (h : x = [] ∨ y = []) (hz : x ++ y = t :: z) : ApartN x y ↔ t.k.toNat ≠ 2 := by
 rcases h with rfl | rfl
 ·simp at hz; subst hz; simp [ApartN]
 ·simp at hz; subst hz; simp [ApartN]
theorem apart_cons {a b : Tk} {s r : List Tk} : ApartN (a :: s) (b :: r) ↔ (a = b ∧ ApartN s r) ∨ (a ≠ b ∧ a.k.toNat ≠ 2 ∧ b.k.toNat ≠ 2 ∧ ¬ (a.k.toNat = 1 ∧ b.k.toNat = 1)) := Iff.rfl
theorem flatK_drop (l : List Tk) (i : Nat) : (flatK l).drop (i * 3) = flatK (l.drop i) := by
 induction i generalizing l with
 | zero => simp
 | succ i ih =>
  cases l with
  | nil => simp [flatK]
  | cons t l =>
   have e : flatK (t :: l) = tkV t ++ flatK l := rfl
   have e2 : (i + 1) * 3 = (tkV t).length + i * 3 := by simp [tkV]; omega
   rw [e, e2, ← List.drop_drop, List.drop_left, ih]
   rfl
theorem flatK_one (l : List Tk) : ∀ u ∈ flatK l, u.oneCell' = true := by
 intro u hu
 obtain ⟨t, _, ht⟩ := List.mem_flatMap.1 hu
 exact tkV_one t u ht
theorem f51_any (w : World) (la lb : List Prt) (sa sb : Value) (hsa : Prts w sa la) (hsb : Prts w sb lb) (hla : (tks la).length ≤ 1000000 ∧ la.length ≤ 1000000) (hlb : (tks lb).length ≤ 1000000 ∧ lb.length ≤ 1000000) : Calls Tryd.prog 33 #[sa, sb] w fun e w' => e = .returned (.bool (dec (ApartN (tks la) (tks lb)))) ∧ HF w (fun _ => False) [] w' := by
 refine enter (fun _ => False) [] Tryd.func33 rfl Tryd.ntmps33 rfl rfl (HF.start w _) fun c hc => ?_
 subst hc
 obtain ⟨x, hxd⟩ : ∃ x, tks la = x := ⟨_, rfl⟩
 obtain ⟨y, hyd⟩ : ∃ y, tks lb = y := ⟨_, rfl⟩
 rw [hxd, hyd]
 have hxl : x.length ≤ 1000000 := by rw [← hxd]; exact hla.1
 have hyl : y.length ≤ 1000000 := by rw [← hyd]; exact hlb.1
 refine GC.seq ?_
 refine GC.reg ?_
 refine G.m2 ?_
 refine G.nil ?_
 refine GC.seq ?_
 refine GC.reg ?_
 refine G.m1 ?_
 refine G.callW (fun v H2 => ∃ Hk, Own 75 3 v x.length (flatK x) Hk ∧ H2 = Hk ++ []) Tryd.call43 rfl rfl (fun w1 hw1 => ?_) ?_
 ·refine (f57_any w1 la sa (hsa.old hw1) hla.1 hla.2).mono fun e w' ⟨kv, Hs, h1, h2, h3⟩ => ?_
  rw [hxd] at h2
  exact ⟨_, _, h1, hw1.after0 h3 h2.w, Hs, h2, rfl⟩
 rintro kx H2 ⟨Hx, hox, rfl⟩
 refine G.m1 ?_
 refine G.callW (fun v H2 => ∃ Hk, Own 75 3 v y.length (flatK y) Hk ∧ H2 = Hk ++ (Hx ++ [])) Tryd.call43 rfl rfl (fun w1 hw1 => ?_) ?_
 ·refine (f57_any w1 lb sb (hsb.old hw1) hlb.1 hlb.2).mono fun e w' ⟨kv, Hs, h1, h2, h3⟩ => ?_
  rw [hyd] at h2
  exact ⟨_, _, h1, hw1.after0 h3 h2.w, Hs, h2, rfl⟩
 rintro ky H2 ⟨Hy, hoy, rfl⟩
 refine G.m2 ?_
 refine G.m2 ?_
 refine G.nil ?_
 rw [List.append_nil]
 obtain ⟨adx, cpx, rfl, hcx, hsx⟩ := hox.tail (by rw [flatK_len, Nat.mul_comm])
 obtain ⟨ady, cpy, rfl, hcy, hsy⟩ := hoy.tail (by rw [flatK_len, Nat.mul_comm])
 refine GC.seq ?_
 refine GC.reg ?_
 refine G.m2 ?_
 refine G.nil ?_
 refine GC.block ?_
 refine GC.loopJ (fun N fr' H' => ∃ i, i + N = x.length ∧ i ≤ y.length ∧ (ApartN x y ↔ ApartN (x.drop i) (y.drop i)) ∧ Sub [(5, .slice adx x.length cpx), (6, .slice ady y.length cpy), (7, I (i : Nat))] fr' ∧ H' = Hy ++ Hx) x.length
  ⟨0, by omega, Nat.zero_le _, Iff.rfl, .of rfl, rfl⟩ ?_
 rintro N fr' H' ⟨i, hi, hiy, hap, hs2, rfl⟩ ih
 refine GC.weak hs2 ?_
 clear hs2
 refine GC.seq ?_
 refine GC.block ?_
 refine GC.seq ?_
 refine GC.block ?_
 refine GC.seq ?_
 refine GC.join (fun fr' H' => Sub [(5, .slice adx x.length cpx), (6, .slice ady y.length cpy), (7, I (i : Nat)), (15, .bool (dec (i = x.length ∧ i = y.length)))] fr' ∧ H' = Hy ++ Hx) (fun J4 => ?_) ?_
 ·refine GC.reg ?_
  refine G.m1 ?_
  refine G.m1 ?_
  refine G.v (V.lenL Tryd.underlying72 rfl) rfl ?_
  refine G.v (V.eqI rfl rfl) rfl ?_
  refine G.m1 ?_
  refine G.bc 20 rfl (fun h20 => ?_) (fun h20 => ?_)
  ·refine G.m5 ?_
   refine G.m5 ?_
   refine G.vg rfl rfl (V.lenL Tryd.underlying72 rfl) rfl ?_
   refine G.vg rfl rfl (V.eqI rfl rfl) rfl ?_
   refine G.m3 ?_
   refine G.m2 ?_
   refine G.nil ?_
   refine J4 _ _ ⟨.cons rfl (.cons rfl (.cons rfl (.cons (rfl.trans (congrArg (fun b => some (Value.bool b)) ?_)) .nil))), rfl⟩
   have h20' := of_decide_eq_true h20
   exact dec_d ⟨fun h => ⟨by omega, by omega⟩, fun h => by omega⟩
  ·refine G.s1 ?_
   refine G.s1 ?_
   refine G.s1 ?_
   refine G.s1 ?_
   refine G.m4 ?_
   refine G.m2 ?_
   refine G.nil ?_
   refine J4 _ _ ⟨.cons rfl (.cons rfl (.cons rfl (.cons (rfl.trans (congrArg (fun b => some (Value.bool b)) ?_)) .nil))), rfl⟩
   have h20' := of_decide_eq_false h20
   exact dec_f fun h => h20' (by omega)
 rintro fr' H' ⟨hs4, rfl⟩
 refine GC.weak hs4 ?_
 clear hs4
 refine GC.cond rfl (fun h15 => ?_) (fun h15 => ?_)
 ·refine GC.seq ?_
  obtain ⟨hx0, hy0⟩ := dec_true.1 h15
  refine GC.reg ?_
  refine G.m2 ?_
  refine G.nil ?_
  refine GC.ret1 rfl rfl fun w' hw' => ⟨?_, hw'.sub (List.nil_sublist _)⟩
  refine congrArg (fun b => Ending.returned (Value.bool b)) ?_
  exact dec_f fun h => by rw [hap, hx0, List.drop_length, ← hx0, hy0, List.drop_length] at h; exact h
 refine GC.seq ?_
 refine GC.join (fun fr' H' => Sub [(5, .slice adx x.length cpx), (6, .slice ady y.length cpy), (7, I (i : Nat)), (26, .bool (dec (i = x.length ∨ i = y.length)))] fr' ∧ H' = Hy ++ Hx) (fun J6 => ?_) ?_
 ·refine GC.reg ?_
  refine G.m1 ?_
  refine G.m1 ?_
  refine G.v (V.lenL Tryd.underlying72 rfl) rfl ?_
  refine G.v (V.eqI rfl rfl) rfl ?_
  refine G.m1 ?_
  refine G.bc 31 rfl (fun h31 => ?_) (fun h31 => ?_)
  ·refine G.s1 ?_
   refine G.s1 ?_
   refine G.s1 ?_
   refine G.s1 ?_
   refine G.m3 ?_
   refine G.m2 ?_
   refine G.nil ?_
   refine J6 _ _ ⟨.cons rfl (.cons rfl (.cons rfl (.cons (rfl.trans (congrArg (fun b => some (Value.bool b)) ?_)) .nil))), rfl⟩
   have h31' := of_decide_eq_true h31
   exact dec_t (.inl (by omega))
  ·refine G.m5 ?_
   refine G.m5 ?_
   refine G.vg rfl rfl (V.lenL Tryd.underlying72 rfl) rfl ?_
   refine G.vg rfl rfl (V.eqI rfl rfl) rfl ?_
   refine G.m4 ?_
   refine G.m2 ?_
   refine G.nil ?_
   refine J6 _ _ ⟨.cons rfl (.cons rfl (.cons rfl (.cons (rfl.trans (congrArg (fun b => some (Value.bool b)) ?_)) .nil))), rfl⟩
   have h31' := of_decide_eq_false h31
   exact dec_d ⟨fun h => .inr (by omega), fun h => by omega⟩
 rintro fr' H' ⟨hs4, rfl⟩
 refine GC.weak hs4 ?_
 clear hs4
 refine GC.cond rfl (fun h26 => ?_) (fun h26 => ?_)
 ·refine GC.seq ?_
  have hor := dec_true.1 h26
  have hnand := dec_false.1 h15
  have hsx7 := hsx i
  have hsy7 := hsy i
  have hlx : (flatK (x.drop i)).length = (x.length - i) * 3 := by rw [flatK_len, List.length_drop, Nat.mul_comm]
  have hly : (flatK (y.drop i)).length = (y.length - i) * 3 := by rw [flatK_len, List.length_drop, Nat.mul_comm]
  refine GC.regM 9 (fun _ => True) mixed (by kernel_rfl) ?_
  refine GM.p 1 rfl (by kernel_rfl) (by kernel_rfl) (fun _ _ => trivial) (fun _ => V.mv rfl) rfl ?_
  refine GM.p 2 rfl (by kernel_rfl) (by kernel_rfl) (fun _ _ => trivial) (fun _ => V.mv rfl) rfl ?_
  refine GM.p 3 rfl (by kernel_rfl) (by kernel_rfl) (fun _ _ => trivial) (fun _ => V.slTk (i := i) Tryd.underlying72 Tryd.sizeOf75 rfl rfl (by omega) hcx) rfl ?_
  refine GM.p 5 rfl (by kernel_rfl) (by kernel_rfl) (fun _ _ => trivial) (fun _ => V.mv rfl) rfl ?_
  refine GM.p 6 rfl (by kernel_rfl) (by kernel_rfl) (fun _ _ => trivial) (fun _ => V.mv rfl) rfl ?_
  refine GM.p 7 rfl (by kernel_rfl) (by kernel_rfl) (fun _ _ => trivial) (fun _ => V.slTk (i := i) Tryd.underlying72 Tryd.sizeOf75 rfl rfl (by omega) hcy) rfl ?_
  refine GM.one 0 rfl (by kernel_rfl) ?_
  refine GMB.bs0 Tryd.underlying72 Tryd.sizeOf75 Tryd.zeroValue75 (fun _ _ => trivial) rfl (fun eb => ?_)
  refine GM.one 4 rfl (by kernel_rfl) ?_
  refine GMB.appZ (i := Tryd.t75) (sz := 3) (by_ := 24) (vs := flatK (x.drop i)) Tryd.underlying72 rfl rfl rfl rfl rfl rfl rfl (Own.row (b := eb) (n := 0) (cap := 0) (xs := []) (spare := []) rfl rfl (Nat.le_refl _)) (H' := Hy ++ Hx) (.of_eq rfl) (fun h0 => by have := hsx7 w (fun _ => False) (⟨eb, true, .row [] 75 (0, 0)⟩ :: (Hy ++ Hx)) (fun e he => List.mem_cons_of_mem _ (List.mem_append_right _ he)) h0; rw [flatK_drop] at this; exact this) hlx (flatK_one _) (by omega) (by omega) (fun _ _ => trivial) rfl (fun kz Hz hoz => ?_)
  refine GM.one 8 rfl (by kernel_rfl) ?_
  refine GMB.appZ (i := Tryd.t75) (sz := 3) (by_ := 24) (vs := flatK (y.drop i)) Tryd.underlying72 rfl rfl rfl rfl rfl rfl rfl hoz (H' := Hy ++ Hx) List.perm_append_comm (fun h0 => by have := hsy7 w (fun _ => False) (Hy ++ Hx ++ Hz) (fun e he => List.mem_append_left _ (List.mem_append_left _ he)) h0; rw [flatK_drop] at this; exact this) hly (flatK_one _) (by omega) (by omega) (fun _ _ => trivial) rfl (fun kz2 Hz2 hoz2 => ?_)
  refine GM.tl (by kernel_rfl) ?_
  refine G.m2 ?_
  refine G.nil ?_
  refine GC.seq ?_
  have hz0 : [] ++ flatK (x.drop i) ++ flatK (y.drop i) = flatK (x.drop i ++ y.drop i) := by rw [flatK_app]; rfl
  rw [hz0] at hoz2
  obtain ⟨zb, zc, zs, rfl, rfl⟩ := hoz2.at (i := 0) (by omega)
  obtain ⟨t, z, hz⟩ : ∃ t z, x.drop i ++ y.drop i = t :: z := by
   cases hd : x.drop i ++ y.drop i with
   | nil => have := congrArg List.length hd; simp at this; omega
   | cons t z => exact ⟨t, z, rfl⟩
  have hat : (x.drop i ++ y.drop i)[0]? = some t := by rw [hz]; rfl
  refine GC.reg ?_
  refine G.m1 ?_
  refine G.v (V.ia (i := 0) Tryd.underlying72 Tryd.sizeOf75 rfl rfl (by omega)) rfl ?_
  refine G.v (V.fa F75_0 rfl) rfl ?_
  refine G.v (V.ld (b := zb) (off := 0 + 0 * 3 + 0) (wf := true) (l := flatK (x.drop i ++ y.drop i) ++ zs) (T := 75) (fz := (0, 0)) (v := .int .u8 (t.k.toNat : Int)) Tryd.isAgg5 rfl (List.mem_append_right _ (.head _)) (flatK_k hat _)) rfl ?_
  refine G.v (V.neI rfl rfl) rfl ?_
  refine G.m2 ?_
  refine G.nil ?_
  refine GC.ret1 rfl rfl fun w' hw' => ⟨?_, hw'.sub (List.nil_sublist _)⟩
  refine congrArg (fun b => Ending.returned (Value.bool b)) ?_
  have hae := apart_end (x := x.drop i) (y := y.drop i) (hor.elim (fun h => .inl (by rw [h, List.drop_length])) (fun h => .inr (by rw [h, List.drop_length]))) hz
  refine dec_n ?_
  rw [hap, hae]
  exact ⟨fun h h2 => h (by omega), fun h h2 => h (by omega)⟩
 refine GC.seq ?_
 have hnor := dec_false.1 h26
 have hix : i < x.length := by omega
 have hjy : i < y.length := by omega
 obtain ⟨a, hxa⟩ : ∃ a, x[i]? = some a := ⟨_, List.getElem?_eq_getElem hix⟩
 obtain ⟨b, hyb⟩ : ∃ b, y[i]? = some b := ⟨_, List.getElem?_eq_getElem hjy⟩
 obtain ⟨xb, xc, xs, ex, rfl⟩ := hox.at (i := i) hix
 obtain ⟨yb, yc, ys, ey, rfl⟩ := hoy.at (i := i) hjy
 cases ex
 cases ey
 have hxd2 := drop_cons hxa
 have hyd2 := drop_cons hyb
 rw [hxd2, hyd2, apart_cons] at hap
 refine GC.regQ mixed (by kernel_rfl) ?_
 refine GQ.v (V.mv rfl) rfl ?_
 refine GQ.v (V.mv rfl) rfl ?_
 refine GQ.v (V.ia (i := i) Tryd.underlying72 Tryd.sizeOf75 rfl rfl hix) rfl ?_
 refine GQ.v (V.ldA (b := xb) (off := 0 + i * 3) (s := 3) (wf := true) (l := flatK x ++ xs) (T := 75) (fz := (0, 0)) (cs := tkV a) Tryd.isAgg75 Tryd.sizeOf75 rfl (.tail _ (.head _)) (flatK_at hxa _) rfl) rfl ?_
 refine GQ.v (V.mv rfl) rfl ?_
 refine GQ.v (V.mv rfl) rfl ?_
 refine GQ.v (V.ia (i := i) Tryd.underlying72 Tryd.sizeOf75 rfl rfl hjy) rfl ?_
 refine GQ.v (V.ldA (b := yb) (off := 0 + i * 3) (s := 3) (wf := true) (l := flatK y ++ ys) (T := 75) (fz := (0, 0)) (cs := tkV b) Tryd.isAgg75 Tryd.sizeOf75 rfl (.head _) (flatK_at hyb _) rfl) rfl ?_
 refine GQ.v (V.eq102 rfl rfl) rfl ?_
 refine GQ.v (V.asg rfl) rfl ?_
 refine GQ.nil ?_
 refine GC.cond rfl (fun h51 => ?_) (fun h51 => ?_)
 ·refine GC.exit rfl ?_
  refine GC.reg ?_
  refine G.m1 ?_
  refine G.v (V.addI (r := ((i + 1 : Nat) : Int)) rfl rfl (by omega) (by omega) (by omega)) rfl ?_
  refine G.m2 ?_
  refine G.nil ?_
  have hab := dec_true.1 h51
  refine ih (N - 1) _ _ (by omega) ⟨i + 1, by omega, by omega, ?_, .of rfl, rfl⟩
  rw [hap]
  exact ⟨fun h => h.elim (fun h => h.2) (fun h => absurd hab h.1), fun h => .inl ⟨hab, h⟩⟩
 refine GC.seq ?_
 refine GC.join (fun fr' H' => Sub [(5, .slice (some ⟨xb, 0, none⟩) x.length cpx), (6, .slice (some ⟨yb, 0, none⟩) y.length cpy), (7, I (i : Nat)), (61, .bool (dec (a.k.toNat = 2 ∨ b.k.toNat = 2)))] fr' ∧ H' = [⟨yb, true, .row (flatK y ++ ys) 75 (0, 0)⟩] ++ [⟨xb, true, .row (flatK x ++ xs) 75 (0, 0)⟩]) (fun J10 => ?_) ?_
 ·refine GC.reg ?_
  refine G.m1 ?_
  refine G.m1 ?_
  refine G.v (V.ia (i := i) Tryd.underlying72 Tryd.sizeOf75 rfl rfl hix) rfl ?_
  refine G.v (V.fa F75_0 rfl) rfl ?_
  refine G.v (V.ld (b := xb) (off := 0 + i * 3 + 0) (wf := true) (l := flatK x ++ xs) (T := 75) (fz := (0, 0)) (v := .int .u8 (a.k.toNat : Int)) Tryd.isAgg5 rfl (.tail _ (.head _)) (flatK_k hxa _)) rfl ?_
  refine G.v (V.eqI rfl rfl) rfl ?_
  refine G.m1 ?_
  refine G.bc 68 rfl (fun h68 => ?_) (fun h68 => ?_)
  ·refine G.s1 ?_
   refine G.s1 ?_
   refine G.s1 ?_
   refine G.s1 ?_
   refine G.s1 ?_
   refine G.s1 ?_
   refine G.m3 ?_
   refine G.m2 ?_
   refine G.nil ?_
   refine J10 _ _ ⟨.cons rfl (.cons rfl (.cons rfl (.cons (rfl.trans (congrArg (fun b => some (Value.bool b)) ?_)) .nil))), rfl⟩
   have h68' := of_decide_eq_true h68
   exact dec_t (.inl (by omega))
  ·refine G.m5 ?_
   refine G.m5 ?_
   refine G.vg rfl rfl (V.ia (i := i) Tryd.underlying72 Tryd.sizeOf75 rfl rfl hjy) rfl ?_
   refine G.vg rfl rfl (V.fa F75_0 rfl) rfl ?_
   refine G.vg rfl rfl (V.ld (b := yb) (off := 0 + i * 3 + 0) (wf := true) (l := flatK y ++ ys) (T := 75) (fz := (0, 0)) (v := .int .u8 (b.k.toNat : Int)) Tryd.isAgg5 rfl (.head _) (flatK_k hyb _)) rfl ?_
   refine G.vg rfl rfl (V.eqI rfl rfl) rfl ?_
   refine G.m4 ?_
   refine G.m2 ?_
   refine G.nil ?_
   refine J10 _ _ ⟨.cons rfl (.cons rfl (.cons rfl (.cons (rfl.trans (congrArg (fun b => some (Value.bool b)) ?_)) .nil))), rfl⟩
   have h68' := of_decide_eq_false h68
   exact dec_d ⟨fun h => .inr (by omega), fun h => by omega⟩
 rintro fr' H' ⟨hs4, rfl⟩
 refine GC.weak hs4 ?_
 clear hs4
 refine GC.cond rfl (fun h61 => ?_) (fun h61 => ?_)
 ·refine GC.seq ?_
  refine GC.reg ?_
  refine G.m2 ?_
  refine G.nil ?_
  refine GC.ret1 rfl rfl fun w' hw' => ⟨?_, hw'.sub (List.nil_sublist _)⟩
  refine congrArg (fun b => Ending.returned (Value.bool b)) ?_
  have h61' := dec_true.1 h61
  have h51' := dec_false.1 h51
  refine dec_f fun h => ?_
  rw [hap] at h
  rcases h with h | h
  ·exact h51' h.1
  ·exact h61'.elim h.2.1 h.2.2.1
 refine GC.seq ?_
 refine GC.join (fun fr' H' => Sub [(5, .slice (some ⟨xb, 0, none⟩) x.length cpx), (6, .slice (some ⟨yb, 0, none⟩) y.length cpy), (7, I (i : Nat)), (76, .bool (dec (a.k.toNat = 1 ∧ b.k.toNat = 1)))] fr' ∧ H' = [⟨yb, true, .row (flatK y ++ ys) 75 (0, 0)⟩] ++ [⟨xb, true, .row (flatK x ++ xs) 75 (0, 0)⟩]) (fun J12 => ?_) ?_
 ·refine GC.reg ?_
  refine G.m1 ?_
  refine G.m1 ?_
  refine G.v (V.ia (i := i) Tryd.underlying72 Tryd.sizeOf75 rfl rfl hix) rfl ?_
  refine G.v (V.fa F75_0 rfl) rfl ?_
  refine G.v (V.ld (b := xb) (off := 0 + i * 3 + 0) (wf := true) (l := flatK x ++ xs) (T := 75) (fz := (0, 0)) (v := .int .u8 (a.k.toNat : Int)) Tryd.isAgg5 rfl (.tail _ (.head _)) (flatK_k hxa _)) rfl ?_
  refine G.v (V.eqI rfl rfl) rfl ?_
  refine G.m1 ?_
  refine G.bc 83 rfl (fun h83 => ?_) (fun h83 => ?_)
  ·refine G.m5 ?_
   refine G.m5 ?_
   refine G.vg rfl rfl (V.ia (i := i) Tryd.underlying72 Tryd.sizeOf75 rfl rfl hjy) rfl ?_
   refine G.vg rfl rfl (V.fa F75_0 rfl) rfl ?_
   refine G.vg rfl rfl (V.ld (b := yb) (off := 0 + i * 3 + 0) (wf := true) (l := flatK y ++ ys) (T := 75) (fz := (0, 0)) (v := .int .u8 (b.k.toNat : Int)) Tryd.isAgg5 rfl (.head _) (flatK_k hyb _)) rfl ?_
   refine G.vg rfl rfl (V.eqI rfl rfl) rfl ?_
   refine G.m3 ?_
   refine G.m2 ?_
   refine G.nil ?_
   refine J12 _ _ ⟨.cons rfl (.cons rfl (.cons rfl (.cons (rfl.trans (congrArg (fun b => some (Value.bool b)) ?_)) .nil))), rfl⟩
   have h83' := of_decide_eq_true h83
   exact dec_d ⟨fun h => ⟨by omega, by omega⟩, fun h => by omega⟩
  ·refine G.s1 ?_
   refine G.s1 ?_
   refine G.s1 ?_
   refine G.s1 ?_
   refine G.s1 ?_
   refine G.s1 ?_
   refine G.m4 ?_
   refine G.m2 ?_
   refine G.nil ?_
   refine J12 _ _ ⟨.cons rfl (.cons rfl (.cons rfl (.cons (rfl.trans (congrArg (fun b => some (Value.bool b)) ?_)) .nil))), rfl⟩
   have h83' := of_decide_eq_false h83
   exact dec_f fun h => h83' (by omega)
 rintro fr' H' ⟨hs4, rfl⟩
 refine GC.weak hs4 ?_
 clear hs4
 refine GC.cond rfl (fun h76 => ?_) (fun h76 => ?_)
 ·refine GC.seq ?_
  refine GC.reg ?_
  refine G.m2 ?_
  refine G.nil ?_
  refine GC.ret1 rfl rfl fun w' hw' => ⟨?_, hw'.sub (List.nil_sublist _)⟩
  refine congrArg (fun b => Ending.returned (Value.bool b)) ?_
  have h76' := dec_true.1 h76
  have h51' := dec_false.1 h51
  refine dec_f fun h => ?_
  rw [hap] at h
  rcases h with h | h
  ·exact h51' h.1
  ·exact h.2.2.2 h76'
 refine GC.skip ?_
 refine GC.inBlock ?_
 refine GC.seq ?_
 refine GC.reg ?_
 refine G.m2 ?_
 refine G.nil ?_
 refine GC.ret1 rfl rfl fun w' hw' => ⟨?_, hw'.sub (List.nil_sublist _)⟩
 refine congrArg (fun b => Ending.returned (Value.bool b)) ?_
 have h76' := dec_false.1 h76
 have h51' := dec_false.1 h51
 have h61' := dec_false.1 h61
 refine dec_t ?_
 rw [hap]
 exact .inr ⟨h51', fun h => h61' (.inl h), fun h => h61' (.inr h), h76'⟩
end Go.Proofs

/- GinClean. Printed by wip/mk_gn5.py. -/
set_option maxRecDepth 20000
namespace Go.Proofs
open Go Bw
open Gt
theorem _root_.Bw.V.remI {P : Program} {c : Cx} {n : Nat} {fr : SF} {H : SH} {x y : Operand} {t u ty : TypeId} {i j : Nat} (hx : ev fr x = some (I (i : Int))) (hy : ev fr y = some (I (j : Int))) (hj : 0 < j) : Val P c n (.binOp .rem t x y u) ty fr H (I ((i % j : Nat) : Int)) := by
 intro a w ha hw dst pos aft g
 have h1 : (Int.tmod (i : Int) (j : Int)) = ((i % j : Nat) : Int) := by rw [Int.tmod_eq_emod_of_nonneg (by omega)]; rfl
 simp [execOp, ha.eval hx, ha.eval hy, eqGuard, binOp, Op.intDiv, show ¬ (j = 0) by omega, h1]
theorem _root_.Bw.V.neBB {P : Program} {c : Cx} {n : Nat} {fr : SF} {H : SH} {ty t u : TypeId} {x y : Operand} {b d : Bool} (hU : P.underlying t = some .bool) (hx : ev fr x = some (.bool b)) (hy : ev fr y = some (.bool d)) : Val P c n (.binOp .neq t x y u) ty fr H (.bool (b != d)) := by
 intro a w ha hw dst pos aft g
 have h1 : ∀ q, (Op.equalIn (q + 1) t (.bool b) (.bool d)).run P w = .ok (b == d) w := fun q => by simp [Op.equalIn, underlying, hU]
 have h2 : (Op.equal t (.bool b) (.bool d)).run P w = .ok (b == d) w := h1 9999
 simp [execOp, ha.eval hx, ha.eval hy, eqGuard, binOp, h2]
 cases b <;> cases d <;> rfl
def TextOk (i : Nat) (p : Prt) : Prop := p.nm ≠ [] ∧ p.nm.length ≤ 100 ∧ ¬ Dbl p.nm ∧ (0 < i → p.nm.head? = some 47)
theorem f20_any (w : World) (l : List Prt) (sv : Value) (hsv : Prts w sv l) (h6 : ∀ p ∈ l, p.nm.length ≤ 2147483647) (hll : l.length ≤ 2147483647) : Calls Tryd.prog 32 #[sv] w fun e w' => e = .returned (.bool (dec (Gt.Clean l))) ∧ HF w (fun _ => False) [] w' := by
 refine enter (fun _ => False) [] Tryd.func32 rfl Tryd.ntmps32 rfl rfl (HF.start w _) fun c hc => ?_
 subst hc
 obtain ⟨ad, cp, rfl, hcp, hc⟩ := hsv
 refine GC.seq ?_
 refine GC.reg ?_
 refine G.m2 ?_
 refine G.nil ?_
 refine GC.seq ?_
 refine GC.seq ?_
 refine GC.join (fun fr' H' => Sub [(0, .slice ad l.length cp), (30, .bool (dec (¬ (l ≠ [] ∧ l.length ≤ 12 ∧ ∀ p, l[0]? = some p → p.k.toNat = 0 ∧ [47] <+: p.nm))))] fr' ∧ H' = []) (fun J1 => ?_) ?_
 ·refine GC.reg ?_
  refine G.m1 ?_
  refine G.v (V.lenL Tryd.underlying30 rfl) rfl ?_
  refine G.v (V.eqI rfl rfl) rfl ?_
  refine G.m1 ?_
  refine G.bc 11 rfl (fun h11 => ?_) (fun h11 => ?_)
  ·refine G.s1 ?_
   refine G.s1 ?_
   refine G.s1 ?_
   refine G.m3 ?_
   refine G.m1 ?_
   refine G.s1 ?_
   refine G.s1 ?_
   refine G.s1 ?_
   refine G.s1 ?_
   refine G.s1 ?_
   refine G.m3 ?_
   refine G.m1 ?_
   refine G.s1 ?_
   refine G.s1 ?_
   refine G.s1 ?_
   refine G.s1 ?_
   refine G.s1 ?_
   refine G.s1 ?_
   refine G.m3 ?_
   refine G.nil ?_
   refine J1 _ _ ⟨.cons rfl (.cons (rfl.trans (congrArg (fun b => some (Value.bool b)) ?_)) .nil), rfl⟩
   have h11' := of_decide_eq_true h11
   exact dec_t fun h => h.1 (List.length_eq_zero_iff.1 (by omega))
  ·refine G.m5 ?_
   refine G.vg rfl rfl (V.lenL Tryd.underlying30 rfl) rfl ?_
   refine G.vg rfl rfl (V.gt rfl rfl) rfl ?_
   refine G.m4 ?_
   refine G.m1 ?_
   refine G.bc 16 rfl (fun h16 => ?_) (fun h16 => ?_)
   ·refine G.s1 ?_
    refine G.s1 ?_
    refine G.s1 ?_
    refine G.s1 ?_
    refine G.s1 ?_
    refine G.m3 ?_
    refine G.m1 ?_
    refine G.s1 ?_
    refine G.s1 ?_
    refine G.s1 ?_
    refine G.s1 ?_
    refine G.s1 ?_
    refine G.s1 ?_
    refine G.m3 ?_
    refine G.nil ?_
    refine J1 _ _ ⟨.cons rfl (.cons (rfl.trans (congrArg (fun b => some (Value.bool b)) ?_)) .nil), rfl⟩
    have h16' := of_decide_eq_true h16
    exact dec_t fun h => by have := h.2.1; omega
   ·refine G.m5 ?_
    have h11' := of_decide_eq_false h11
    have h16' := of_decide_eq_false h16
    have h0l : 0 < l.length := by omega
    obtain ⟨p0, hp0⟩ : ∃ p, l[0]? = some p := ⟨_, List.getElem?_eq_getElem h0l⟩
    obtain ⟨b0, o0, e0, hc1, hc2⟩ := hc 0 p0 hp0
    subst e0
    refine G.vg rfl rfl (V.ia (i := 0) Tryd.underlying30 Tryd.sizeOf32 rfl rfl h0l) rfl ?_
    refine G.vg rfl rfl (V.fa F32_0 rfl) rfl ?_
    refine G.vg rfl rfl (V.ldC (v := .int .u8 (p0.k.toNat : Int)) Tryd.isAgg5 rfl hc1 id) rfl ?_
    refine G.vg rfl rfl (V.neI rfl rfl) rfl ?_
    refine G.m4 ?_
    refine G.m1 ?_
    refine G.bc 23 rfl (fun h23 => ?_) (fun h23 => ?_)
    ·refine G.s1 ?_
     refine G.s1 ?_
     refine G.s1 ?_
     refine G.s1 ?_
     refine G.s1 ?_
     refine G.s1 ?_
     refine G.m3 ?_
     refine G.nil ?_
     refine J1 _ _ ⟨.cons rfl (.cons (rfl.trans (congrArg (fun b => some (Value.bool b)) ?_)) .nil), rfl⟩
     have h23' : ¬ p0.k.toNat = 0 := by simpa using h23
     exact dec_t fun h => h23' (h.2.2 p0 hp0).1
    ·refine G.m5 ?_
     refine G.vg rfl rfl (V.ia (i := 0) Tryd.underlying30 Tryd.sizeOf32 rfl rfl h0l) rfl ?_
     refine G.vg rfl rfl (V.fa F32_1 rfl) rfl ?_
     refine G.vg rfl rfl (V.ldC (v := S p0.nm) Tryd.isAgg9 rfl hc2 id) rfl ?_
     refine G.gd rfl rfl ?_
     refine G.callP (v := .bool (decide ([47] <+: p0.nm))) Tryd.call19 rfl rfl (fun w1 hw1 => f46_any w1 p0.nm [47] (by have := h6 p0 (List.mem_of_getElem? hp0); omega) (by simp)) ?_
     refine G.vg rfl rfl (V.not rfl) rfl ?_
     refine G.m4 ?_
     refine G.nil ?_
     refine J1 _ _ ⟨.cons rfl (.cons (rfl.trans (congrArg (fun b => some (Value.bool b)) ?_)) .nil), rfl⟩
     have h23' : p0.k.toNat = 0 := by simpa using h23
     exact dec_n (not_congr ⟨fun h => ⟨fun e => by rw [e] at h0l; simp at h0l, by omega, fun p hp => by rw [hp0] at hp; cases hp; exact ⟨h23', h⟩⟩, fun h => (h.2.2 p0 hp0).2⟩)
 rintro fr' H' ⟨hs4, rfl⟩
 refine GC.weak hs4 ?_
 clear hs4
 refine GC.cond rfl (fun h30 => ?_) (fun h30 => ?_)
 ·refine GC.seq ?_
  refine GC.reg ?_
  refine G.m2 ?_
  refine G.nil ?_
  refine GC.ret1 rfl rfl fun w' hw' => ⟨?_, hw'.sub (List.nil_sublist _)⟩
  refine congrArg (fun b => Ending.returned (Value.bool b)) ?_
  exact dec_f fun h => dec_true.1 h30 ⟨h.1, h.2.1, h.2.2.1⟩
 refine GC.skip ?_
 refine GC.seq ?_
 refine GC.seq ?_
 have hh := Classical.not_not.1 (dec_false.1 h30)
 obtain ⟨hne, h12, hfirst⟩ := hh
 refine GC.reg ?_
 refine G.m1 ?_
 refine G.v (V.lenL Tryd.underlying30 rfl) rfl ?_
 refine G.m1 ?_
 refine G.nil ?_
 refine GC.block ?_
 refine GC.loopJ (fun N fr' H' => ∃ i, i + N = l.length ∧ (∀ j p, j < i → l[j]? = some p → OkP l j p) ∧ Sub [(0, .slice ad l.length cp), (31, .slice ad l.length cp), (32, I (l.length : Nat)), (33, I (i : Nat))] fr' ∧ H' = []) l.length
  ⟨0, by omega, fun j p hj => by omega, .of rfl, rfl⟩ ?_
 rintro N fr' H' ⟨i, hi, hok, hs2, rfl⟩ ih
 refine GC.weak hs2 ?_
 clear hs2
 refine GC.seq ?_
 refine GC.reg ?_
 refine G.v (V.lt rfl rfl) rfl ?_
 refine G.nil ?_
 refine GC.seq ?_
 refine GC.condD rfl (fun h34 => ?_) (fun h34 => ?_)
 ·refine GC.skip ?_
  refine GC.seq ?_
  refine GC.block ?_
  refine GC.seq ?_
  have hil : i < l.length := by omega
  obtain ⟨p, hp⟩ : ∃ p, l[i]? = some p := ⟨_, List.getElem?_eq_getElem hil⟩
  obtain ⟨b, o, e0, hc1, hc2⟩ := hc i p hp
  have hnl := h6 p (List.mem_of_getElem? hp)
  refine GC.reg ?_
  refine G.m1 ?_
  subst e0
  refine G.v (V.ia (i := i) Tryd.underlying30 Tryd.sizeOf32 rfl rfl hil) rfl ?_
  refine G.v (V.ldAC (s := 2) (cs := prV p) Tryd.isAgg32 Tryd.sizeOf32 rfl (cells2 hc1 hc2) rfl id) rfl ?_
  refine G.al Tryd.zeroValue32 rfl rfl (fun pb hpb => ?_)
  refine G.m2 ?_
  refine G.stA (cs := prV p) Tryd.sizeOf32 rfl rfl (by simp [prV, Value.oneCell']) .z rfl ?_
  refine G.nil ?_
  refine GC.seq ?_
  refine GC.seq ?_
  refine GC.join (fun fr' H' => Sub [(3, I (i : Nat)), (4, Pt pb 0), (0, .slice (some ⟨b, o, none⟩) l.length cp), (31, .slice (some ⟨b, o, none⟩) l.length cp), (32, I (l.length : Nat)), (33, I (i : Nat)), (61, .bool (dec (¬ ((p.k.toNat = 0 ↔ i % 2 = 0) ∧ p.k.toNat ≤ 2 ∧ (p.k.toNat = 2 → i + 1 = l.length)))))] fr' ∧ H' = [⟨pb, true, .row (prV p) 32 (0, 0)⟩]) (fun J6 => ?_) ?_
  ·refine GC.reg ?_
   refine G.v (V.fa F32_0 rfl) rfl ?_
   refine G.v (V.ld (b := pb) (off := 0 + 0) (wf := true) (l := prV p) (T := 32) (fz := (0, 0)) (v := .int .u8 (p.k.toNat : Int)) Tryd.isAgg5 rfl (.head _) rfl) rfl ?_
   refine G.v (V.eqI rfl rfl) rfl ?_
   refine G.m1 ?_
   refine G.v (V.remI (i := i) (j := 2) rfl rfl (by omega)) rfl ?_
   refine G.v (V.eqI rfl rfl) rfl ?_
   refine G.v (V.neBB Tryd.underlying4 rfl rfl) rfl ?_
   refine G.m1 ?_
   refine G.bc 45 rfl (fun h45 => ?_) (fun h45 => ?_)
   ·refine G.s1 ?_
    refine G.s1 ?_
    refine G.s1 ?_
    refine G.m3 ?_
    refine G.m1 ?_
    refine G.s1 ?_
    refine G.s1 ?_
    refine G.s1 ?_
    refine G.s1 ?_
    refine G.sgU rfl rfl rfl rfl rfl ?_
    refine G.sgU rfl rfl rfl rfl rfl ?_
    refine G.sgU rfl rfl rfl rfl rfl ?_
    refine G.sgU rfl rfl rfl rfl rfl ?_
    refine G.sgU rfl rfl rfl rfl rfl ?_
    refine G.s1 ?_
    refine G.m3 ?_
    refine G.nil ?_
    refine J6 _ _ ⟨.cons rfl (.cons rfl (.cons rfl (.cons rfl (.cons rfl (.cons rfl (.cons (rfl.trans (congrArg (fun b => some (Value.bool b)) ?_)) .nil)))))), rfl⟩
    have h45' : ¬ (p.k.toNat = 0 ↔ i % 2 = 0) := by
     have h45' := h45
     rw [bne_iff_ne, ne_eq, Bool.eq_iff_iff, decide_eq_true_iff, decide_eq_true_iff] at h45'
     omega
    exact dec_t fun h => h45' h.1
   ·refine G.vg rfl rfl (V.fa F32_0 rfl) rfl ?_
    refine G.vg rfl rfl (V.ld (b := pb) (off := 0 + 0) (wf := true) (l := prV p) (T := 32) (fz := (0, 0)) (v := .int .u8 (p.k.toNat : Int)) Tryd.isAgg5 rfl (.head _) rfl) rfl ?_
    refine G.vg rfl rfl (V.gt rfl rfl) rfl ?_
    refine G.m4 ?_
    refine G.m1 ?_
    refine G.bc 50 rfl (fun h50 => ?_) (fun h50 => ?_)
    ·refine G.s1 ?_
     refine G.s1 ?_
     refine G.s1 ?_
     refine G.s1 ?_
     refine G.sgU rfl rfl rfl rfl rfl ?_
     refine G.sgU rfl rfl rfl rfl rfl ?_
     refine G.sgU rfl rfl rfl rfl rfl ?_
     refine G.sgU rfl rfl rfl rfl rfl ?_
     refine G.sgU rfl rfl rfl rfl rfl ?_
     refine G.s1 ?_
     refine G.m3 ?_
     refine G.nil ?_
     refine J6 _ _ ⟨.cons rfl (.cons rfl (.cons rfl (.cons rfl (.cons rfl (.cons rfl (.cons (rfl.trans (congrArg (fun b => some (Value.bool b)) ?_)) .nil)))))), rfl⟩
     have h45' : (p.k.toNat = 0 ↔ i % 2 = 0) := by
      have h45' := h45
      rw [bne_eq_false_iff_eq, Bool.eq_iff_iff, decide_eq_true_iff, decide_eq_true_iff] at h45'
      omega
     have h50' := of_decide_eq_true h50
     exact dec_t fun h => by have := h.2.1; omega
    ·refine G.vg rfl rfl (V.fa F32_0 rfl) rfl ?_
     refine G.vg rfl rfl (V.ld (b := pb) (off := 0 + 0) (wf := true) (l := prV p) (T := 32) (fz := (0, 0)) (v := .int .u8 (p.k.toNat : Int)) Tryd.isAgg5 rfl (.head _) rfl) rfl ?_
     refine G.vg rfl rfl (V.eqI rfl rfl) rfl ?_
     refine G.m5 ?_
     refine G.bc 54 rfl (fun h54 => ?_) (fun h54 => ?_)
     ·refine G.m5 ?_
      refine G.m5 ?_
      refine G.vg rfl rfl (V.lenL Tryd.underlying30 rfl) rfl ?_
      refine G.vg rfl rfl (V.subI (r := ((l.length - 1 : Nat) : Int)) rfl rfl (by omega) (by omega) (by omega)) rfl ?_
      refine G.vg rfl rfl (V.neI rfl rfl) rfl ?_
      refine G.vg rfl rfl (V.pickT rfl rfl) rfl ?_
      refine G.m4 ?_
      refine G.nil ?_
      refine J6 _ _ ⟨.cons rfl (.cons rfl (.cons rfl (.cons rfl (.cons rfl (.cons rfl (.cons (rfl.trans (congrArg (fun b => some (Value.bool b)) ?_)) .nil)))))), rfl⟩
      have h45' : (p.k.toNat = 0 ↔ i % 2 = 0) := by
       have h45' := h45
       rw [bne_eq_false_iff_eq, Bool.eq_iff_iff, decide_eq_true_iff, decide_eq_true_iff] at h45'
       omega
      have h50' := of_decide_eq_false h50
      have h54' := of_decide_eq_true h54
      exact dec_n (not_congr ⟨fun h => ⟨h45', by omega, fun _ => by omega⟩, fun h => by have := h.2.2 (by omega); omega⟩)
     ·refine G.s1 ?_
      refine G.s1 ?_
      refine G.s1 ?_
      refine G.s1 ?_
      refine G.s1 ?_
      refine G.vg rfl rfl (V.pickF rfl rfl) rfl ?_
      refine G.m4 ?_
      refine G.nil ?_
      refine J6 _ _ ⟨.cons rfl (.cons rfl (.cons rfl (.cons rfl (.cons rfl (.cons rfl (.cons (rfl.trans (congrArg (fun b => some (Value.bool b)) ?_)) .nil)))))), rfl⟩
      have h45' : (p.k.toNat = 0 ↔ i % 2 = 0) := by
       have h45' := h45
       rw [bne_eq_false_iff_eq, Bool.eq_iff_iff, decide_eq_true_iff, decide_eq_true_iff] at h45'
       omega
      have h50' := of_decide_eq_false h50
      have h54' := of_decide_eq_false h54
      exact dec_f (Classical.not_not.2 ⟨h45', by omega, fun h => by omega⟩)
  rintro fr' H' ⟨hs4, rfl⟩
  refine GC.weak hs4 ?_
  clear hs4
  refine GC.cond rfl (fun h61 => ?_) (fun h61 => ?_)
  ·refine GC.seq ?_
   refine GC.reg ?_
   refine G.m2 ?_
   refine G.nil ?_
   refine GC.ret1 rfl rfl fun w' hw' => ⟨?_, hw'.sub (List.nil_sublist _)⟩
   refine congrArg (fun b => Ending.returned (Value.bool b)) ?_
   refine dec_f fun hcl => ?_
   have hop := hcl.2.2.2 i p hp
   exact dec_true.1 h61 ⟨hop.1, hop.2.1, hop.2.2.1⟩
  refine GC.skip ?_
  refine GC.seq ?_
  refine GC.seq ?_
  have h6a := Classical.not_not.1 (dec_false.1 h61)
  obtain ⟨hk1, hk2, hk3⟩ := h6a
  refine GC.reg ?_
  refine G.v (V.fa F32_0 rfl) rfl ?_
  refine G.v (V.ld (b := pb) (off := 0 + 0) (wf := true) (l := prV p) (T := 32) (fz := (0, 0)) (v := .int .u8 (p.k.toNat : Int)) Tryd.isAgg5 rfl (.head _) rfl) rfl ?_
  refine G.v (V.eqI rfl rfl) rfl ?_
  refine G.nil ?_
  refine GC.condD rfl (fun h64 => ?_) (fun h64 => ?_)
  ·refine GC.seq ?_
   refine GC.seq ?_
   have hk0 : p.k.toNat = 0 := by omega
   refine GC.join (fun fr' H' => Sub [(3, I (i : Nat)), (4, Pt pb 0), (0, .slice (some ⟨b, o, none⟩) l.length cp), (31, .slice (some ⟨b, o, none⟩) l.length cp), (32, I (l.length : Nat)), (33, I (i : Nat)), (88, .bool (dec (¬ TextOk i p)))] fr' ∧ H' = [⟨pb, true, .row (prV p) 32 (0, 0)⟩]) (fun J9 => ?_) ?_
   ·refine GC.reg ?_
    refine G.v (V.fa F32_1 rfl) rfl ?_
    refine G.v (V.ld (b := pb) (off := 0 + 1) (wf := true) (l := prV p) (T := 32) (fz := (0, 0)) (v := S p.nm) Tryd.isAgg9 rfl (.head _) rfl) rfl ?_
    refine G.v (V.eqS rfl rfl) rfl ?_
    refine G.m1 ?_
    refine G.bc 68 rfl (fun h68 => ?_) (fun h68 => ?_)
    ·refine G.s1 ?_
     refine G.s1 ?_
     refine G.s1 ?_
     refine G.s1 ?_
     refine G.m3 ?_
     refine G.m1 ?_
     refine G.s1 ?_
     refine G.s1 ?_
     refine G.s1 ?_
     refine G.m3 ?_
     refine G.m1 ?_
     refine G.s1 ?_
     refine G.s1 ?_
     refine G.s1 ?_
     refine G.sgU rfl rfl rfl rfl rfl ?_
     refine G.sgU rfl rfl rfl rfl rfl ?_
     refine G.sgU rfl rfl rfl rfl rfl ?_
     refine G.sgU rfl rfl rfl rfl rfl ?_
     refine G.s1 ?_
     refine G.m3 ?_
     refine G.nil ?_
     refine J9 _ _ ⟨.cons rfl (.cons rfl (.cons rfl (.cons rfl (.cons rfl (.cons rfl (.cons (rfl.trans (congrArg (fun b => some (Value.bool b)) ?_)) .nil)))))), rfl⟩
     have h68' := of_decide_eq_true h68
     exact dec_t fun h => h.1 h68'
    ·refine G.vg rfl rfl (V.fa F32_1 rfl) rfl ?_
     refine G.vg rfl rfl (V.ld (b := pb) (off := 0 + 1) (wf := true) (l := prV p) (T := 32) (fz := (0, 0)) (v := S p.nm) Tryd.isAgg9 rfl (.head _) rfl) rfl ?_
     refine G.vg rfl rfl (V.lenS Tryd.underlying9 rfl) rfl ?_
     refine G.vg rfl rfl (V.gt rfl rfl) rfl ?_
     refine G.m4 ?_
     refine G.m1 ?_
     refine G.bc 74 rfl (fun h74 => ?_) (fun h74 => ?_)
     ·refine G.s1 ?_
      refine G.s1 ?_
      refine G.s1 ?_
      refine G.m3 ?_
      refine G.m1 ?_
      refine G.s1 ?_
      refine G.s1 ?_
      refine G.s1 ?_
      refine G.sgU rfl rfl rfl rfl rfl ?_
      refine G.sgU rfl rfl rfl rfl rfl ?_
      refine G.sgU rfl rfl rfl rfl rfl ?_
      refine G.sgU rfl rfl rfl rfl rfl ?_
      refine G.s1 ?_
      refine G.m3 ?_
      refine G.nil ?_
      refine J9 _ _ ⟨.cons rfl (.cons rfl (.cons rfl (.cons rfl (.cons rfl (.cons rfl (.cons (rfl.trans (congrArg (fun b => some (Value.bool b)) ?_)) .nil)))))), rfl⟩
      have h74' := of_decide_eq_true h74
      exact dec_t fun h => by have := h.2.1; omega
     ·refine G.vg rfl rfl (V.fa F32_1 rfl) rfl ?_
      refine G.vg rfl rfl (V.ld (b := pb) (off := 0 + 1) (wf := true) (l := prV p) (T := 32) (fz := (0, 0)) (v := S p.nm) Tryd.isAgg9 rfl (.head _) rfl) rfl ?_
      refine G.gd rfl rfl ?_
      refine G.callP (v := .bool (dec (Dbl p.nm))) Tryd.call20 rfl rfl (fun w1 hw1 => f47_any w1 p.nm (by omega)) ?_
      refine G.m4 ?_
      refine G.m1 ?_
      refine G.bc 79 rfl (fun h79 => ?_) (fun h79 => ?_)
      ·refine G.s1 ?_
       refine G.s1 ?_
       refine G.s1 ?_
       refine G.sgU rfl rfl rfl rfl rfl ?_
       refine G.sgU rfl rfl rfl rfl rfl ?_
       refine G.sgU rfl rfl rfl rfl rfl ?_
       refine G.sgU rfl rfl rfl rfl rfl ?_
       refine G.s1 ?_
       refine G.m3 ?_
       refine G.nil ?_
       refine J9 _ _ ⟨.cons rfl (.cons rfl (.cons rfl (.cons rfl (.cons rfl (.cons rfl (.cons (rfl.trans (congrArg (fun b => some (Value.bool b)) ?_)) .nil)))))), rfl⟩
       have h79' := dec_true.1 h79
       exact dec_t fun h => h.2.2.1 h79'
      ·refine G.m5 ?_
       refine G.vg rfl rfl (V.gt rfl rfl) rfl ?_
       refine G.m5 ?_
       refine G.bc 82 rfl (fun h82 => ?_) (fun h82 => ?_)
       ·refine G.vg rfl rfl (V.fa F32_1 rfl) rfl ?_
        refine G.vg rfl rfl (V.ld (b := pb) (off := 0 + 1) (wf := true) (l := prV p) (T := 32) (fz := (0, 0)) (v := S p.nm) Tryd.isAgg9 rfl (.head _) rfl) rfl ?_
        obtain ⟨c0, nr, hc0⟩ : ∃ c0 nr, p.nm = c0 :: nr := by
         have h68' := of_decide_eq_false h68
         cases hd : p.nm with
         | nil => exact absurd hd h68'
         | cons c0 nr => exact ⟨c0, nr, rfl⟩
        refine G.vg rfl rfl (V.idx (i := 0) (b := c0) Tryd.underlying9 rfl rfl (by rw [hc0]; rfl)) rfl ?_
        refine G.vg rfl rfl (V.neI rfl rfl) rfl ?_
        refine G.vg rfl rfl (V.pickT rfl rfl) rfl ?_
        refine G.m4 ?_
        refine G.nil ?_
        refine J9 _ _ ⟨.cons rfl (.cons rfl (.cons rfl (.cons rfl (.cons rfl (.cons rfl (.cons (rfl.trans (congrArg (fun b => some (Value.bool b)) ?_)) .nil)))))), rfl⟩
        have h68' := of_decide_eq_false h68
        have h74' := of_decide_eq_false h74
        have h79' := dec_false.1 h79
        have h82' := of_decide_eq_true h82
        refine dec_n (not_congr ⟨fun h => ⟨h68', by omega, h79', fun _ => ?_⟩, fun h => ?_⟩)
        ·rw [hc0, u_eq (x := c0) (k := 47) (by omega) (by omega)]; rfl
        ·have := h.2.2.2 (by omega); rw [hc0] at this; cases this; rfl
       ·refine G.s1 ?_
        refine G.s1 ?_
        refine G.s1 ?_
        refine G.s1 ?_
        refine G.vg rfl rfl (V.pickF rfl rfl) rfl ?_
        refine G.m4 ?_
        refine G.nil ?_
        refine J9 _ _ ⟨.cons rfl (.cons rfl (.cons rfl (.cons rfl (.cons rfl (.cons rfl (.cons (rfl.trans (congrArg (fun b => some (Value.bool b)) ?_)) .nil)))))), rfl⟩
        have h68' := of_decide_eq_false h68
        have h74' := of_decide_eq_false h74
        have h79' := dec_false.1 h79
        have h82' := of_decide_eq_false h82
        exact dec_f (Classical.not_not.2 ⟨h68', by omega, h79', fun h => by omega⟩)
   rintro fr' H' ⟨hs4, rfl⟩
   refine GC.weak hs4 ?_
   clear hs4
   refine GC.cond rfl (fun h88 => ?_) (fun h88 => ?_)
   ·refine GC.seq ?_
    refine GC.reg ?_
    refine G.m2 ?_
    refine G.nil ?_
    refine GC.ret1 rfl rfl fun w' hw' => ⟨?_, hw'.sub (List.nil_sublist _)⟩
    refine congrArg (fun b => Ending.returned (Value.bool b)) ?_
    refine dec_f fun hcl => ?_
    have hop := hcl.2.2.2 i p hp
    have h1 := hop.2.2.2.1 hk0
    exact dec_true.1 h88 ⟨h1.1, h1.2.1, h1.2.2.1, h1.2.2.2.1⟩
   refine GC.skip ?_
   refine GC.seq ?_
   refine GC.seq ?_
   have htx := Classical.not_not.1 (dec_false.1 h88)
   refine GC.reg ?_
   refine G.v (V.fa F32_1 rfl) rfl ?_
   refine G.v (V.ld (b := pb) (off := 0 + 1) (wf := true) (l := prV p) (T := 32) (fz := (0, 0)) (v := S p.nm) Tryd.isAgg9 rfl (.head _) rfl) rfl ?_
   refine G.v (V.lenS Tryd.underlying9 rfl) rfl ?_
   refine G.m1 ?_
   refine G.nil ?_
   refine GC.block ?_
   refine GC.loopJ (fun N2 fr' H' => ∃ m, m + N2 = p.nm.length ∧ (∀ j c, j < m → p.nm[j]? = some c → plainN c) ∧ Sub [(3, I (i : Nat)), (4, Pt pb 0), (0, .slice (some ⟨b, o, none⟩) l.length cp), (31, .slice (some ⟨b, o, none⟩) l.length cp), (32, I (l.length : Nat)), (33, I (i : Nat)), (91, I (p.nm.length : Nat)), (92, I (m : Nat))] fr' ∧ H' = [⟨pb, true, .row (prV p) 32 (0, 0)⟩]) p.nm.length
    ⟨0, by omega, fun j p hj => by omega, .of rfl, rfl⟩ ?_
   rintro N2 fr' H' ⟨m, hm, hpl, hs2, rfl⟩ ih2
   refine GC.weak hs2 ?_
   clear hs2
   refine GC.seq ?_
   refine GC.reg ?_
   refine G.v (V.lt rfl rfl) rfl ?_
   refine G.nil ?_
   refine GC.seq ?_
   refine GC.condD rfl (fun h93 => ?_) (fun h93 => ?_)
   ·refine GC.skip ?_
    refine GC.seq ?_
    refine GC.block ?_
    refine GC.seq ?_
    have hml : m < p.nm.length := by omega
    obtain ⟨c, hcx⟩ : ∃ c, p.nm[m]? = some c := ⟨_, List.getElem?_eq_getElem hml⟩
    refine GC.reg ?_
    refine G.m1 ?_
    refine G.m2 ?_
    refine G.nil ?_
    refine GC.seq ?_
    refine GC.reg ?_
    refine G.v (V.fa F32_1 rfl) rfl ?_
    refine G.v (V.ld (b := pb) (off := 0 + 1) (wf := true) (l := prV p) (T := 32) (fz := (0, 0)) (v := S p.nm) Tryd.isAgg9 rfl (.head _) rfl) rfl ?_
    refine G.m1 ?_
    refine G.v (V.idx (i := m) (b := c) Tryd.underlying9 rfl rfl hcx) rfl ?_
    refine G.callP (v := .bool (dec (plainN c))) Tryd.call45 rfl rfl (fun w1 hw1 => f48_any w1 c) ?_
    refine G.v (V.not rfl) rfl ?_
    refine G.nil ?_
    refine GC.cond rfl (fun h100 => ?_) (fun h100 => ?_)
    ·refine GC.seq ?_
     refine GC.reg ?_
     refine G.m2 ?_
     refine G.nil ?_
     refine GC.ret1 rfl rfl fun w' hw' => ⟨?_, hw'.sub (List.nil_sublist _)⟩
     refine congrArg (fun b => Ending.returned (Value.bool b)) ?_
     refine dec_f fun hcl => ?_
     have hop := hcl.2.2.2 i p hp
     have h1 := hop.2.2.2.1 hk0
     exact dec_false.1 (by simpa using h100) (h1.2.2.2.2 c (List.mem_of_getElem? hcx))
    refine GC.skip ?_
    refine GC.inBlock ?_
    refine GC.reg ?_
    refine G.v (V.addI (r := ((m + 1 : Nat) : Int)) rfl rfl rfl (by omega) (by omega)) rfl ?_
    refine G.m1 ?_
    refine G.nil ?_
    refine ih2 (N2 - 1) _ _ (by omega) ⟨m + 1, by omega, fun j y hj hy => ?_, .of rfl, rfl⟩
    by_cases hji : j = m
    ·subst hji
     rw [hcx] at hy
     cases hy
     exact dec_true.1 (by simpa using h100)
    ·exact hpl j y (by omega) hy
   refine GC.exit rfl ?_
   refine GC.exit rfl ?_
   refine GC.reg ?_
   refine G.v (V.addI (r := ((i + 1 : Nat) : Int)) rfl rfl rfl (by omega) (by omega)) rfl ?_
   refine G.m1 ?_
   refine G.nil ?_
   refine GC.turn (H' := []) (fun w1 h1 => h1.sub (List.nil_sublist _)) ?_
   refine ih (N - 1) _ _ (by omega) ⟨i + 1, by omega, fun j y hj hy => ?_, .of rfl, rfl⟩
   by_cases hji : j = i
   ·subst hji
    rw [hp] at hy
    cases hy
    have hall : ∀ c ∈ p.nm, plainN c := fun c hc => by
     obtain ⟨j2, hj2⟩ := List.getElem?_of_mem hc
     exact hpl j2 c (by have := (List.getElem?_eq_some_iff.1 hj2).1; omega) hj2
    exact ⟨hk1, hk2, hk3, fun _ => ⟨htx.1, htx.2.1, htx.2.2.1, htx.2.2.2, hall⟩, fun h => absurd hk0 h⟩
   ·exact hok j y (by omega) hy
  refine GC.skip ?_
  refine GC.seq ?_
  refine GC.seq ?_
  have hk0 : p.k.toNat ≠ 0 := by omega
  have hi1 : 1 ≤ i := by
   rcases Nat.eq_zero_or_pos i with h0 | h0
   ·exact absurd (hk1.2 (by omega)) hk0
   ·exact h0
  obtain ⟨q, hq⟩ : ∃ q, l[i - 1]? = some q := ⟨_, List.getElem?_eq_getElem (by omega)⟩
  obtain ⟨b', o', e0, hd1, hd2⟩ := hc (i - 1) q hq
  cases e0
  refine GC.join (fun fr' H' => Sub [(3, I (i : Nat)), (4, Pt pb 0), (0, .slice (some ⟨b, o, none⟩) l.length cp), (31, .slice (some ⟨b, o, none⟩) l.length cp), (32, I (l.length : Nat)), (33, I (i : Nat)), (115, .bool (dec (¬ (wordN p.nm ∧ [47] <:+ q.nm))))] fr' ∧ H' = [⟨pb, true, .row (prV p) 32 (0, 0)⟩]) (fun J17 => ?_) ?_
  ·refine GC.reg ?_
   refine G.v (V.fa F32_1 rfl) rfl ?_
   refine G.v (V.ld (b := pb) (off := 0 + 1) (wf := true) (l := prV p) (T := 32) (fz := (0, 0)) (v := S p.nm) Tryd.isAgg9 rfl (.head _) rfl) rfl ?_
   refine G.callP (v := .bool (dec (wordN p.nm))) Tryd.call46 rfl rfl (fun w1 hw1 => f49_any w1 p.nm (by omega)) ?_
   refine G.v (V.not rfl) rfl ?_
   refine G.m1 ?_
   refine G.bc 106 rfl (fun h106 => ?_) (fun h106 => ?_)
   ·refine G.s1 ?_
    refine G.s1 ?_
    refine G.s1 ?_
    refine G.s1 ?_
    refine G.s1 ?_
    refine G.s1 ?_
    refine G.s1 ?_
    refine G.s1 ?_
    refine G.m3 ?_
    refine G.nil ?_
    refine J17 _ _ ⟨.cons rfl (.cons rfl (.cons rfl (.cons rfl (.cons rfl (.cons rfl (.cons (rfl.trans (congrArg (fun b => some (Value.bool b)) ?_)) .nil)))))), rfl⟩
    have h106' : ¬ wordN p.nm := dec_false.1 (by simpa using h106)
    exact dec_t fun h => h106' h.1
   ·refine G.m5 ?_
    refine G.m5 ?_
    refine G.vg rfl rfl (V.subI (r := ((i - 1 : Nat) : Int)) rfl rfl (by omega) (by omega) (by omega)) rfl ?_
    refine G.vg rfl rfl (V.ia (i := i - 1) Tryd.underlying30 Tryd.sizeOf32 rfl rfl (by omega)) rfl ?_
    refine G.vg rfl rfl (V.fa F32_1 rfl) rfl ?_
    refine G.vg rfl rfl (V.ldC (v := S q.nm) Tryd.isAgg9 rfl hd2 id) rfl ?_
    refine G.gd rfl rfl ?_
    refine G.callP (v := .bool (decide ([47] <:+ q.nm))) Tryd.call30 rfl rfl (fun w1 hw1 => f50_any w1 q.nm [47] (by have := h6 q (List.mem_of_getElem? hq); omega) (by simp)) ?_
    refine G.vg rfl rfl (V.not rfl) rfl ?_
    refine G.m4 ?_
    refine G.nil ?_
    refine J17 _ _ ⟨.cons rfl (.cons rfl (.cons rfl (.cons rfl (.cons rfl (.cons rfl (.cons (rfl.trans (congrArg (fun b => some (Value.bool b)) ?_)) .nil)))))), rfl⟩
    have h106' : wordN p.nm := dec_true.1 (by simpa using h106)
    exact dec_n (not_congr ⟨fun h => ⟨h106', h⟩, fun h => h.2⟩)
  rintro fr' H' ⟨hs4, rfl⟩
  refine GC.weak hs4 ?_
  clear hs4
  refine GC.cond rfl (fun h115 => ?_) (fun h115 => ?_)
  ·refine GC.seq ?_
   refine GC.reg ?_
   refine G.m2 ?_
   refine G.nil ?_
   refine GC.ret1 rfl rfl fun w' hw' => ⟨?_, hw'.sub (List.nil_sublist _)⟩
   refine congrArg (fun b => Ending.returned (Value.bool b)) ?_
   refine dec_f fun hcl => ?_
   have hop := hcl.2.2.2 i p hp
   have h1 := hop.2.2.2.2 hk0
   exact dec_true.1 h115 ⟨h1.1, h1.2.1 q hq⟩
  refine GC.skip ?_
  refine GC.seq ?_
  have h17 := Classical.not_not.1 (dec_false.1 h115)
  refine GC.reg ?_
  refine G.m1 ?_
  refine G.m1 ?_
  refine G.v (V.slTH (i := i) Tryd.underlying30 Tryd.sizeOf32 rfl rfl (by omega)) rfl ?_
  refine G.v (V.lenL Tryd.underlying30 rfl) rfl ?_
  refine G.m1 ?_
  refine G.nil ?_
  refine GC.block ?_
  refine GC.loopJ (fun N2 fr' H' => ∃ m, m + N2 = i ∧ (∀ j q, j < m → l[j]? = some q → q.k.toNat ≠ 0 → q.nm ≠ p.nm) ∧ Sub [(3, I (i : Nat)), (4, Pt pb 0), (0, .slice (some ⟨b, o, none⟩) l.length cp), (31, .slice (some ⟨b, o, none⟩) l.length cp), (32, I (l.length : Nat)), (33, I (i : Nat)), (118, .slice (some ⟨b, o, none⟩) i cp), (119, I (i : Nat)), (120, I (m : Nat))] fr' ∧ H' = [⟨pb, true, .row (prV p) 32 (0, 0)⟩]) i
   ⟨0, by omega, fun j p hj => by omega, .of rfl, rfl⟩ ?_
  rintro N2 fr' H' ⟨m, hm, hpl, hs2, rfl⟩ ih2
  refine GC.weak hs2 ?_
  clear hs2
  refine GC.seq ?_
  refine GC.reg ?_
  refine G.v (V.lt rfl rfl) rfl ?_
  refine G.nil ?_
  refine GC.seq ?_
  refine GC.condD rfl (fun h121 => ?_) (fun h121 => ?_)
  ·refine GC.skip ?_
   refine GC.seq ?_
   refine GC.block ?_
   refine GC.seq ?_
   have hml : m < i := by omega
   obtain ⟨r, hr⟩ : ∃ r, l[m]? = some r := ⟨_, List.getElem?_eq_getElem (by omega)⟩
   obtain ⟨b2, o2, e0, hr1, hr2⟩ := hc m r hr
   cases e0
   refine GC.reg ?_
   refine G.v (V.ia (i := m) Tryd.underlying30 Tryd.sizeOf32 rfl rfl hml) rfl ?_
   refine G.v (V.ldAC (s := 2) (cs := prV r) Tryd.isAgg32 Tryd.sizeOf32 rfl (cells2 hr1 hr2) rfl id) rfl ?_
   refine G.al Tryd.zeroValue32 rfl rfl (fun rb hrb => ?_)
   refine G.stA (cs := prV r) Tryd.sizeOf32 rfl rfl (by simp [prV, Value.oneCell']) .z rfl ?_
   refine G.nil ?_
   refine GC.seq ?_
   refine GC.join (fun fr' H' => Sub [(3, I (i : Nat)), (4, Pt pb 0), (0, .slice (some ⟨b, o, none⟩) l.length cp), (31, .slice (some ⟨b, o, none⟩) l.length cp), (32, I (l.length : Nat)), (33, I (i : Nat)), (118, .slice (some ⟨b, o, none⟩) i cp), (119, I (i : Nat)), (120, I (m : Nat)), (133, .bool (dec (r.k.toNat ≠ 0 ∧ r.nm = p.nm)))] fr' ∧ H' = [⟨rb, true, .row (prV r) 32 (0, 0)⟩, ⟨pb, true, .row (prV p) 32 (0, 0)⟩]) (fun J22 => ?_) ?_
   ·refine GC.reg ?_
    refine G.v (V.fa F32_0 rfl) rfl ?_
    refine G.v (V.ld (b := rb) (off := 0 + 0) (wf := true) (l := prV r) (T := 32) (fz := (0, 0)) (v := .int .u8 (r.k.toNat : Int)) Tryd.isAgg5 rfl (.head _) rfl) rfl ?_
    refine G.v (V.neI rfl rfl) rfl ?_
    refine G.m1 ?_
    refine G.bc 127 rfl (fun h127 => ?_) (fun h127 => ?_)
    ·refine G.vg rfl rfl (V.fa F32_1 rfl) rfl ?_
     refine G.vg rfl rfl (V.ld (b := rb) (off := 0 + 1) (wf := true) (l := prV r) (T := 32) (fz := (0, 0)) (v := S r.nm) Tryd.isAgg9 rfl (.head _) rfl) rfl ?_
     refine G.vg rfl rfl (V.fa F32_1 rfl) rfl ?_
     refine G.vg rfl rfl (V.ld (b := pb) (off := 0 + 1) (wf := true) (l := prV p) (T := 32) (fz := (0, 0)) (v := S p.nm) Tryd.isAgg9 rfl (.tail _ (.head _)) rfl) rfl ?_
     refine G.vg rfl rfl (V.eqS rfl rfl) rfl ?_
     refine G.m3 ?_
     refine G.nil ?_
     refine J22 _ _ ⟨.cons rfl (.cons rfl (.cons rfl (.cons rfl (.cons rfl (.cons rfl (.cons rfl (.cons rfl (.cons rfl (.cons (rfl.trans (congrArg (fun b => some (Value.bool b)) ?_)) .nil))))))))), rfl⟩
     have h127' : r.k.toNat ≠ 0 := by simpa using h127
     exact dec_d ⟨fun h => ⟨h127', h⟩, fun h => h.2⟩
    ·refine G.s1 ?_
     refine G.s1 ?_
     refine G.s1 ?_
     refine G.s1 ?_
     refine G.s1 ?_
     refine G.m4 ?_
     refine G.nil ?_
     refine J22 _ _ ⟨.cons rfl (.cons rfl (.cons rfl (.cons rfl (.cons rfl (.cons rfl (.cons rfl (.cons rfl (.cons rfl (.cons (rfl.trans (congrArg (fun b => some (Value.bool b)) ?_)) .nil))))))))), rfl⟩
     have h127' : r.k.toNat = 0 := by simpa using h127
     exact dec_f fun h => h.1 h127'
   rintro fr' H' ⟨hs4, rfl⟩
   refine GC.weak hs4 ?_
   clear hs4
   refine GC.cond rfl (fun h133 => ?_) (fun h133 => ?_)
   ·refine GC.seq ?_
    refine GC.reg ?_
    refine G.m2 ?_
    refine G.nil ?_
    refine GC.ret1 rfl rfl fun w' hw' => ⟨?_, hw'.sub (List.nil_sublist _)⟩
    refine congrArg (fun b => Ending.returned (Value.bool b)) ?_
    refine dec_f fun hcl => ?_
    have hop := hcl.2.2.2 i p hp
    have h1 := hop.2.2.2.2 hk0
    have h2 := dec_true.1 h133
    exact h1.2.2 r (List.mem_of_getElem? (i := m) (by rw [List.getElem?_take_of_lt hml]; exact hr)) h2.1 h2.2
   refine GC.skip ?_
   refine GC.inBlock ?_
   refine GC.reg ?_
   refine G.v (V.addI (r := ((m + 1 : Nat) : Int)) rfl rfl rfl (by omega) (by omega)) rfl ?_
   refine G.m1 ?_
   refine G.nil ?_
   refine GC.turn (H' := [⟨pb, true, .row (prV p) 32 (0, 0)⟩]) (fun w1 h1 => h1.sub (List.sublist_cons_self _ _)) ?_
   refine ih2 (N2 - 1) _ _ (by omega) ⟨m + 1, by omega, fun j y hj hy => ?_, .of rfl, rfl⟩
   by_cases hji : j = m
   ·subst hji
    rw [hr] at hy
    cases hy
    exact fun h1 h2 => dec_false.1 h133 ⟨h1, h2⟩
   ·exact hpl j y (by omega) hy
  refine GC.exit rfl ?_
  refine GC.inBlock ?_
  refine GC.reg ?_
  refine G.v (V.addI (r := ((i + 1 : Nat) : Int)) rfl rfl rfl (by omega) (by omega)) rfl ?_
  refine G.m1 ?_
  refine G.nil ?_
  refine GC.turn (H' := []) (fun w1 h1 => h1.sub (List.nil_sublist _)) ?_
  refine ih (N - 1) _ _ (by omega) ⟨i + 1, by omega, fun j y hj hy => ?_, .of rfl, rfl⟩
  by_cases hji : j = i
  ·subst hji
   rw [hp] at hy
   cases hy
   refine ⟨hk1, hk2, hk3, fun h => absurd h hk0, fun _ => ⟨h17.1, fun q2 hq2 => by rw [hq] at hq2; cases hq2; exact h17.2, fun q2 hq2 => ?_⟩⟩
   obtain ⟨j2, hj2⟩ := List.getElem?_of_mem hq2
   rw [List.getElem?_take] at hj2
   split at hj2
   ·exact hpl j2 q2 (by omega) hj2
   ·cases hj2
  ·exact hok j y (by omega) hy
 refine GC.exit rfl ?_
 refine GC.seq ?_
 refine GC.reg ?_
 refine G.m2 ?_
 refine G.nil ?_
 refine GC.ret1 rfl rfl fun w' hw' => ⟨?_, hw'.sub (List.nil_sublist _)⟩
 refine congrArg (fun b => Ending.returned (Value.bool b)) ?_
 refine dec_t ⟨hne, h12, hfirst, fun j p hp => hok j p ?_ hp⟩
 have := (List.getElem?_eq_some_iff.1 hp).1
 omega
end Go.Proofs

/- GinTable, ginFits. Printed by wip/mk_gn6.py. -/
set_option maxRecDepth 20000
namespace Go.Proofs
open Go Bw
open Gt
theorem clean_len {l : List Prt} (h : Gt.Clean l) : (tks l).length ≤ 1000000 ∧ l.length ≤ 1000000 := by
 have h12 := h.2.1
 have key : ∀ (j : Nat), j ≤ l.length → (tks (l.take j)).length ≤ j * 100 := by
  intro j
  induction j with
  | zero => intro _; simp [tks]
  | succ j ih =>
   intro hj
   obtain ⟨p, hp⟩ : ∃ p, l[j]? = some p := ⟨_, List.getElem?_eq_getElem (by omega)⟩
   rw [tks_snoc hp, List.length_append]
   have h1 := ih (by omega)
   have hop := h.2.2.2 j p hp
   have h2 : (tkP p).length ≤ 100 := by
    unfold tkP
    split
    ·rename_i hk
     rw [List.length_map]; exact (hop.2.2.2.1 hk).2.1
    ·simp
   omega
 have := key l.length (Nat.le_refl _)
 rw [List.take_length] at this
 omega
theorem f21_any (w : World) (l : List (List Prt)) (sv : Value) (hsv : Tbl w sv l) (h4 : Fits4 l) : Calls Tryd.prog 18 #[sv] w fun e w' => e = .returned (.bool (dec (TableN l))) ∧ HF w (fun _ => False) [] w' := by
 refine enter (fun _ => False) [] Tryd.func18 rfl Tryd.ntmps18 rfl rfl (HF.start w _) fun c hc => ?_
 subst hc
 obtain ⟨ad, cp, rfl, hcp, hc⟩ := hsv
 have hll := h4.1
 refine GC.seq ?_
 refine GC.reg ?_
 refine G.m2 ?_
 refine G.nil ?_
 refine GC.seq ?_
 refine GC.seq ?_
 refine GC.reg ?_
 refine G.m1 ?_
 refine G.v (V.lenL Tryd.underlying22 rfl) rfl ?_
 refine G.m1 ?_
 refine G.nil ?_
 refine GC.block ?_
 refine GC.loopJ (fun N fr' H' => ∃ i, i + N = l.length ∧ (∀ j a, j < i → l[j]? = some a → Gt.Clean a ∧ ∀ b ∈ l.take j, ApartN (tks a) (tks b)) ∧ Sub [(0, .slice ad l.length cp), (7, .slice ad l.length cp), (8, I (l.length : Nat)), (9, I (i : Nat))] fr' ∧ H' = []) l.length
  ⟨0, by omega, fun j p hj => by omega, .of rfl, rfl⟩ ?_
 rintro N fr' H' ⟨i, hi, hok, hs2, rfl⟩ ih
 refine GC.weak hs2 ?_
 clear hs2
 refine GC.seq ?_
 refine GC.reg ?_
 refine G.v (V.lt rfl rfl) rfl ?_
 refine G.nil ?_
 refine GC.seq ?_
 refine GC.condD rfl (fun h10 => ?_) (fun h10 => ?_)
 ·refine GC.skip ?_
  refine GC.seq ?_
  refine GC.block ?_
  refine GC.seq ?_
  have hil : i < l.length := by omega
  obtain ⟨a, ha⟩ : ∃ p, l[i]? = some p := ⟨_, List.getElem?_eq_getElem hil⟩
  obtain ⟨b, o, av, e0, hc1, hc2⟩ := hc i a ha
  have ha5 := h4.2 a (List.mem_of_getElem? ha)
  refine GC.reg ?_
  refine G.m1 ?_
  subst e0
  refine G.v (V.ia (i := i) Tryd.underlying22 Tryd.sizeOf30 rfl rfl hil) rfl ?_
  refine G.v (V.ldC (v := av) Tryd.isAgg30 rfl (by rw [Nat.mul_one]; exact hc1) id) rfl ?_
  refine G.m2 ?_
  refine G.m2 ?_
  refine G.nil ?_
  refine GC.seq ?_
  refine GC.seq ?_
  refine GC.reg ?_
  refine G.m1 ?_
  refine G.callP (v := .bool (dec (Gt.Clean a))) Tryd.call32 rfl rfl (fun w1 hw1 => f20_any w1 a av (hc2.old hw1) ha5.2 ha5.1) ?_
  refine G.v (V.not rfl) rfl ?_
  refine G.nil ?_
  refine GC.cond rfl (fun h16 => ?_) (fun h16 => ?_)
  ·refine GC.seq ?_
   refine GC.reg ?_
   refine G.m2 ?_
   refine G.nil ?_
   refine GC.ret1 rfl rfl fun w' hw' => ⟨?_, hw'⟩
   refine congrArg (fun b => Ending.returned (Value.bool b)) ?_
   exact dec_f fun h => dec_false.1 (by simpa using h16) (h i a ha).1
  refine GC.skip ?_
  refine GC.seq ?_
  have hca : Gt.Clean a := dec_true.1 (by simpa using h16)
  refine GC.reg ?_
  refine G.m1 ?_
  refine G.m1 ?_
  refine G.v (V.slTH (i := i) Tryd.underlying22 Tryd.sizeOf30 rfl rfl (by omega)) rfl ?_
  refine G.v (V.lenL Tryd.underlying22 rfl) rfl ?_
  refine G.m1 ?_
  refine G.nil ?_
  refine GC.block ?_
  refine GC.loopJ (fun N2 fr' H' => ∃ m, m + N2 = i ∧ (∀ j b, j < m → l[j]? = some b → ApartN (tks a) (tks b)) ∧ Sub [(0, .slice (some ⟨b, o, none⟩) l.length cp), (4, av), (7, .slice (some ⟨b, o, none⟩) l.length cp), (8, I (l.length : Nat)), (9, I (i : Nat)), (19, .slice (some ⟨b, o, none⟩) i cp), (20, I (i : Nat)), (21, I (m : Nat))] fr' ∧ H' = []) i
   ⟨0, by omega, fun j p hj => by omega, .of rfl, rfl⟩ ?_
  rintro N2 fr' H' ⟨m, hm, hpl, hs2, rfl⟩ ih2
  refine GC.weak hs2 ?_
  clear hs2
  refine GC.seq ?_
  refine GC.reg ?_
  refine G.v (V.lt rfl rfl) rfl ?_
  refine G.nil ?_
  refine GC.seq ?_
  refine GC.condD rfl (fun h22 => ?_) (fun h22 => ?_)
  ·refine GC.skip ?_
   refine GC.seq ?_
   refine GC.block ?_
   refine GC.seq ?_
   have hml : m < i := by omega
   obtain ⟨d, hd⟩ : ∃ r, l[m]? = some r := ⟨_, List.getElem?_eq_getElem (by omega)⟩
   obtain ⟨b2, o2, dv, e0, hd1, hd2⟩ := hc m d hd
   cases e0
   have hcd := (hok m d hml hd).1
   refine GC.reg ?_
   refine G.v (V.ia (i := m) Tryd.underlying22 Tryd.sizeOf30 rfl rfl hml) rfl ?_
   refine G.v (V.ldC (v := dv) Tryd.isAgg30 rfl (by rw [Nat.mul_one]; exact hd1) id) rfl ?_
   refine G.m2 ?_
   refine G.nil ?_
   refine GC.seq ?_
   refine GC.reg ?_
   refine G.m1 ?_
   refine G.m1 ?_
   refine G.callP (v := .bool (dec (ApartN (tks a) (tks d)))) Tryd.call33 rfl rfl (fun w1 hw1 => f51_any w1 a d av dv (hc2.old hw1) (hd2.old hw1) (clean_len hca) (clean_len hcd)) ?_
   refine G.v (V.not rfl) rfl ?_
   refine G.nil ?_
   refine GC.cond rfl (fun h28 => ?_) (fun h28 => ?_)
   ·refine GC.seq ?_
    refine GC.reg ?_
    refine G.m2 ?_
    refine G.nil ?_
    refine GC.ret1 rfl rfl fun w' hw' => ⟨?_, hw'⟩
    refine congrArg (fun b => Ending.returned (Value.bool b)) ?_
    exact dec_f fun h => dec_false.1 (by simpa using h28) ((h i a ha).2 d (List.mem_of_getElem? (i := m) (by rw [List.getElem?_take_of_lt hml]; exact hd)))
   refine GC.skip ?_
   refine GC.inBlock ?_
   refine GC.reg ?_
   refine G.v (V.addI (r := ((m + 1 : Nat) : Int)) rfl rfl rfl (by omega) (by omega)) rfl ?_
   refine G.m1 ?_
   refine G.nil ?_
   refine ih2 (N2 - 1) _ _ (by omega) ⟨m + 1, by omega, fun j y hj hy => ?_, .of rfl, rfl⟩
   by_cases hji : j = m
   ·subst hji
    rw [hd] at hy
    cases hy
    exact dec_true.1 (by simpa using h28)
   ·exact hpl j y (by omega) hy
  refine GC.exit rfl ?_
  refine GC.inBlock ?_
  refine GC.reg ?_
  refine G.v (V.addI (r := ((i + 1 : Nat) : Int)) rfl rfl rfl (by omega) (by omega)) rfl ?_
  refine G.m1 ?_
  refine G.nil ?_
  refine ih (N - 1) _ _ (by omega) ⟨i + 1, by omega, fun j y hj hy => ?_, .of rfl, rfl⟩
  by_cases hji : j = i
  ·subst hji
   rw [ha] at hy
   cases hy
   refine ⟨hca, fun d hd => ?_⟩
   obtain ⟨j2, hj2⟩ := List.getElem?_of_mem hd
   rw [List.getElem?_take] at hj2
   split at hj2
   ·exact hpl j2 d (by omega) hj2
   ·cases hj2
  ·exact hok j y (by omega) hy
 refine GC.exit rfl ?_
 refine GC.seq ?_
 refine GC.reg ?_
 refine G.m2 ?_
 refine G.nil ?_
 refine GC.ret1 rfl rfl fun w' hw' => ⟨?_, hw'⟩
 refine congrArg (fun b => Ending.returned (Value.bool b)) ?_
 refine dec_t fun j a ha => hok j a ?_ ha
 have := (List.getElem?_eq_some_iff.1 ha).1
 omega
theorem f19_any (w : World) (l : List (List Prt)) (sv : Value) (hsv : Tbl w sv l) (h4 : Fits4 l) (p : List UInt8) (hp : p.length ≤ 2147483647) : Calls Tryd.prog 6 #[sv, S p] w fun e w' => e = .returned (.bool (dec (FitsN l p))) ∧ HF w (fun _ => False) [] w' := by
 refine enter (fun _ => False) [] Tryd.func6 rfl Tryd.ntmps6 rfl rfl (HF.start w _) fun c hc => ?_
 subst hc
 have hsl : ∃ ad cp, sv = .slice ad l.length cp := by
  obtain ⟨ad, cp, h, _⟩ := hsv
  exact ⟨ad, cp, h⟩
 obtain ⟨ad, cp, rfl⟩ := hsl
 refine GC.seq ?_
 refine GC.reg ?_
 refine G.m2 ?_
 refine G.nil ?_
 refine GC.seq ?_
 refine GC.reg ?_
 refine G.m1 ?_
 refine G.v (V.lenL Tryd.underlying22 rfl) rfl ?_
 refine G.v (V.le rfl rfl) rfl ?_
 refine G.m1 ?_
 refine G.bc 8 rfl (fun h8 => ?_) (fun h8 => ?_)
 ·refine G.m5 ?_
  refine G.gd rfl rfl ?_
  refine G.callP (v := .bool (dec (TableN l))) Tryd.call18 rfl rfl (fun w1 hw1 => f21_any w1 l _ (hsv.old hw1) h4) ?_
  refine G.m3 ?_
  refine G.m1 ?_
  refine G.bc 12 rfl (fun h12 => ?_) (fun h12 => ?_)
  ·refine G.m5 ?_
   refine G.gd rfl rfl ?_
   refine G.callP (v := .bool (decide ([47] <+: p))) Tryd.call19 rfl rfl (fun w1 hw1 => f46_any w1 p [47] (by omega) (by simp)) ?_
   refine G.m3 ?_
   refine G.m1 ?_
   refine G.bc 16 rfl (fun h16 => ?_) (fun h16 => ?_)
   ·refine G.m5 ?_
    refine G.gd rfl rfl ?_
    refine G.callP (v := .bool (dec (Dbl p))) Tryd.call20 rfl rfl (fun w1 hw1 => f47_any w1 p (by omega)) ?_
    refine G.vg rfl rfl (V.not rfl) rfl ?_
    refine G.m3 ?_
    refine G.m1 ?_
    refine G.bc 21 rfl (fun h21 => ?_) (fun h21 => ?_)
    ·refine G.m5 ?_
     refine G.vg rfl rfl (V.lenS Tryd.underlying9 rfl) rfl ?_
     refine G.vg rfl rfl (V.le rfl rfl) rfl ?_
     refine G.m3 ?_
     refine G.m2 ?_
     refine G.nil ?_
     refine GC.ret1 rfl rfl fun w' hw' => ⟨?_, hw'⟩
     refine congrArg (fun b => Ending.returned (Value.bool b)) ?_
     have h8' := of_decide_eq_true h8
     have h12' := dec_true.1 h12
     have h16' := of_decide_eq_true h16
     have h21' : ¬ Dbl p := dec_false.1 (by simpa using h21)
     exact dec_d ⟨fun h => ⟨by omega, h12', h16', h21', by omega⟩, fun h => by have := h.2.2.2.2; omega⟩
    ·refine G.s1 ?_
     refine G.s1 ?_
     refine G.s1 ?_
     refine G.m4 ?_
     refine G.m2 ?_
     refine G.nil ?_
     refine GC.ret1 rfl rfl fun w' hw' => ⟨?_, hw'⟩
     refine congrArg (fun b => Ending.returned (Value.bool b)) ?_
     have h21' : Dbl p := dec_true.1 (by simpa using h21)
     exact dec_f fun h => h.2.2.2.1 h21'
   ·refine G.s1 ?_
    refine G.s1 ?_
    refine G.s1 ?_
    refine G.m4 ?_
    refine G.m1 ?_
    refine G.s1 ?_
    refine G.s1 ?_
    refine G.s1 ?_
    refine G.m4 ?_
    refine G.m2 ?_
    refine G.nil ?_
    refine GC.ret1 rfl rfl fun w' hw' => ⟨?_, hw'⟩
    refine congrArg (fun b => Ending.returned (Value.bool b)) ?_
    exact dec_f fun h => of_decide_eq_false h16 h.2.2.1
  ·refine G.s1 ?_
   refine G.s1 ?_
   refine G.m4 ?_
   refine G.m1 ?_
   refine G.s1 ?_
   refine G.s1 ?_
   refine G.s1 ?_
   refine G.m4 ?_
   refine G.m1 ?_
   refine G.s1 ?_
   refine G.s1 ?_
   refine G.s1 ?_
   refine G.m4 ?_
   refine G.m2 ?_
   refine G.nil ?_
   refine GC.ret1 rfl rfl fun w' hw' => ⟨?_, hw'⟩
   refine congrArg (fun b => Ending.returned (Value.bool b)) ?_
   exact dec_f fun h => dec_false.1 h12 h.2.1
 ·refine G.s1 ?_
  refine G.s1 ?_
  refine G.m4 ?_
  refine G.m1 ?_
  refine G.s1 ?_
  refine G.s1 ?_
  refine G.m4 ?_
  refine G.m1 ?_
  refine G.s1 ?_
  refine G.s1 ?_
  refine G.s1 ?_
  refine G.m4 ?_
  refine G.m1 ?_
  refine G.s1 ?_
  refine G.s1 ?_
  refine G.s1 ?_
  refine G.m4 ?_
  refine G.m2 ?_
  refine G.nil ?_
  refine GC.ret1 rfl rfl fun w' hw' => ⟨?_, hw'⟩
  refine congrArg (fun b => Ending.returned (Value.bool b)) ?_
  have h8' := of_decide_eq_false h8
  exact dec_f fun h => by have := h.1; omega
end Go.Proofs

/- strings.IndexByte. Printed by wip/mk_go1.py. -/
set_option maxRecDepth 20000
namespace Go.Proofs
open Go Bw
open Gt
theorem call78 (l : List UInt8) (c : UInt8) (w : World) : (callFunc 61 #[S l, .int .u8 (c.toNat : Int)]).run Tryd.prog w = .ok (.value (I (Lib.indexByte l c))) w := by
 rw [run_callFunc_indexByte Tryd.func61 (by kernel_rfl) rfl rfl rfl]
 have h := run_indexByte_string (P := Tryd.prog) ⟨l.toArray⟩ (c.toNat : Int) w
 have e : ((c.toNat : Int)).toNat.toUInt8 = c := by simp
 rw [e, Lib.firstIdx_eq] at h
 show ((Extern.BytealgIndexByte.indexByte #[.string ⟨l.toArray⟩, .int .u8 (c.toNat : Int)]).run Tryd.prog w).andThen _ = _
 rw [h]
 rfl
end Go.Proofs

/- better. Printed by wip/mk_go2.py. -/
set_option maxRecDepth 20000
namespace Go.Proofs
open Go Bw
open Gt
end Go.Proofs

/- ginMatch. Printed by wip/mk_go3.py. -/
set_option maxRecDepth 20000
namespace Go.Proofs
open Go Bw
open Gt
/-- the first part of a route has bytes -/
theorem Clean.first {l : List Prt} (h : Gt.Clean l) {p : Prt} (hp : l[0]? = some p) : p.k.toNat = 0 ∧ 0 < p.nm.length := by
 have hop := h.2.2.2 0 p hp
 have hk := hop.1.2 rfl
 exact ⟨hk, List.length_pos_iff.2 (hop.2.2.2.1 hk).1⟩
end Go.Proofs

/- Rules for a region that is drawn: one of two operations first; a store. -/
namespace Bw
open Go
variable {P : Program} {c : Cx} {n : Nat} {k : List Item} {fr : SF} {H : SH} {ops : Array Oper} {rest tail : List Oper} {ty t u : TypeId} {pos : String} {aft : Array Edge} {S : World → Prop} {m fuel : Nat} {listed : Array Bool}
theorem GM.two (i j : Nat) {oi oj : Oper} (hi : ops[i]? = some oi) (hj : ops[j]? = some oj) (hr : (match Region.ready .any ops listed with | [x, y] => Nat.beq x i && Nat.beq y j && Nat.blt i m && Nat.blt j m | _ => false) = true)
  (h1 : GMB P c n k ops S m tail fuel (listed.setIfInBounds i true) oi fr H) (h2 : GMB P c n k ops S m tail fuel (listed.setIfInBounds j true) oj fr H) : GM P c n k ops S m tail (fuel + 1) listed fr H := by
 have hr' : Region.ready .any ops listed = [i, j] ∧ i < m ∧ j < m := by
  split at hr
  ·rename_i x y e
   simp only [Bool.and_eq_true] at hr
   have e2 := Nat.eq_of_beq_eq_true hr.1.1.1
   have e3 := Nat.eq_of_beq_eq_true hr.1.1.2
   subst e2 e3
   exact ⟨e, by simpa [Nat.blt_eq] using hr.1.2, by simpa [Nat.blt_eq] using hr.2⟩
  ·cases hr
 intro hf a w ha hw inv
 refine ⟨by rw [hr'.1]; simp, fun q hq => ?_⟩
 have hq' := hq
 rw [hr'.1] at hq
 simp only [List.mem_cons, List.not_mem_nil, or_false] at hq
 rcases hq with rfl | rfl
 ·refine ⟨hr'.2.1, ?_⟩
  obtain ⟨g1, g2⟩ := h1 hf a w ha hw (inv.set hq' hr'.2.1)
  unfold wpOp
  simp only [hi]
  have : Region.wanted oi (yielded ops a.tmps) = true := by simp [Region.wanted, g1]
  rw [if_pos this]
  exact .inl g2
 ·refine ⟨hr'.2.2, ?_⟩
  obtain ⟨g1, g2⟩ := h2 hf a w ha hw (inv.set hq' hr'.2.2)
  unfold wpOp
  simp only [hj]
  have : Region.wanted oj (yielded ops a.tmps) = true := by simp [Region.wanted, g1]
  rw [if_pos this]
  exact .inl g2
theorem GMB.st {x y : Operand} {v : Value} {b off i : Nat} {l : List Value} {T : TypeId} {fz : Nat × Nat} (hs : ∀ w, (Go.sizeOf t).run P w = .ok 1 w) (hx : ev fr x = some (Pt b off)) (hy : ev fr y = some v)
  (h1 : v.oneCell' = true) (hi : At i ⟨b, true, .row l T fz⟩ H) (hc : (nth l off).isSome = true) (hf : (Nat.ble fz.1 off && Nat.blt off fz.2) = false) (hS : ∀ w, S w)
  (hk : GM P c n k ops S m tail fuel listed fr (putE (.row (setL l off v) T fz) i H)) : GMB P c n k ops S m tail fuel listed ⟨none, .store t x y, ty, pos, aft, none⟩ fr H := by
 intro hf' a w ha hw inv
 have hr : (execOp a.eval ⟨none, .store t x y, ty, pos, aft, none⟩).run P w = .ok .skip (w.setCell ⟨b, off, none⟩ v) := by
  obtain ⟨u, hu⟩ := Option.isSome_iff_exists.1 hc
  have hcell := cell_row hw hi.mem hu
  have hfz := frozen_row hw hi.mem (off := off)
  rw [bool_of_frz hf] at hfz
  have hcs : v.cells = #[v] := by cases v <;> first | rfl | (simp [Value.oneCell'] at h1)
  have hst := run_store P w ⟨b, off, none⟩ v .plain h1
  simp only [hcell, hfz] at hst
  simp [execOp, ha.eval hx, ha.eval hy, Instr.storeAt, Instr.sureAddr, storeVar, hcs, hs, storeCells, Addr.add, hst]
 refine ⟨rfl, ?_⟩
 simp only [Oper.wp, hr, Oper.upon]
 exact ⟨hS _, hk hf' _ _ ha (hw.setCell hi v) inv⟩
end Bw

/- Routes as texts. Printed by wip/mk_gn7.py. -/
set_option maxRecDepth 20000
namespace Go.Proofs
open Go Bw
open Gt
theorem _root_.Bw.G.appZ {P : Program} {c : Cx} {n : Nat} {k : List Item} {fr : SF} {H : SH} {ops : Array Oper} {rest : List Oper} {ty : TypeId} {pos : String} {aft : Array Edge} {T e sz by_ : Nat} {i : TypeInfo} {z : Value} {x y : Operand} {sv : Value} {n0 : Nat} {xs vs : List Value} {Hs H' : SH} {ad : Option Addr} {m1 mc d : Nat}
  (hT : P.underlying T = some (.slice e)) (hi : P.info? e = some i) (hz : i.zero = some z) (hsz : i.size = sz) (hby : i.bytes = by_) (hzs : z.cells.size = sz)
  (hx : ev fr x = some sv) (hy : ev fr y = some (.slice ad m1 mc)) (hown : Own e sz sv n0 xs Hs) (hperm : H.Perm (Hs ++ H'))
  (hsrc : 0 < m1 → ∃ a, ad = some a ∧ ∀ w, HF c.w0 c.D H w → ∀ j u, vs[j]? = some u → w.cell? (a.add j) = some u) (hvl : vs.length = m1 * sz) (h1 : ∀ u ∈ vs, u.oneCell' = true) (hbd : (n0 + m1) * by_ ≤ 140737488355328) (h63 : n0 + m1 ≤ 9223372036854775807)
  (hd : Nat.blt d n = true)
  (hk : ∀ sv' Hs', Own e sz sv' (n0 + m1) (xs ++ vs) Hs' → G P c n k ops rest ((d, sv') :: fr) (H' ++ Hs')) :
  G P c n k ops (⟨some d, .call ⟨.builtin .append, #[x, y], #[T, T]⟩, ty, pos, aft, none⟩ :: rest) fr H := by
 rcases Nat.eq_zero_or_pos m1 with h0 | h0
 ·subst h0
  have hv : vs = [] := List.length_eq_zero_iff.1 (by omega)
  subst hv
  obtain ⟨ad1, cp1, rfl, hle⟩ : ∃ ad1 cp1, sv = .slice ad1 n0 cp1 ∧ n0 ≤ cp1 := by
   cases hown with
   | nil => exact ⟨none, 0, rfl, Nat.le_refl _⟩
   | row hn hc hle => exact ⟨_, _, rfl, hle⟩
  have hk' := hk _ _ (by rw [Nat.add_zero, List.append_nil]; exact hown)
  refine G.v (V.app0 hT hi hz hx hy hle) hd ?_
  intro hf a w ha hw
  exact hk' hf a w ha (hw.perm (hperm.trans List.perm_append_comm))
 ·obtain ⟨a, rfl, hs⟩ := hsrc h0
  exact G.app hT hi hz hsz hby hzs hx hy hown hperm hs hvl h1 h0 hbd h63 hd hk
theorem rtT_snoc {l : List Prt} {j : Nat} {p : Prt} (h : l[j]? = some p) : rtT (l.take (j + 1)) = rtT (l.take j) ++ rtP p := by
 rw [take_snoc h]; simp [rtT]
theorem rtT_take_le {l : List Prt} (j : Nat) : (rtT (l.take j)).length ≤ (rtT l).length := by
 have : rtT l = rtT (l.take j) ++ rtT (l.drop j) := by unfold rtT; rw [← List.flatMap_append, List.take_append_drop]
 rw [this, List.length_append]; omega
theorem f24_any (w : World) (l : List Prt) (sv : Value) (hsv : Prts w sv l) (hlen : (rtT l).length ≤ 1000000) (hll : l.length ≤ 1000000) : Calls Tryd.prog 24 #[sv] w fun e w' => e = .returned (S (rtT l)) ∧ HF w (fun _ => False) [] w' := by
 refine enter (fun _ => False) [] Tryd.func24 rfl Tryd.ntmps24 rfl rfl (HF.start w _) fun c hc => ?_
 subst hc
 obtain ⟨ad, cp, rfl, hcp, hc⟩ := hsv
 refine GC.seq ?_
 refine GC.reg ?_
 refine G.m2 ?_
 refine G.nil ?_
 refine GC.seq ?_
 refine GC.reg ?_
 refine G.m2 ?_
 refine G.nil ?_
 refine GC.seq ?_
 refine GC.seq ?_
 refine GC.reg ?_
 refine G.m1 ?_
 refine G.v (V.lenL Tryd.underlying30 rfl) rfl ?_
 refine G.m1 ?_
 refine G.nil ?_
 refine GC.block ?_
 refine GC.loopJ (fun N fr' H' => ∃ j, j + N = l.length ∧ Sub [(3, S (rtT (l.take j))), (6, .slice ad l.length cp), (7, I (l.length : Nat)), (8, I (j : Nat))] fr' ∧ H' = []) l.length
  ⟨0, by omega, .of rfl, rfl⟩ ?_
 rintro N fr' H' ⟨j, hj, hs2, rfl⟩ ih
 refine GC.weak hs2 ?_
 clear hs2
 refine GC.seq ?_
 refine GC.reg ?_
 refine G.v (V.lt rfl rfl) rfl ?_
 refine G.nil ?_
 refine GC.seq ?_
 refine GC.condD rfl (fun h9 => ?_) (fun h9 => ?_)
 ·refine GC.skip ?_
  refine GC.seq ?_
  refine GC.block ?_
  refine GC.seq ?_
  have hjl : j < l.length := by omega
  obtain ⟨p, hp⟩ : ∃ p, l[j]? = some p := ⟨_, List.getElem?_eq_getElem hjl⟩
  obtain ⟨b, o, rfl, hc1, hc2⟩ := hc j p hp
  have hsn := rtT_snoc hp
  have hle := rtT_take_le (l := l) (j + 1)
  rw [hsn, List.length_append] at hle
  unfold rtP at hsn hle
  rw [List.length_append] at hle
  refine GC.reg ?_
  refine G.v (V.ia (i := j) Tryd.underlying30 Tryd.sizeOf32 rfl rfl hjl) rfl ?_
  refine G.v (V.ldAC (s := 2) (cs := prV p) Tryd.isAgg32 Tryd.sizeOf32 rfl (cells2 hc1 hc2) rfl id) rfl ?_
  refine G.al Tryd.zeroValue32 rfl rfl (fun pb hpb => ?_)
  refine G.stA (cs := prV p) Tryd.sizeOf32 rfl rfl (by simp [prV, Value.oneCell']) .z rfl ?_
  refine G.nil ?_
  refine GC.seq ?_
  refine GC.seq ?_
  refine GC.reg ?_
  refine G.v (V.fa F32_0 rfl) rfl ?_
  refine G.v (V.ld (b := pb) (off := 0 + 0) (wf := true) (l := prV p) (T := 32) (fz := (0, 0)) (v := .int .u8 (p.k.toNat : Int)) Tryd.isAgg5 rfl (.head _) rfl) rfl ?_
  refine G.nil ?_
  refine GC.block ?_
  refine GC.seq ?_
  refine GC.reg ?_
  refine G.v (V.eqI rfl rfl) rfl ?_
  refine G.m2 ?_
  refine G.nil ?_
  refine GC.join (fun fr' H' => Sub [(3, S (rtT (l.take j) ++ (if p.k.toNat = 1 then [58] else if p.k.toNat = 2 then [42] else []))), (5, Pt pb 0), (6, .slice (some ⟨b, o, none⟩) l.length cp), (7, I (l.length : Nat)), (8, I (j : Nat))] fr' ∧ H' = [⟨pb, true, .row (prV p) 32 (0, 0)⟩]) (fun J14 => ?_) ?_
  ·refine GC.condD rfl (fun h14 => ?_) (fun h14 => ?_)
   ·refine GC.reg ?_
    refine G.m1 ?_
    refine G.v (V.cat rfl rfl (by simp; omega)) rfl ?_
    refine G.m2 ?_
    refine G.nil ?_
    refine J14 _ _ ⟨?_, rfl⟩
    rw [if_pos (by omega)]
    exact .of rfl
   refine GC.seq ?_
   refine GC.reg ?_
   refine G.v (V.eqI rfl rfl) rfl ?_
   refine G.m2 ?_
   refine G.nil ?_
   refine GC.condD rfl (fun h18 => ?_) (fun h18 => ?_)
   ·refine GC.reg ?_
    refine G.m1 ?_
    refine G.v (V.cat rfl rfl (by simp; omega)) rfl ?_
    refine G.m2 ?_
    refine G.nil ?_
    refine J14 _ _ ⟨?_, rfl⟩
    rw [if_neg (by omega), if_pos (by omega)]
    exact .of rfl
   refine GC.skip ?_
   refine J14 _ _ ⟨?_, rfl⟩
   rw [if_neg (by omega), if_neg (by omega), List.append_nil]
   exact .of rfl
  rintro fr' H' ⟨hs4, rfl⟩
  refine GC.weak hs4 ?_
  clear hs4
  refine GC.inBlock ?_
  refine GC.reg ?_
  refine G.m1 ?_
  refine G.v (V.fa F32_1 rfl) rfl ?_
  refine G.v (V.ld (b := pb) (off := 0 + 1) (wf := true) (l := prV p) (T := 32) (fz := (0, 0)) (v := S p.nm) Tryd.isAgg9 rfl (.head _) rfl) rfl ?_
  refine G.v (V.cat rfl rfl (by rw [List.length_append]; omega)) rfl ?_
  refine G.m2 ?_
  refine G.nil ?_
  refine GC.inBlock ?_
  refine GC.reg ?_
  refine G.v (V.addI (r := ((j + 1 : Nat) : Int)) rfl rfl rfl (by omega) (by omega)) rfl ?_
  refine G.m1 ?_
  refine G.nil ?_
  refine GC.turn (H' := []) (fun w1 h1 => h1.sub (List.nil_sublist _)) ?_
  refine ih (N - 1) _ _ (by omega) ⟨j + 1, by omega, ?_, rfl⟩
  rw [hsn, ← List.append_assoc]
  exact .of rfl
 refine GC.exit rfl ?_
 refine GC.seq ?_
 refine GC.reg ?_
 refine G.m1 ?_
 refine G.m2 ?_
 refine G.nil ?_
 have hje : j = l.length := by omega
 refine GC.ret1 rfl rfl fun w' hw' => ⟨?_, hw'⟩
 rw [hje, List.take_length]
theorem f23_any (w : World) (l : List (List Prt)) (sv : Value) (hsv : Tbl w sv l) (hlen : ∀ r ∈ l, (rtT r).length ≤ 1000000 ∧ r.length ≤ 1000000) (hll : l.length ≤ 1000000) : Calls Tryd.prog 9 #[sv] w fun e w' => ∃ kv Hs, e = .returned kv ∧ Own 9 1 kv l.length ((l.map rtT).map S) Hs ∧ HF w (fun _ => False) Hs w' := by
 refine enter (fun _ => False) [] Tryd.func9 rfl Tryd.ntmps9 rfl rfl (HF.start w _) fun c hc => ?_
 subst hc
 obtain ⟨ad, cp, rfl, hcp, hc⟩ := hsv
 refine GC.seq ?_
 refine GC.reg ?_
 refine G.m2 ?_
 refine G.nil ?_
 refine GC.seq ?_
 refine GC.reg ?_
 refine G.m2 ?_
 refine G.nil ?_
 refine GC.seq ?_
 refine GC.seq ?_
 refine GC.reg ?_
 refine G.m1 ?_
 refine G.v (V.lenL Tryd.underlying22 rfl) rfl ?_
 refine G.m1 ?_
 refine G.nil ?_
 refine GC.block ?_
 refine GC.loopJ (fun N fr' H' => ∃ j kv Hs, j + N = l.length ∧ Own 9 1 kv j (((l.take j).map rtT).map S) Hs ∧ Sub [(3, kv), (6, .slice ad l.length cp), (7, I (l.length : Nat)), (8, I (j : Nat))] fr' ∧ Hs = H') l.length
  ⟨0, .slice none 0 0, [], by omega, Own.nil, .of rfl, rfl⟩ ?_
 rintro N fr' H' ⟨j, kv, Hs, hj, hown, hs2, rfl⟩ ih
 refine GC.weak hs2 ?_
 clear hs2
 refine GC.seq ?_
 refine GC.reg ?_
 refine G.v (V.lt rfl rfl) rfl ?_
 refine G.nil ?_
 refine GC.seq ?_
 refine GC.condD rfl (fun h9 => ?_) (fun h9 => ?_)
 ·refine GC.skip ?_
  refine GC.seq ?_
  refine GC.block ?_
  refine GC.seq ?_
  have hjl : j < l.length := by omega
  obtain ⟨r, hr⟩ : ∃ p, l[j]? = some p := ⟨_, List.getElem?_eq_getElem hjl⟩
  obtain ⟨b, o, rv, rfl, hc1, hc2⟩ := hc j r hr
  obtain ⟨hrl, hrl2⟩ := hlen r (List.mem_of_getElem? hr)
  refine GC.reg ?_
  refine G.v (V.ia (i := j) Tryd.underlying22 Tryd.sizeOf30 rfl rfl hjl) rfl ?_
  refine G.v (V.ldC (v := rv) Tryd.isAgg30 rfl (by rw [Nat.mul_one]; exact hc1) id) rfl ?_
  refine G.m2 ?_
  refine G.nil ?_
  refine GC.reg ?_
  refine G.m1 ?_
  refine G.m1 ?_
  refine G.callP (v := S (rtT r)) Tryd.call24 rfl rfl (fun w1 hw1 => f24_any w1 r rv (hc2.old hw1) hrl hrl2) ?_
  refine G.bs (BS.one Tryd.underlying27 Tryd.sizeOf9 Tryd.zeroValue9 (v := S (rtT r)) rfl) rfl rfl (fun sb hsb => ?_)
  refine G.app (i := Tryd.t9) (sz := 1) (by_ := 16) Tryd.underlying27 rfl rfl rfl rfl rfl rfl rfl hown (H' := [⟨sb, true, .row [S (rtT r)] 9 (0, 0)⟩]) (List.perm_append_comm (l₁ := ([⟨sb, true, .row [S (rtT r)] 9 (0, 0)⟩] : SH))) (src_row (vs := [S (rtT r)]) (r := []) (.head _)) rfl (by simp [Value.oneCell']) (by omega) (by omega) (by omega) rfl (fun kv2 Hs2 hown2 => ?_)
  refine G.m2 ?_
  refine G.nil ?_
  refine GC.inBlock ?_
  refine GC.reg ?_
  refine G.v (V.addI (r := ((j + 1 : Nat) : Int)) rfl rfl rfl (by omega) (by omega)) rfl ?_
  refine G.m1 ?_
  refine G.nil ?_
  refine GC.turn (H' := Hs2) (fun w1 h1 => h1.sub (List.sublist_cons_self _ _)) ?_
  refine ih (N - 1) _ _ (by omega) ⟨j + 1, kv2, Hs2, by omega, ?_, .of rfl, rfl⟩
  rw [take_snoc hr, List.map_append, List.map_append]
  exact hown2
 refine GC.exit rfl ?_
 refine GC.seq ?_
 refine GC.reg ?_
 refine G.m1 ?_
 refine G.m2 ?_
 refine G.nil ?_
 have hje : j = l.length := by omega
 subst hje
 rw [List.take_length] at hown
 exact GC.ret1 rfl rfl fun w' hw' => ⟨_, _, rfl, hown, hw'⟩
end Go.Proofs

/- What the reference finds in a table. Printed by wip/mk_go4.py. -/
set_option maxRecDepth 20000
namespace Go.Proofs
open Go Bw
open Gt
/-- what is kept of the best one so far -/
def BestAt (rs : List (List Prt)) (path : List UInt8) (o : Option Nat) (r : Nat) (pv : Value) (full : List UInt8) (Hp : SH) : Prop :=
 (o = none ∧ r = 0 ∧ pv = .slice none 0 0 ∧ full = [] ∧ Hp = []) ∨ ∃ m a ps, o = some m ∧ r = m + 1 ∧ rs[m]? = some a ∧ full = rtT a ∧ matchN a path = some ps ∧ ps.length ≤ 12 ∧ Own 71 2 pv ps.length (flatP ps) Hp
theorem BestAt.w {rs path o r pv full Hp} (h : BestAt rs path o r pv full Hp) : ∀ x ∈ Hp, x.w = true := by
 rcases h with ⟨_, _, _, _, rfl⟩ | ⟨m, a, ps, _, _, _, _, _, _, h⟩
 ·simp
 ·exact h.w
theorem BestAt.one {rs path o r pv full Hp} (h : BestAt rs path o r pv full Hp) : pv.oneCell' = true := by
 rcases h with ⟨_, _, rfl, _⟩ | ⟨m, a, ps, _, _, _, _, _, _, h⟩
 ·rfl
 ·exact Own.slice1 h
end Go.Proofs
