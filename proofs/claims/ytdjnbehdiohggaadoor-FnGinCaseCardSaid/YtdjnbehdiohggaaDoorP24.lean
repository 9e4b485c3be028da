/- Lemmas of the walk and plain facts (HuV1 .. HxB8). -/
import Derived.Test.YtdjnbehdiohggaaDoorP23
import Derived.Test.YtdjnbehdiohggaaDoorP17
import Derived.Test.YtdjnbehdiohggaaDoorP01
import Derived.Test.YtdjnbehdiohggaaDoorP22
import Derived.Test.YtdjnbehdiohggaaDoorP20
/- Texts alone, folded texts, slashes. Printed by wip/mk_gv1.py. -/
set_option maxRecDepth 20000
namespace Go.Proofs
open Go Bw
open Gt
section
variable {P : Program} {c : Cx} {n : Nat} {k : List Item} {fr : SF} {H : SH} {ops : Array Oper} {rest : List Oper} {ty t e : TypeId} {pos : String} {aft : Array Edge}
/-- bytes of a text in a new row; what may not be turned lies behind it -/
theorem _root_.Bw.G.cvSF {src dst e : TypeId} {x : Operand} {d : Nat} {l : List UInt8} (hs : P.underlying src = some .string) (hdt : P.underlying dst = some (.slice e)) (he : P.underlying e = some (.int .u8)) (hx : ev fr x = some (S l)) (hd : Nat.blt d n = true)
  (hk : ∀ b cp (z : List UInt8) (fz : Nat × Nat), l.length ≤ fz.1 → G P c n k ops rest ((d, .slice (some ⟨b, 0, none⟩) l.length cp) :: fr) (⟨b, true, .row (bC (l ++ z)) e fz⟩ :: H)) : G P c n k ops (⟨some d, .convert src dst x, ty, pos, aft, none⟩ :: rest) fr H := by
 intro hf a w ha hw
 refine wpList_step fun K hK => ?_
 have hsz : (⟨l.toArray⟩ : ByteArray).size = l.length := List.size_toArray
 have h := run_bytes_of_string (P := P) w src dst e ⟨l.toArray⟩ hs hdt he
 have hcap := grownCap_ge w (⟨l.toArray⟩ : ByteArray).size 0 e
 rw [hsz] at h hcap
 generalize grownCap w l.length 0 e = cp at h hcap
 have hrow : bytesRow ⟨l.toArray⟩ cp = (bC (l ++ List.replicate (cp - l.length) 0)).toArray := by
  simp [bytesRow, bC, Lib.byteCells, hsz]
 rw [hrow] at h
 have hz : l.length ≤ (bC (l ++ List.replicate (cp - l.length) 0)).toArray.size := by
  simp [bC, Lib.byteCells]
 generalize hfz : ((bC (l ++ List.replicate (cp - l.length) 0)).toArray.size, (bC (l ++ List.replicate (cp - l.length) 0)).toArray.size + 1) = fz at h
 have hf1 : l.length ≤ fz.1 := by rw [← hfz]; exact hz
 have hrun : (execOp a.eval ⟨some d, .convert src dst x, ty, pos, aft, none⟩).run P w = .ok (.value (.slice (some ⟨w.heap.size, 0, none⟩) l.length cp)) (w.drew.alloc (.cells (bC (l ++ List.replicate (cp - l.length) 0)).toArray e fz)) := by
  simp [execOp, ha.eval hx, h]
 simp only [Region.wanted, if_true, Oper.wp, hrun, Oper.upon]
 have hw2 : HF c.w0 c.D H w.drew := hw.drew _
 exact hK _ _ (hk w.heap.size cp (List.replicate (cp - l.length) 0) fz hf1 hf _ _ (ha.put hd _) (hw2.push (.row (bC (l ++ List.replicate (cp - l.length) 0)) e fz)))
theorem _root_.Bw.V.cvBF {src dst e : TypeId} {x : Operand} {b m cap : Nat} {l : List UInt8} {T : TypeId} {wf : Bool} {fz : Nat × Nat} (hs : P.underlying src = some (.slice e)) (he : P.underlying e = some (.int .u8)) (hd : P.underlying dst = some .string) (hx : ev fr x = some (.slice (some ⟨b, 0, none⟩) m cap))
  (hm : ⟨b, wf, .row (bC l) T fz⟩ ∈ H) (hl : m ≤ l.length) : Val P c n (.convert src dst x) ty fr H (S (l.take m)) := by
 intro a w ha hw ds pos aft g
 have hcell : ∀ i, i < m → w.cell? ⟨b, 0 + i, none⟩ = some (.int .u8 (((l.take m).map fun x => (x.toNat : Int)).getD i 0)) := fun i hi => by
  refine cell_row hw hm ?_
  have hil : i < l.length := by omega
  rw [nth_eq, Nat.zero_add]
  simp only [bC, Lib.byteCells, List.getElem?_map, List.getElem?_eq_getElem hil, Option.map_some, List.getD_eq_getElem?_getD, List.getElem?_take_of_lt hi, Option.getD_some]
 have h := run_convert_bytes_arg (P := P) w src e hs he b 0 m cap ((l.take m).map fun x => (x.toNat : Int)) (by simp; omega) hcell dst hd
 have e2 : strOfNums ((l.take m).map fun x => (x.toNat : Int)) = ⟨(l.take m).toArray⟩ := by
  have h0 : ((fun n : Int => UInt8.ofNat n.toNat) ∘ fun x : UInt8 => (x.toNat : Int)) = id := by
   funext x; simp
  simp [strOfNums, List.map_map, h0]
 rw [e2] at h
 simp [execOp, ha.eval hx, h]
end
theorem bC_set (l : List UInt8) (i : Nat) (x : UInt8) : (bC l).set i (.int .u8 (x.toNat : Int)) = bC (l.set i x) := by
 unfold bC Lib.byteCells
 rw [List.map_set]
theorem foldT_len (s : List UInt8) : (foldT s).length = s.length := List.length_map _
theorem f31_any (w : World) (l : List (List Prt)) (sv : Value) (hsv : Tbl w sv l) (hll : l.length ≤ 1000000) : Calls Tryd.prog 14 #[sv] w fun e w' => e = .returned (.bool (dec (StaticN l))) ∧ HF w (fun _ => False) [] w' := by
 refine enter (fun _ => False) [] Tryd.func14 rfl Tryd.ntmps14 rfl rfl (HF.start w _) fun c hc => ?_
 subst hc
 obtain ⟨ad, cp, rfl, hcp, hc⟩ := hsv
 refine GC.seq ?_
 refine GC.reg ?_
 refine G.m2 ?_
 refine G.nil ?_
 refine GC.seq ?_
 refine GC.seq ?_
 refine GC.reg ?_
 refine G.m1 ?_
 refine G.v (V.lenL Tryd.underlying22 rfl) rfl ?_
 refine G.m1 ?_
 refine G.nil ?_
 refine GC.block ?_
 refine GC.loopJ (fun N fr' H' => ∃ j, j + N = l.length ∧ (∀ (k : Nat) r, k < j → l[k]? = some r → r.length = 1) ∧ Sub [(5, .slice ad l.length cp), (6, I (l.length : Nat)), (7, I (j : Nat))] fr' ∧ H' = []) l.length
  ⟨0, by omega, fun k r hk => by omega, .of rfl, rfl⟩ ?_
 rintro N fr' H' ⟨j, hj, hok, hs2, rfl⟩ ih
 refine GC.weak hs2 ?_
 clear hs2
 refine GC.seq ?_
 refine GC.reg ?_
 refine G.v (V.lt rfl rfl) rfl ?_
 refine G.nil ?_
 refine GC.seq ?_
 refine GC.condD rfl (fun h8 => ?_) (fun h8 => ?_)
 ·refine GC.skip ?_
  refine GC.seq ?_
  refine GC.block ?_
  refine GC.seq ?_
  have hjl : j < l.length := by omega
  obtain ⟨a, ha⟩ : ∃ p, l[j]? = some p := ⟨_, List.getElem?_eq_getElem hjl⟩
  obtain ⟨b, o, av, rfl, hc1, pad, pcp, rfl, hpc⟩ := hc j a ha
  refine GC.reg ?_
  refine G.v (V.ia (i := j) Tryd.underlying22 Tryd.sizeOf30 rfl rfl hjl) rfl ?_
  refine G.v (V.ldC (v := .slice pad a.length pcp) Tryd.isAgg30 rfl (by rw [Nat.mul_one]; exact hc1) id) rfl ?_
  refine G.m2 ?_
  refine G.nil ?_
  refine GC.seq ?_
  refine GC.reg ?_
  refine G.m1 ?_
  refine G.v (V.lenL Tryd.underlying30 rfl) rfl ?_
  refine G.v (V.neI rfl rfl) rfl ?_
  refine G.nil ?_
  refine GC.cond rfl (fun h13 => ?_) (fun h13 => ?_)
  ·refine GC.seq ?_
   refine GC.reg ?_
   refine G.m2 ?_
   refine G.nil ?_
   refine GC.ret1 rfl rfl fun w' hw' => ⟨?_, hw'⟩
   refine congrArg (fun b => Ending.returned (Value.bool b)) ?_
   refine dec_f fun h => ?_
   have h1 := h a (List.mem_of_getElem? ha)
   rw [h1] at h13
   simp at h13
  refine GC.skip ?_
  refine GC.inBlock ?_
  refine GC.reg ?_
  refine G.v (V.addI (r := ((j + 1 : Nat) : Int)) rfl rfl rfl (by omega) (by omega)) rfl ?_
  refine G.m1 ?_
  refine G.nil ?_
  refine ih (N - 1) _ _ (by omega) ⟨j + 1, by omega, fun k r hk hr => ?_, .of rfl, rfl⟩
  by_cases hkj : k = j
  ·subst hkj
   rw [ha] at hr
   cases hr
   have : ((a.length : Nat) : Int) = 1 := by simpa using h13
   omega
  ·exact hok k r (by omega) hr
 refine GC.exit rfl ?_
 refine GC.seq ?_
 refine GC.reg ?_
 refine G.m2 ?_
 refine G.nil ?_
 refine GC.ret1 rfl rfl fun w' hw' => ⟨?_, hw'⟩
 refine congrArg (fun b => Ending.returned (Value.bool b)) ?_
 refine dec_t fun r hr => ?_
 obtain ⟨k, hk⟩ := List.getElem?_of_mem hr
 exact hok k r (by have := (List.getElem?_eq_some_iff.1 hk).1; omega) hk
theorem f59_any (w : World) (s : List UInt8) (hsl : s.length ≤ 1000000) : Calls Tryd.prog 12 #[S s] w fun e w' => e = .returned (S (foldT s)) ∧ HF w (fun _ => False) [] w' := by
 refine enter (fun _ => False) [] Tryd.func12 rfl Tryd.ntmps12 rfl rfl (HF.start w _) fun c hc => ?_
 subst hc
 refine GC.seq ?_
 refine GC.reg ?_
 refine G.m2 ?_
 refine G.nil ?_
 refine GC.seq ?_
 refine GC.reg ?_
 refine G.m1 ?_
 refine G.cvSF Tryd.underlying9 Tryd.underlying44 Tryd.underlying5 rfl rfl (fun b cp z fz hfz => ?_)
 refine G.m2 ?_
 refine G.nil ?_
 refine GC.seq ?_
 refine GC.seq ?_
 refine GC.reg ?_
 refine G.m1 ?_
 refine G.v (V.lenL Tryd.underlying44 rfl) rfl ?_
 refine G.m1 ?_
 refine G.nil ?_
 refine GC.block ?_
 refine GC.loopJ (fun N fr' H' => ∃ (i : Nat) (cur : List UInt8), i + N = s.length ∧ cur = foldT (s.take i) ++ s.drop i ∧ Sub [(3, .slice (some ⟨b, 0, none⟩) s.length cp), (8, .slice (some ⟨b, 0, none⟩) s.length cp), (9, I (s.length : Nat)), (10, I (i : Nat))] fr' ∧ H' = [⟨b, true, .row (bC (cur ++ z)) 5 fz⟩]) s.length
  ⟨0, s, by omega, by simp [foldT], .of rfl, rfl⟩ ?_
 rintro N fr' H' ⟨i, cur, hi, hcur, hs2, rfl⟩ ih
 refine GC.weak hs2 ?_
 clear hs2
 refine GC.seq ?_
 refine GC.reg ?_
 refine G.v (V.lt rfl rfl) rfl ?_
 refine G.nil ?_
 refine GC.seq ?_
 refine GC.condD rfl (fun h11 => ?_) (fun h11 => ?_)
 ·refine GC.skip ?_
  refine GC.seq ?_
  refine GC.block ?_
  refine GC.seq ?_
  have hil : i < s.length := by omega
  obtain ⟨x, hx⟩ : ∃ x, s[i]? = some x := ⟨_, List.getElem?_eq_getElem hil⟩
  have hfl : (foldT (s.take i)).length = i := by rw [foldT_len, List.length_take]; omega
  have hcl : cur.length = s.length := by rw [hcur, List.length_append, hfl, List.length_drop]; omega
  have hcx : cur[i]? = some x := by rw [hcur, List.getElem?_append_right (by omega), hfl, Nat.sub_self, List.getElem?_drop]; exact hx
  have hxt := x.toNat_lt
  have wr : ∀ n : Int, 0 ≤ n → n < 256 → IntKind.u8.wrap n = n := fun n h1 h2 => by
   unfold IntKind.wrap
   simp [IntKind.bits, IntKind.signed]
   omega
  refine GC.reg ?_
  refine G.m1 ?_
  refine G.v (V.ia (i := i) Tryd.underlying44 Tryd.sizeOf5 rfl rfl hil) rfl ?_
  refine G.v (V.ld (b := b) (off := 0 + i * 1) (wf := true) (l := bC (cur ++ z)) (T := 5) (fz := fz) (v := .int .u8 (x.toNat : Int)) Tryd.isAgg5 rfl (.head _) (by rw [nth_eq, Nat.zero_add, Nat.mul_one]; unfold bC Lib.byteCells; rw [List.getElem?_map, List.getElem?_append_left (by omega), hcx]; rfl)) rfl ?_
  refine G.m2 ?_
  refine G.m2 ?_
  refine G.nil ?_
  refine GC.seq ?_
  refine GC.join (fun fr' H' => Sub [(3, .slice (some ⟨b, 0, none⟩) s.length cp), (4, I (i : Nat)), (5, .int .u8 (x.toNat : Int)), (8, .slice (some ⟨b, 0, none⟩) s.length cp), (9, I (s.length : Nat)), (10, I (i : Nat)), (20, .bool (decide (65 ≤ x.toNat ∧ x.toNat ≤ 90)))] fr' ∧ H' = [⟨b, true, .row (bC (cur ++ z)) 5 fz⟩]) (fun J5 => ?_) ?_
  ·refine GC.reg ?_
   refine G.m1 ?_
   refine G.v (V.ge rfl rfl) rfl ?_
   refine G.m1 ?_
   refine G.bc 17 rfl (fun h17 => ?_) (fun h17 => ?_)
   ·refine G.m5 ?_
    refine G.vg rfl rfl (V.le rfl rfl) rfl ?_
    refine G.m3 ?_
    refine G.nil ?_
    refine J5 _ _ ⟨?_, rfl⟩
    have h1 := of_decide_eq_true h17
    have e : decide ((x.toNat : Int) ≤ 90) = decide (65 ≤ x.toNat ∧ x.toNat ≤ 90) := decide_eq_decide.2 ⟨fun h => ⟨by omega, by omega⟩, fun h => by omega⟩
    rw [e]
    exact .of rfl
   ·refine G.s1 ?_
    refine G.s1 ?_
    refine G.m4 ?_
    refine G.nil ?_
    refine J5 _ _ ⟨?_, rfl⟩
    have h1 := of_decide_eq_false h17
    have e : decide (65 ≤ x.toNat ∧ x.toNat ≤ 90) = false := decide_eq_false fun h => h1 (by omega)
    rw [e]
    exact .of rfl
  rintro fr' H' ⟨hs5, rfl⟩
  refine GC.weak hs5 ?_
  clear hs5
  refine GC.condD rfl (fun h20 => ?_) (fun h20 => ?_)
  ·refine GC.reg ?_
   refine G.m1 ?_
   refine G.m1 ?_
   refine G.m1 ?_
   refine G.v (V.add (i := (x.toNat : Int)) (j := 32) rfl rfl) rfl ?_
   rw [wr _ (by omega) (by omega)]
   have hx32 : (x.toNat : Int) + 32 = ((x + 32).toNat : Int) := by
    have : (x + 32).toNat = x.toNat + 32 := by
     rw [UInt8.toNat_add]
     have : (32 : UInt8).toNat = 32 := rfl
     omega
    omega
   rw [hx32]
   refine G.v (V.ia (i := i) Tryd.underlying44 Tryd.sizeOf5 rfl rfl hil) rfl ?_
   refine G.st (b := b) (off := 0 + i * 1) (l := bC (cur ++ z)) (T := 5) (fz := fz) (v := .int .u8 ((x + 32).toNat : Int)) Tryd.sizeOf5 rfl rfl rfl .z (by rw [nth_eq, Nat.zero_add, Nat.mul_one]; unfold bC Lib.byteCells; rw [List.getElem?_map, List.getElem?_append_left (by omega), hcx]; rfl) (by rw [Bool.and_eq_false_iff]; exact .inl (by rw [← Bool.not_eq_true, Nat.ble_eq]; omega)) ?_
   have erow : setL (bC (cur ++ z)) (0 + i * 1) (.int .u8 ((x + 32).toNat : Int)) = bC (cur.set i (x + 32) ++ z) := by rw [setL_eq, Nat.zero_add, Nat.mul_one, bC_set, List.set_append_left _ _ (by omega)]
   refine G.turn (H' := [⟨b, true, .row (bC (cur.set i (x + 32) ++ z)) 5 fz⟩]) (fun w1 h1 => by rw [← erow]; exact h1) ?_
   refine G.nil ?_
   refine GC.inBlock ?_
   refine GC.reg ?_
   refine G.v (V.addI (r := ((i + 1 : Nat) : Int)) rfl rfl rfl (by omega) (by omega)) rfl ?_
   refine G.m1 ?_
   refine G.nil ?_
   have hfx : foldB x = x + 32 := if_pos h20
   have hts : s.take (i + 1) = s.take i ++ [x] := by rw [List.take_add_one, hx]; rfl
   have hds : s.drop i = x :: s.drop (i + 1) := drop_cons hx
   refine ih (N - 1) _ _ (by omega) ⟨i + 1, cur.set i (x + 32), by omega, ?_, .of rfl, rfl⟩
   rw [hcur, hts, hds]
   unfold foldT at hfl ⊢
   rw [List.set_append_right _ _ (by omega), hfl, Nat.sub_self, List.set_cons_zero, List.map_append, List.append_assoc, List.map_singleton, hfx]; rfl
  refine GC.skip ?_
  refine GC.inBlock ?_
  refine GC.reg ?_
  refine G.v (V.addI (r := ((i + 1 : Nat) : Int)) rfl rfl rfl (by omega) (by omega)) rfl ?_
  refine G.m1 ?_
  refine G.nil ?_
  have hfx : foldB x = x := if_neg h20
  have hts : s.take (i + 1) = s.take i ++ [x] := by rw [List.take_add_one, hx]; rfl
  have hds : s.drop i = x :: s.drop (i + 1) := drop_cons hx
  refine ih (N - 1) _ _ (by omega) ⟨i + 1, cur, by omega, ?_, .of rfl, rfl⟩
  rw [hcur, hts, hds]
  unfold foldT
  rw [List.map_append, List.append_assoc, List.map_singleton, hfx]; rfl
 refine GC.exit rfl ?_
 refine GC.seq ?_
 have hie : i = s.length := by omega
 have hcs : (cur ++ z).take s.length = foldT s := by
  rw [hcur, hie, List.drop_length, List.append_nil, List.take_length, List.take_left' (foldT_len s)]
 refine GC.reg ?_
 refine G.m1 ?_
 refine G.v (V.cvBF Tryd.underlying44 Tryd.underlying5 Tryd.underlying9 rfl (.head _) (by rw [hcur, hie]; simp [foldT_len])) rfl ?_
 rw [hcs]
 refine G.m2 ?_
 refine G.nil ?_
 exact GC.ret1 rfl rfl fun w' hw' => ⟨rfl, hw'.sub (List.nil_sublist _)⟩
theorem f34_any (w : World) (s : List UInt8) (hsl : s.length ≤ 1000000) : Calls Tryd.prog 16 #[S s] w fun e w' => e = .returned (S (slashN s)) ∧ HF w (fun _ => False) [] w' := by
 refine enter (fun _ => False) [] Tryd.func16 rfl Tryd.ntmps16 rfl rfl (HF.start w _) fun c hc => ?_
 subst hc
 refine GC.seq ?_
 refine GC.reg ?_
 refine G.m2 ?_
 refine G.nil ?_
 refine GC.seq ?_
 refine GC.seq ?_
 refine GC.reg ?_
 refine G.m1 ?_
 refine G.callP (v := .bool (decide ([47] <:+ s))) Tryd.call30 rfl rfl (fun w1 hw1 => f50_any w1 s [47] (by omega) (by simp)) ?_
 refine G.nil ?_
 refine GC.cond rfl (fun h4 => ?_) (fun h4 => ?_)
 ·refine GC.seq ?_
  have h4' : [47] <:+ s := by simpa using h4
  have hl1 : 1 ≤ s.length := by simpa using h4'.length_le
  refine GC.reg ?_
  refine G.m1 ?_
  refine G.m1 ?_
  refine G.v (V.lenS Tryd.underlying9 rfl) rfl ?_
  refine G.v (V.subI (r := ((s.length - 1 : Nat) : Int)) rfl rfl (by omega) (by omega) (by omega)) rfl ?_
  refine G.v (V.slH (j := s.length - 1) Tryd.underlying9 rfl rfl (by omega)) rfl ?_
  refine G.m2 ?_
  refine G.nil ?_
  refine GC.ret1 rfl rfl fun w' hw' => ⟨?_, hw'⟩
  rw [slashN, if_pos h4']
 refine GC.skip ?_
 refine GC.seq ?_
 refine GC.reg ?_
 refine G.m1 ?_
 refine G.v (V.cat rfl rfl (by simp; omega)) rfl ?_
 refine G.m2 ?_
 refine G.nil ?_
 have h4' : ¬ [47] <:+ s := by simpa using h4
 refine GC.ret1 rfl rfl fun w' hw' => ⟨?_, hw'⟩
 rw [slashN, if_neg h4']
theorem last_47 {path : List UInt8} {x : UInt8} (hx : path[path.length - 1]? = some x) : [47] <:+ path ↔ x = 47 := by
 have hne : path ≠ [] := by rintro rfl; simp at hx
 have h1 := List.dropLast_concat_getLast hne
 have h2 : path.getLast hne = x := by
  rw [List.getLast_eq_getElem]
  exact (List.getElem?_eq_some_iff.1 hx).2
 rw [h2] at h1
 constructor
 ·rintro ⟨a, ha⟩
  rw [← ha] at h1
  have := List.append_inj_right' h1 rfl
  simpa using this
 ·rintro rfl
  exact ⟨_, h1⟩
theorem f32_any (w : World) (l : List (List Prt)) (sv : Value) (hsv : Tbl w sv l) (hll : l.length ≤ 1000000) (hne : ∀ r ∈ l, r ≠ []) (hnm : ∀ r ∈ l, ∀ p ∈ r, p.nm.length ≤ 1000000) (path : List UInt8) (hp1 : 1 ≤ path.length) (hpl : path.length ≤ 1000000) : Calls Tryd.prog 15 #[sv, S path] w fun e w' => e = .returned (.bool (dec (InnerN l path))) ∧ HF w (fun _ => False) [] w' := by
 refine enter (fun _ => False) [] Tryd.func15 rfl Tryd.ntmps15 rfl rfl (HF.start w _) fun c hc => ?_
 subst hc
 obtain ⟨ad, cp, rfl, hcp, hc⟩ := hsv
 obtain ⟨n, hn⟩ : ∃ n, n = path.length - 1 := ⟨_, rfl⟩
 refine GC.seq ?_
 refine GC.reg ?_
 refine G.m2 ?_
 refine G.nil ?_
 refine GC.seq ?_
 refine GC.reg ?_
 refine G.m1 ?_
 refine G.v (V.lenS Tryd.underlying9 rfl) rfl ?_
 refine G.v (V.subI (r := ((n : Nat) : Int)) rfl rfl (by omega) (by omega) (by omega)) rfl ?_
 refine G.m2 ?_
 refine G.nil ?_
 refine GC.seq ?_
 refine GC.seq ?_
 refine GC.join (fun fr' H' => Sub [(0, .slice ad l.length cp), (1, S path), (5, I (n : Nat)), (20, .bool (dec (¬ (1 < path.length ∧ [47] <:+ path))))] fr' ∧ H' = []) (fun J2 => ?_) ?_
 ·refine GC.reg ?_
  refine G.m1 ?_
  refine G.v (V.lt rfl rfl) rfl ?_
  refine G.m1 ?_
  refine G.bc 15 rfl (fun h15 => ?_) (fun h15 => ?_)
  ·refine G.s1 ?_
   refine G.s1 ?_
   refine G.s1 ?_
   refine G.s1 ?_
   refine G.m3 ?_
   refine G.nil ?_
   refine J2 _ _ ⟨.cons rfl (.cons rfl (.cons rfl (.cons (rfl.trans (congrArg (fun b => some (Value.bool b)) ?_)) .nil))), rfl⟩
   exact dec_t fun h => by have := of_decide_eq_true h15; have := h.1; omega
  ·refine G.m5 ?_
   refine G.m5 ?_
   obtain ⟨x, hx⟩ : ∃ x, path[n]? = some x := ⟨_, List.getElem?_eq_getElem (by omega)⟩
   refine G.vg rfl rfl (V.idx (i := n) (b := x) Tryd.underlying9 rfl rfl hx) rfl ?_
   refine G.vg rfl rfl (V.neI rfl rfl) rfl ?_
   refine G.m4 ?_
   refine G.nil ?_
   refine J2 _ _ ⟨.cons rfl (.cons rfl (.cons rfl (.cons (rfl.trans (congrArg (fun b => some (Value.bool b)) ?_)) .nil))), rfl⟩
   have h15' := of_decide_eq_false h15
   rw [hn] at hx
   have hl47 := last_47 hx
   refine dec_n ⟨fun h h2 => h (by have := hl47.1 h2.2; rw [this]; rfl), fun h h2 => h ⟨by omega, hl47.2 (UInt8.toNat_inj.1 (by have : (47 : UInt8).toNat = 47 := rfl; omega))⟩⟩
 rintro fr' H' ⟨hs2, rfl⟩
 refine GC.weak hs2 ?_
 clear hs2
 refine GC.cond rfl (fun h20 => ?_) (fun h20 => ?_)
 ·refine GC.seq ?_
  refine GC.reg ?_
  refine G.m2 ?_
  refine G.nil ?_
  refine GC.ret1 rfl rfl fun w' hw' => ⟨?_, hw'⟩
  refine congrArg (fun b => Ending.returned (Value.bool b)) ?_
  exact dec_f fun h => dec_true.1 h20 ⟨h.1, h.2.1⟩
 refine GC.skip ?_
 refine GC.seq ?_
 obtain ⟨hpl1, hp47⟩ : 1 < path.length ∧ [47] <:+ path := Classical.byContradiction (dec_false.1 h20)
 refine GC.reg ?_
 refine G.m1 ?_
 refine G.m1 ?_
 refine G.v (V.slH (j := n) Tryd.underlying9 rfl rfl (by omega)) rfl ?_
 refine G.callP (v := S (foldT (path.take n))) Tryd.call12 rfl rfl (fun w1 hw1 => f59_any w1 (path.take n) (by rw [List.length_take]; omega)) ?_
 refine G.m2 ?_
 refine G.nil ?_
 refine GC.seq ?_
 refine GC.seq ?_
 refine GC.reg ?_
 refine G.m1 ?_
 refine G.v (V.lenL Tryd.underlying22 rfl) rfl ?_
 refine G.m1 ?_
 refine G.nil ?_
 refine GC.block ?_
 refine GC.loopJ (fun N fr' H' => ∃ j, j + N = l.length ∧ (∀ (k : Nat) r p, k < j → l[k]? = some r → r[0]? = some p → ¬ (n < p.nm.length ∧ (foldT p.nm).take n = foldT (path.take n))) ∧ Sub [(5, I (n : Nat)), (6, S (foldT (path.take n))), (25, .slice ad l.length cp), (26, I (l.length : Nat)), (27, I (j : Nat))] fr' ∧ H' = []) l.length
  ⟨0, by omega, fun k r p hk => by omega, .of rfl, rfl⟩ ?_
 rintro N fr' H' ⟨j, hj, hok, hs2, rfl⟩ ih
 refine GC.weak hs2 ?_
 clear hs2
 refine GC.seq ?_
 refine GC.reg ?_
 refine G.v (V.lt rfl rfl) rfl ?_
 refine G.nil ?_
 refine GC.seq ?_
 refine GC.condD rfl (fun h28 => ?_) (fun h28 => ?_)
 ·refine GC.skip ?_
  refine GC.seq ?_
  refine GC.block ?_
  refine GC.seq ?_
  have hjl : j < l.length := by omega
  obtain ⟨a, ha⟩ : ∃ p, l[j]? = some p := ⟨_, List.getElem?_eq_getElem hjl⟩
  have hal := List.mem_of_getElem? ha
  have ha0 : 0 < a.length := List.length_pos_iff.2 (hne a hal)
  obtain ⟨p, hp⟩ : ∃ p, a[0]? = some p := ⟨_, List.getElem?_eq_getElem ha0⟩
  have hpn := hnm a hal p (List.mem_of_getElem? hp)
  obtain ⟨b, o, av, e0, hc1, pad, pcp, rfl, hpcp, hpc⟩ := hc j a ha
  cases e0
  obtain ⟨pb, po, e1, hp1', hp2'⟩ := hpc 0 p hp
  cases e1
  refine GC.reg ?_
  refine G.v (V.ia (i := j) Tryd.underlying22 Tryd.sizeOf30 rfl rfl hjl) rfl ?_
  refine G.v (V.ldC (v := .slice (some ⟨pb, po, none⟩) a.length pcp) Tryd.isAgg30 rfl (by rw [Nat.mul_one]; exact hc1) id) rfl ?_
  refine G.m2 ?_
  refine G.nil ?_
  refine GC.seq ?_
  refine GC.reg ?_
  refine G.m1 ?_
  refine G.v (V.ia (i := 0) Tryd.underlying30 Tryd.sizeOf32 rfl rfl ha0) rfl ?_
  refine G.v (V.fa F32_1 rfl) rfl ?_
  refine G.v (V.ldC (v := S p.nm) Tryd.isAgg9 rfl hp2' id) rfl ?_
  refine G.callP (v := S (foldT p.nm)) Tryd.call12 rfl rfl (fun w1 hw1 => f59_any w1 p.nm hpn) ?_
  refine G.m2 ?_
  refine G.nil ?_
  refine GC.seq ?_
  refine GC.join (fun fr' H' => Sub [(5, I (n : Nat)), (6, S (foldT (path.take n))), (25, .slice (some ⟨b, o, none⟩) l.length cp), (26, I (l.length : Nat)), (27, I (j : Nat)), (46, .bool (dec (n < p.nm.length ∧ (foldT p.nm).take n = foldT (path.take n))))] fr' ∧ H' = []) (fun J9 => ?_) ?_
  ·refine GC.reg ?_
   refine G.m1 ?_
   refine G.v (V.lenS Tryd.underlying9 rfl) rfl ?_
   refine G.m1 ?_
   refine G.v (V.gt rfl rfl) rfl ?_
   refine G.m1 ?_
   refine G.bc 40 rfl (fun h40 => ?_) (fun h40 => ?_)
   ·refine G.m5 ?_
    refine G.m5 ?_
    have h40' : n < p.nm.length := by have := of_decide_eq_true h40; rw [foldT_len] at this; omega
    refine G.vg rfl rfl (V.slH (j := n) Tryd.underlying9 rfl rfl (by rw [foldT_len]; omega)) rfl ?_
    refine G.m5 ?_
    refine G.vg rfl rfl (V.eqS rfl rfl) rfl ?_
    refine G.m3 ?_
    refine G.nil ?_
    refine J9 _ _ ⟨.cons rfl (.cons rfl (.cons rfl (.cons rfl (.cons rfl (.cons (rfl.trans (congrArg (fun b => some (Value.bool b)) ?_)) .nil))))), rfl⟩
    exact dec_d ⟨fun h => ⟨h40', h⟩, fun h => h.2⟩
   ·refine G.s1 ?_
    refine G.s1 ?_
    refine G.s1 ?_
    refine G.s1 ?_
    refine G.s1 ?_
    refine G.m4 ?_
    refine G.nil ?_
    refine J9 _ _ ⟨.cons rfl (.cons rfl (.cons rfl (.cons rfl (.cons rfl (.cons (rfl.trans (congrArg (fun b => some (Value.bool b)) ?_)) .nil))))), rfl⟩
    exact dec_f fun h => by have := of_decide_eq_false h40; rw [foldT_len] at this; omega
  rintro fr' H' ⟨hs9, rfl⟩
  refine GC.weak hs9 ?_
  clear hs9
  refine GC.cond rfl (fun h46 => ?_) (fun h46 => ?_)
  ·refine GC.seq ?_
   refine GC.reg ?_
   refine G.m2 ?_
   refine G.nil ?_
   refine GC.ret1 rfl rfl fun w' hw' => ⟨?_, hw'⟩
   refine congrArg (fun b => Ending.returned (Value.bool b)) ?_
   have h46' := dec_true.1 h46
   rw [hn] at h46'
   exact dec_t ⟨hpl1, hp47, a, hal, p, hp, h46'⟩
  refine GC.skip ?_
  refine GC.inBlock ?_
  refine GC.reg ?_
  refine G.v (V.addI (r := ((j + 1 : Nat) : Int)) rfl rfl rfl (by omega) (by omega)) rfl ?_
  refine G.m1 ?_
  refine G.nil ?_
  refine ih (N - 1) _ _ (by omega) ⟨j + 1, by omega, fun k r p' hk hr hp' => ?_, .of rfl, rfl⟩
  by_cases hkj : k = j
  ·subst hkj
   rw [ha] at hr
   cases hr
   rw [hp] at hp'
   cases hp'
   exact dec_false.1 h46
  ·exact hok k r p' (by omega) hr hp'
 refine GC.exit rfl ?_
 refine GC.seq ?_
 refine GC.reg ?_
 refine G.m2 ?_
 refine G.nil ?_
 refine GC.ret1 rfl rfl fun w' hw' => ⟨?_, hw'⟩
 refine congrArg (fun b => Ending.returned (Value.bool b)) ?_
 refine dec_f fun ⟨_, _, r, hr, p, hp, h⟩ => ?_
 obtain ⟨k, hk⟩ := List.getElem?_of_mem hr
 rw [← hn] at h
 exact hok k r p (by have := (List.getElem?_eq_some_iff.1 hk).1; omega) hk hp h
end Go.Proofs

/- ASCII, Join, caseOne. Printed by wip/mk_hw3.py. -/
set_option maxRecDepth 20000
namespace Go.Proofs
open Go Bw
open Gt
def AscN (s : List UInt8) : Prop := ∀ x ∈ s, x.toNat < 128
theorem _root_.Bw.Own.txts {w0 w : World} {D : Nat → Prop} {H Hs : SH} {sv : Value} {l : List (List UInt8)} {n : Nat} (ho : Own 9 1 sv n (l.map S) Hs) (hn : n = l.length) (hw : HF w0 D H w) (hsub : ∀ x ∈ Hs, x ∈ H) : Txts w sv l := by
 subst hn
 generalize hn : l.length = n at ho
 generalize hx : l.map S = xs at ho
 cases ho with
 | nil => exact ⟨none, 0, by rw [hn], fun j x hj => by have := (List.getElem?_eq_some_iff.1 hj).1; omega⟩
 | @row b n cap xs spare h1 h2 h3 =>
  subst hx
  refine ⟨some ⟨b, 0, none⟩, cap, by rw [hn], fun j x hj => ⟨b, 0, rfl, ?_⟩⟩
  exact cell_row hw (hsub _ (.head _)) (by rw [nth_eq, Nat.zero_add, List.getElem?_append_left (by rw [List.length_map]; exact (List.getElem?_eq_some_iff.1 hj).1), List.getElem?_map, hj]; rfl)
theorem _root_.Bw.HF.below {w w' : World} (h : RowKit.Below w.heap.size w w') : HF w (fun _ => False) [] w' :=
 ⟨h.size, fun b hb _ => h.block b hb, fun _ h => (by cases h), fun _ h => (by cases h), List.Pairwise.nil, h.tape, h.os, h.output⟩
theorem c7_any (w : World) (s : List UInt8) (hs : s.length ≤ 1000000000) : Calls Tryd.prog 7 #[S s] w fun e w' => e = .returned (.bool (dec (AscN s))) ∧ HF w (fun _ => False) [] w' := by
 refine enter (fun _ => False) [] Tryd.func7 rfl Tryd.ntmps7 rfl rfl (HF.start w _) fun c hc => ?_
 subst hc
 refine GC.seq ?_
 refine GC.reg ?_
 refine G.m2 ?_
 refine G.nil ?_
 refine GC.seq ?_
 refine GC.seq ?_
 refine GC.reg ?_
 refine G.m1 ?_
 refine G.v (V.lenS Tryd.underlying9 rfl) rfl ?_
 refine G.m1 ?_
 refine G.nil ?_
 refine GC.block ?_
 refine GC.loopJ (fun N fr' H' => ∃ i, i + N = s.length ∧ (∀ (j : Nat) x, j < i → s[j]? = some x → x.toNat < 128) ∧ Sub [(0, S s), (5, I (s.length : Nat)), (6, I (i : Nat))] fr' ∧ H' = []) s.length
  ⟨0, by omega, fun j x h => absurd h (Nat.not_lt_zero _), .of rfl, rfl⟩ ?_
 rintro N fr' H' ⟨i, hi, hlo, hs2, rfl⟩ ih
 refine GC.weak hs2 ?_
 clear hs2
 refine GC.seq ?_
 refine GC.reg ?_
 refine G.v (V.lt rfl rfl) rfl ?_
 refine G.nil ?_
 refine GC.seq ?_
 refine GC.condD rfl (fun h7 => ?_) (fun h7 => ?_)
 ·refine GC.skip ?_
  refine GC.seq ?_
  refine GC.block ?_
  refine GC.seq ?_
  have hlt : i < s.length := by omega
  obtain ⟨x, hx⟩ : ∃ x, s[i]? = some x := ⟨_, List.getElem?_eq_getElem hlt⟩
  refine GC.reg ?_
  refine G.m1 ?_
  refine G.m2 ?_
  refine G.nil ?_
  refine GC.seq ?_
  refine GC.reg ?_
  refine G.m1 ?_
  refine G.m1 ?_
  refine G.v (V.idx (i := i) (b := x) Tryd.underlying9 rfl rfl hx) rfl ?_
  refine G.v (V.ge rfl rfl) rfl ?_
  refine G.nil ?_
  refine GC.condD rfl (fun h12 => ?_) (fun h12 => ?_)
  ·refine GC.seq ?_
   refine GC.reg ?_
   refine G.m2 ?_
   refine G.nil ?_
   refine GC.ret1 rfl rfl fun w' hw' => ⟨?_, hw'⟩
   have : ¬ AscN s := fun h => by have := h x (List.mem_of_getElem? hx); omega
   rw [dec_false.2 this]
  refine GC.skip ?_
  refine GC.inBlock ?_
  refine GC.reg ?_
  refine G.v (V.addI (r := ((i + 1 : Nat) : Int)) rfl rfl rfl (by omega) (by omega)) rfl ?_
  refine G.m1 ?_
  refine G.nil ?_
  refine ih (N - 1) _ _ (by omega) ⟨i + 1, by omega, fun j y hj hy => ?_, .of rfl, rfl⟩
  rcases Nat.lt_or_ge j i with h | h
  ·exact hlo j y h hy
  ·have : j = i := by omega
   subst this
   rw [hx] at hy
   cases hy
   omega
 refine GC.exit rfl ?_
 refine GC.seq ?_
 refine GC.reg ?_
 refine G.m2 ?_
 refine G.nil ?_
 refine GC.ret1 rfl rfl fun w' hw' => ⟨?_, hw'⟩
 have : AscN s := fun y hy => by
  obtain ⟨j, hj⟩ := List.getElem?_of_mem hy
  exact hlo j y (by have := (List.getElem?_eq_some_iff.1 hj).1; omega) hj
 rw [dec_true.2 this]
end Go.Proofs

/- What a table's tree tells whatever the letters are; the sizes of what is asked. -/
set_option maxRecDepth 20000
namespace Go.Proofs
open Go Bw Gt Gs Tr
theorem table_txt {l : List (List Prt)} (ht : TableN l) : l.map rtT = (l.map tokT).map txt := by
 rw [List.map_map]
 exact List.map_congr_left fun r hr => (txt_tokT (ht.clean r hr).k2).symm
theorem table_good {l : List (List Prt)} (ht : TableN l) : (∀ r ∈ l.map tokT, Gt.Good r) ∧ (∀ r ∈ l.map tokT, (txt r).length ≤ 20000) ∧ ∀ r ∈ l.map tokT, ∀ c ∈ txt r, c ≠ 92 := by
 have key : ∀ r ∈ l.map tokT, Gt.Good r ∧ (txt r).length ≤ 20000 ∧ ∀ c ∈ txt r, c ≠ 92 := fun r hr => by
  obtain ⟨x, hx, rfl⟩ := List.mem_map.1 hr
  have hc := ht.clean x hx
  rw [txt_tokT hc.k2]
  exact ⟨hc.good, hc.txt⟩
 exact ⟨fun r hr => (key r hr).1, fun r hr => (key r hr).2.1, fun r hr => (key r hr).2.2⟩
end Go.Proofs

/- caseOne, FnGinCaseFound. Printed by wip/mk_hw4.py. -/
set_option maxRecDepth 20000
namespace Go.Proofs
open Go Bw
open Gt
theorem table_bd {l : List (List Prt)} {path : List UInt8} (hf : FitsN l path) : ∀ r ∈ l, (rtT r).length ≤ 1000000 ∧ r.length ≤ 1000000 := fun r hr => ⟨Nat.le_trans (hf.2.1.clean r hr).txt.1 (by omega), (clean_len (hf.2.1.clean r hr)).2⟩
end Go.Proofs

/- The law FnGinCaseFound. Printed by wip/mk_hw4.py. -/
set_option maxRecDepth 20000
namespace Go.Proofs
open Go Bw
open Gt
end Go.Proofs

/- caseOne with the wish to fix. Printed by wip/mk_hx9.py. -/
set_option maxRecDepth 20000
namespace Go.Proofs
open Go Bw
open Gt Gs Tr
theorem table_fix {l : List (List Prt)} {path : List UInt8} {fx : Bool} (hf : FitsN l path) (hs : StaticN l) (hne : l ≠ []) (h1 : path ≠ [47]) (hin : fx = true → ¬ InnerN l path) : ∃ t r g, addAll new ((l.map tokT).map txt) 0 = .inl t ∧ Ln t ∧ Stc t ∧ caseC Ef fx g t path 0 [] = some r ∧ ToldS l path fx r := by
 obtain ⟨hg, hl, h92⟩ := table_good hf.2.1
 obtain ⟨t, ht, hts⟩ := addAll_ok (l.map tokT) new (fun _ => none) 0 (.inl ⟨rfl, rfl⟩) hg (fun _ _ _ _ h => by cases h) hf.2.1.pw
 obtain ⟨r, hr⟩ := (case_table hf hne ht).1 Ef fx
 obtain ⟨a0, l', hl0⟩ := List.exists_cons_of_ne_nil hne
 have hn := pw_nodup hf.2.1.pw
 have ha0 : (l.map tokT)[0]? = some (tokT a0) := by rw [hl0]; rfl
 rcases hts with ⟨_, hf0⟩ | ⟨hrep, hnt, hhd⟩
 ·exfalso
  have h3 := fAdd_at (f := fun _ => none) (k := 0) hn ha0
  rw [hf0] at h3
  cases h3
 ·have hnb : NB t := NB.all _ _ _ _ NB.new (fun r hr => by
   obtain ⟨x, hx, rfl⟩ := List.mem_map.1 hr
   exact ⟨hl x hx, h92 x hx⟩) ht
  refine ⟨t, r, _, ht, Rep.ln hnb _ _ hrep, (stc_of (size t) (Nat.le_refl _) hrep (by rw [hnt]; decide) (fun s v hv => ?_) hhd).1, hr, case_static hf hs hne h1 hin ht hr⟩
  obtain ⟨i, hi, _⟩ := fAdd_of hn hv
  obtain ⟨a, ha, rfl⟩ := map_at hi
  obtain ⟨p, _, e⟩ := static_one hf.2.1 hs (List.mem_of_getElem? ha)
  exact ⟨p.nm, e⟩
theorem ex_step {α : Type} {l : List α} {P : α → Prop} {j : Nat} {a : α} (ha : l[j]? = some a) : (∃ i x, i < j + 1 ∧ l[i]? = some x ∧ P x) ↔ (∃ i x, i < j ∧ l[i]? = some x ∧ P x) ∨ P a := by
 constructor
 ·rintro ⟨i, x, hi, hx, hp⟩
  by_cases e : i = j
  ·subst e; rw [ha] at hx; cases hx; exact .inr hp
  ·exact .inl ⟨i, x, by omega, hx, hp⟩
 ·rintro (⟨i, x, hi, hx, hp⟩ | hp)
  ·exact ⟨i, x, by omega, hx, hp⟩
  ·exact ⟨j, a, by omega, ha, hp⟩
theorem ex_all {α : Type} {l : List α} {P : α → Prop} : (∃ i x, i < l.length ∧ l[i]? = some x ∧ P x) ↔ ∃ x ∈ l, P x := by
 constructor
 ·rintro ⟨i, x, _, hx, hp⟩; exact ⟨x, List.mem_of_getElem? hx, hp⟩
 ·rintro ⟨x, hx, hp⟩
  obtain ⟨i, hi⟩ := List.mem_iff_getElem?.1 hx
  exact ⟨i, x, (List.getElem?_eq_some_iff.1 hi).1, hi, hp⟩
theorem _root_.Bw.V.eqB2 {P : Program} {c : Cx} {n : Nat} {fr : SF} {H : SH} {ty t u : TypeId} {x y : Operand} {a b : Bool} (hU : P.underlying t = some .bool) (hx : ev fr x = some (.bool a)) (hy : ev fr y = some (.bool b)) : Val P c n (.binOp .eql t x y u) ty fr H (.bool (a == b)) := by
 intro a1 w ha hw dst pos aft g
 have key : ∀ d : Nat, (Op.equalIn (d + 1) t (.bool a) (.bool b)).run P w = .ok (a == b) w := fun d => by
  simp [Op.equalIn, underlying, hU]
 have e : (Op.equalIn 10000 t (.bool a) (.bool b)).run P w = .ok (a == b) w := key 9999
 simp [execOp, ha.eval hx, ha.eval hy, eqGuard, binOp, Op.equal, Op.maxDepth, e]
theorem c11_fix (w : World) (l : List (List Prt)) (sv : Value) (hsv : Tbl w sv l) (path : List UInt8) {fx : Bool} (hL : LaidF w fun _ => False) (hft : FitsN l path) (hs : StaticN l) (hne : l ≠ []) (h47 : path ≠ [47]) (hin : fx = true → ¬ InnerN l path) (hpa : AscN path) : Calls Tryd.prog 11 #[sv, S path, .bool fx] w fun e w' => ∃ r, e = .returned (.tuple #[S (r.getD []), .bool r.isSome, .bool true]) ∧ ToldS l path fx r ∧ HF w (fun _ => False) [] w' := by
 refine enter (fun _ => False) [] Tryd.func11 rfl Tryd.ntmps11 rfl rfl (HF.start w _) fun c hc => ?_
 subst hc
 obtain ⟨t, r, g, hadd, hln, hst, hres, hcs⟩ := table_fix hft hs hne h47 hin
 obtain ⟨hg, hl, h92⟩ := table_good hft.2.1
 obtain ⟨qq, hqq⟩ := hft.2.2.1
 have hp0 : path ≠ [] := by rw [← hqq]; simp
 have hpl : path.length ≤ 300 := hft.2.2.2.2
 have h30 : l.length ≤ 30 := hft.1
 refine GC.seq ?_
 refine GC.reg ?_
 refine G.m2 ?_
 refine G.m2 ?_
 refine G.m2 ?_
 refine G.nil ?_
 refine GC.seq ?_
 refine GC.reg ?_
 refine G.m1 ?_
 refine G.callW (fun v H2 => ∃ Hk, Own 9 1 v l.length ((l.map rtT).map S) Hk ∧ H2 = Hk ++ []) Tryd.call9 rfl rfl (fun w1 hw1 => ?_) ?_
 ·refine (f23_any w1 l _ (hsv.old hw1) (table_bd hft) (by have := hft.1; omega)).mono fun e w' ⟨kv, Hs, h1, h2, h3⟩ => ?_
  exact ⟨_, _, h1, hw1.after0 h3 h2.w, Hs, h2, rfl⟩
 rintro kv H2 ⟨Hs, hown, rfl⟩
 refine G.m1 ?_
 rw [List.append_nil]
 refine G.bs (BS.one Tryd.underlying27 Tryd.sizeOf9 Tryd.zeroValue9 (v := S path) rfl) rfl rfl (fun pb hpb => ?_)
 refine G.m1 ?_
 refine G.callW (fun v H2 => ∃ svT svF K1 K2, v = .tuple #[svT, svF, .bool true] ∧ Own 9 1 svT 1 [S (r.getD [])] K1 ∧ Own 4 1 svF 1 [.bool r.isSome] K2 ∧ H2 = K1 ++ K2) Tryd.call25 rfl rfl (fun w1 hw1 => ?_) ?_
 ·refine (c25_fix w1 (l.map tokT) kv hg hl h92 (by rw [List.length_map]; omega) (by rw [← table_txt hft.2.1]; exact hown.txts (by simp) hw1 (fun e he => List.mem_cons_of_mem _ he)) (hL.old hw1) hadd hln hst pb 0 1 [⟨path, r⟩] (fun x hx => by rw [List.mem_singleton.1 hx]; exact ⟨hp0, hpa, by show path.length ≤ 50000; omega, g, hres⟩) (by simp) (fun i x hx => ?_)).mono fun e w' ⟨svT, svF, K1, K2, h1, h2, h3, h4⟩ => ⟨_, _, h1, ?_, svT, svF, K1, K2, rfl, h2, h3, rfl⟩
  ·rw [Nat.zero_add]
   refine cell_row hw1 (wf := true) (l := [S path]) (t := 9) (fz := (0, 0)) (by simp) ?_
   match i, hx with
   | 0, hx => cases hx; rfl
   | i + 1, hx => simp at hx
  ·have h5 := hw1.after0 h4 (fun e he => by rcases List.mem_append.1 he with he | he; exact h2.w e he; exact h3.w e he)
   exact h5.sub (List.sublist_append_left _ _)
 rintro v H2 ⟨svT, svF, K1, K2, rfl, hownT, hownF, rfl⟩
 refine G.m1 ?_
 refine G.v (V.ex rfl rfl) rfl ?_
 refine G.v (V.ex rfl rfl) rfl ?_
 refine G.v (V.ex rfl rfl) rfl ?_
 refine G.m2 ?_
 refine G.m2 ?_
 refine G.m2 ?_
 refine G.nil ?_
 refine GC.seq ?_
 refine GC.seq ?_
 obtain ⟨tb, tc, tsp, rfl, rfl⟩ := hownT.at (i := 0) (by decide)
 obtain ⟨fb, fc, fsp, rfl, rfl⟩ := hownF.at (i := 0) (by decide)
 refine GC.reg ?_
 refine G.m1 ?_
 refine G.v (V.not rfl) rfl ?_
 refine G.m1 ?_
 refine G.bc 23 rfl (fun h23 => ?_) (fun h23 => ?_)
 ·exact absurd h23 (by decide)
 ·refine G.m5 ?_
  refine G.vg rfl rfl (V.lenL Tryd.underlying27 rfl) rfl ?_
  refine G.vg rfl rfl (V.neI rfl rfl) rfl ?_
  refine G.m4 ?_
  refine G.m1 ?_
  refine G.bc 28 rfl (fun h28 => ?_) (fun h28 => ?_)
  ·exact absurd h28 (by decide)
  ·refine G.m5 ?_
   refine G.vg rfl rfl (V.lenL Tryd.underlying54 rfl) rfl ?_
   refine G.vg rfl rfl (V.neI rfl rfl) rfl ?_
   refine G.m4 ?_
   refine G.nil ?_
   refine GC.cond rfl (fun h32 => absurd h32 (by decide)) (fun h32 => ?_)
   refine GC.skip ?_
   refine GC.seq ?_
   refine GC.regQ mixed (by kernel_rfl) ?_
   refine GQ.v (V.mv rfl) rfl ?_
   refine GQ.v (V.ia (i := 0) Tryd.underlying27 Tryd.sizeOf9 rfl rfl (by decide)) rfl ?_
   refine GQ.v (V.ld (b := tb) (off := 0 + 0 * 1) (wf := true) (l := [S (r.getD [])] ++ tsp) (T := 9) (fz := (0, 0)) (v := S (r.getD [])) Tryd.isAgg9 rfl (.head _) rfl) rfl ?_
   refine GQ.v (V.mv rfl) rfl ?_
   refine GQ.v (V.ia (i := 0) Tryd.underlying54 Tryd.sizeOf4 rfl rfl (by decide)) rfl ?_
   refine GQ.v (V.ld (b := fb) (off := 0 + 0 * 1) (wf := true) (l := [.bool r.isSome] ++ fsp) (T := 4) (fz := (0, 0)) (v := .bool r.isSome) Tryd.isAgg4 rfl (.tail _ (.head _)) rfl) rfl ?_
   refine GQ.v (V.asg rfl) rfl ?_
   refine GQ.v (V.asg rfl) rfl ?_
   refine GQ.v (V.asg rfl) rfl ?_
   refine GQ.nil ?_
   exact GC.ret3 rfl rfl rfl rfl fun w' hw' => ⟨r, rfl, hcs, hw'.sub (List.nil_sublist _)⟩
end Go.Proofs

/- moreAwake, where Go's own tables lie in memory. Written out of HsE14 by wip/mk_hx10.py's way. -/
set_option maxRecDepth 20000
namespace Go.Proofs
open Go Bw
open Gt
theorem awT_s : Stc awT := .mk (by simp) (by simp)
theorem s8_fix (w : World) (hL : LaidF w fun _ => False) : Calls Tryd.prog 10 #[] w fun e w' => e = .returned (.bool true) ∧ HF w (fun _ => False) [] w' := by
 refine enter (fun _ => False) [] Tryd.func10 rfl Tryd.ntmps10 rfl rfl (HF.start w _) fun c hc => ?_
 subst hc
 refine GC.seq ?_
 refine GC.reg ?_
 refine G.m2 ?_
 refine G.nil ?_
 refine GC.seq ?_
 refine GC.reg ?_
 refine G.bs (BS.one Tryd.underlying27 Tryd.sizeOf9 Tryd.zeroValue9 (v := S [47, 65, 98, 99]) rfl) rfl rfl (fun ab hab => ?_)
 refine G.bs2 (u := S [47, 97, 66, 67]) (v := S [47, 98]) Tryd.underlying27 Tryd.sizeOf9 Tryd.zeroValue9 rfl rfl rfl rfl rfl (fun qb hqb => ?_)
 refine G.callW (fun v H2 => ∃ svT svF HT HB, v = .tuple #[svT, svF, .bool true] ∧ Own 9 1 svT awk.length (awk.map fun x => S (x.r.getD [])) HT ∧ Own 4 1 svF awk.length (awk.map fun x => Value.bool x.r.isSome) HB ∧ H2 = HT ++ HB) Tryd.call25 rfl rfl (fun w1 hw1 => ?_) ?_
 ·refine (c25_fix w1 awR (.slice (some ⟨ab, 0, none⟩) 1 1) awR_good (by decide) (by decide) (by decide) (Txts.row (l := [[47, 65, 98, 99]]) (z := []) (e := 9) (wf := true) (fz := (0, 0)) hw1 (by simp)) (hL.old hw1) awT_eq awT_ln awT_s qb 0 2 awk awk_told (by decide) (fun i x hx => ?_)).mono fun e w' ⟨svT, svF, HT, HB, h1, h2, h3, h4⟩ => ⟨_, _, h1, ?_, svT, svF, HT, HB, rfl, h2, h3, rfl⟩
  ·rw [Nat.zero_add]
   refine cell_row hw1 (wf := true) (l := [S [47, 97, 66, 67], S [47, 98]]) (t := 9) (fz := (0, 0)) (by simp) ?_
   match i, hx with
   | 0, hx => cases hx; rfl
   | 1, hx => cases hx; rfl
   | i + 2, hx => simp [awk] at hx
  ·have h5 := hw1.after0 h4 (fun e he => by rcases List.mem_append.1 he with he | he; exact h2.w e he; exact h3.w e he)
   exact h5.sub (List.sublist_append_left _ _)
 rintro v H2 ⟨svT, svF, HT, HB, rfl, hownT, hownF, rfl⟩
 refine G.m1 ?_
 refine G.v (V.ex rfl rfl) rfl ?_
 refine G.v (V.ex rfl rfl) rfl ?_
 refine G.v (V.ex rfl rfl) rfl ?_
 refine G.m2 ?_
 refine G.m2 ?_
 refine G.m2 ?_
 refine G.nil ?_
 refine GC.seq ?_
 obtain ⟨tb, tc, tsp, rfl, rfl⟩ := hownT.at (i := 0) (by decide)
 obtain ⟨fb, fc, fsp, rfl, rfl⟩ := hownF.at (i := 0) (by decide)
 refine GC.reg ?_
 refine G.callP (v := S [47, 97, 47, 99]) Tryd.call26 rfl rfl (fun w1 hw1 => (s9_any w1 [47, 47, 97, 47, 46, 47, 98, 47, 46, 46, 47, 99] (by decide)).mono fun e w' h => by rw [show Gs.clean [47, 47, 97, 47, 46, 47, 98, 47, 46, 46, 47, 99] = [47, 97, 47, 99] by decide] at h; exact h) ?_
 refine G.v (V.eqS rfl rfl) rfl ?_
 refine G.m1 ?_
 refine G.bc 13 rfl (fun h13 => ?_) (fun h13 => ?_)
 ·refine G.m5 ?_
  refine G.m3 ?_
  refine G.m1 ?_
  refine G.bc 16 rfl (fun h16 => ?_) (fun h16 => ?_)
  ·refine G.m5 ?_
   refine G.gd rfl rfl ?_
   refine G.bs2 (u := .bool true) (v := .bool false) Tryd.underlying54 Tryd.sizeOf4 Tryd.zeroValue4 rfl rfl rfl rfl rfl (fun eb heb => ?_)
   refine G.gd rfl rfl ?_
   refine G.callP (v := .bool true) Tryd.call27 rfl rfl (fun w1 hw1 => ?_) ?_
   ·refine s16_same w1 fb 0 fc eb 0 2 [true, false] (by decide) (fun i x hx => ?_) (fun i x hx => ?_)
    ·rw [Nat.zero_add]
     refine cell_row hw1 (wf := true) (l := [.bool true, .bool false] ++ fsp) (t := 4) (fz := (0, 0)) (.tail _ (List.mem_append_right _ (.head _))) ?_
     match i, hx with
     | 0, hx => cases hx; rfl
     | 1, hx => cases hx; rfl
     | i + 2, hx => simp at hx
    ·rw [Nat.zero_add]
     refine cell_row hw1 (wf := true) (l := [.bool true, .bool false]) (t := 4) (fz := (0, 0)) (.head _) ?_
     match i, hx with
     | 0, hx => cases hx; rfl
     | 1, hx => cases hx; rfl
     | i + 2, hx => simp at hx
   refine G.m3 ?_
   refine G.m1 ?_
   refine G.bc 21 rfl (fun h21 => ?_) (fun h21 => ?_)
   ·refine G.m5 ?_
    refine G.vg rfl rfl (V.ia (i := 0) Tryd.underlying27 Tryd.sizeOf9 rfl rfl (by decide)) rfl ?_
    refine G.vg rfl rfl (V.ld (b := tb) (off := 0 + 0 * 1) (wf := true) (l := [S [47, 65, 98, 99], S []] ++ tsp) (T := 9) (fz := (0, 0)) (v := S [47, 65, 98, 99]) Tryd.isAgg9 rfl (.tail _ (List.mem_append_left _ (.head _))) rfl) rfl ?_
    refine G.vg rfl rfl (V.eqS rfl rfl) rfl ?_
    refine G.m3 ?_
    refine G.m2 ?_
    refine G.nil ?_
    exact GC.ret1 rfl rfl fun w' hw' => ⟨rfl, hw'.sub (List.nil_sublist _)⟩
   ·exact absurd h21 (by decide)
  ·exact absurd h16 (by decide)
 ·exact absurd h13 (by decide)
end Go.Proofs

/- The law FnGinCase. Printed by wip/mk_hx9.py. -/
set_option maxRecDepth 20000
namespace Go.Proofs
open Go Bw
open Gt
theorem tbl_nm {l : List (List Prt)} {path : List UInt8} (hf : FitsN l path) : ∀ r ∈ l, ∀ p ∈ r, p.nm.length ≤ 1000000 := fun r hr p hp => by
 obtain ⟨i, hi⟩ := List.mem_iff_getElem?.1 hp
 have h := (hf.2.1.clean r hr).2.2.2 i p hi
 by_cases hk : p.k.toNat = 0
 ·have := (h.2.2.2.1 hk).2.1; omega
 ·have := (h.2.2.2.2 hk).1.2.2; omega
theorem slash_len (p : List UInt8) : (slashN p).length ≤ p.length + 1 := by
 unfold slashN
 split
 ·rw [List.length_take]; omega
 ·simp
theorem c4_any (w : World) (hL : LaidF w fun _ => False) (l : List (List Prt)) (sv : Value) (hsv : Tbl w sv l) (path : List UInt8) (fx : Bool) : Calls Tryd.prog 4 #[sv, S path, .bool fx] w fun e w' => e = .returned (.bool true) ∧ HF w (fun _ => False) [] w' := by
 refine enter (fun _ => False) [] Tryd.func4 rfl Tryd.ntmps4 rfl rfl (HF.start w _) fun c hc => ?_
 subst hc
 obtain ⟨sad, scp, hse⟩ : ∃ ad cp, sv = .slice ad l.length cp := by
  obtain ⟨ad, cp, h, _⟩ := hsv
  exact ⟨ad, cp, h⟩
 subst hse
 refine GC.seq ?_
 refine GC.reg ?_
 refine G.m2 ?_
 refine G.nil ?_
 refine GC.seq ?_
 refine GC.seq ?_
 refine GC.join (fun fr' H' => Sub [(0, .slice sad l.length scp), (1, S path), (2, .bool fx), (22, .bool (dec (¬ Fits4 l ∨ (2147483647 : Int) < (path.length : Int))))] fr' ∧ H' = []) (fun J1 => ?_) ?_
 ·refine GC.reg ?_
  refine G.m1 ?_
  refine G.callP (v := .bool (dec (Fits4 l))) Tryd.call5 rfl rfl (fun w1 hw1 => f17_any w1 l _ (hsv.old hw1)) ?_
  refine G.v (V.not rfl) rfl ?_
  refine G.m1 ?_
  refine G.bc 18 rfl (fun h18 => ?_) (fun h18 => ?_)
  ·refine G.s1 ?_
   refine G.s1 ?_
   refine G.s1 ?_
   refine G.m3 ?_
   refine G.nil ?_
   refine J1 _ _ ⟨.cons rfl (.cons rfl (.cons rfl (.cons (rfl.trans (congrArg (fun b => some (Value.bool b)) ?_)) .nil))), rfl⟩
   exact dec_t (.inl (dec_false.1 (by simpa using h18)))
  ·refine G.m5 ?_
   refine G.vg rfl rfl (V.lenS Tryd.underlying9 rfl) rfl ?_
   refine G.vg rfl rfl (V.gt rfl rfl) rfl ?_
   refine G.m4 ?_
   refine G.nil ?_
   refine J1 _ _ ⟨.cons rfl (.cons rfl (.cons rfl (.cons (rfl.trans (congrArg (fun b => some (Value.bool b)) ?_)) .nil))), rfl⟩
   exact dec_d ⟨.inr, fun h => h.resolve_left (fun h => h (dec_true.1 (by simpa using h18)))⟩
 rintro fr' H' ⟨hs1, rfl⟩
 refine GC.weak hs1 ?_
 clear hs1
 refine GC.cond rfl (fun h22 => ?_) (fun h22 => ?_)
 ·refine GC.seq ?_
  refine GC.reg ?_
  refine G.m2 ?_
  refine G.nil ?_
  exact GC.ret1 rfl rfl fun w' hw' => ⟨rfl, hw'.sub (List.nil_sublist _)⟩
 refine GC.skip ?_
 refine GC.seq ?_
 refine GC.seq ?_
 obtain ⟨h4, hpl⟩ : Fits4 l ∧ path.length ≤ 2147483647 := by
  have := dec_false.1 h22
  exact ⟨Classical.byContradiction fun h => this (.inl h), by omega⟩
 refine GC.join (fun fr' H' => ∃ t : Bool, (t = false → FitsN l path ∧ StaticN l ∧ AscN path ∧ l ≠ [] ∧ path ≠ [47] ∧ (fx = true → ¬ InnerN l path)) ∧ Sub [(0, .slice sad l.length scp), (1, S path), (2, .bool fx), (53, .bool t)] fr' ∧ H' = []) (fun J3 => ?_) ?_
 ·refine GC.reg ?_
  refine G.m1 ?_
  refine G.m1 ?_
  refine G.callP (v := .bool (dec (FitsN l path))) Tryd.call6 rfl rfl (fun w1 hw1 => f19_any w1 l _ (hsv.old hw1) h4 path hpl) ?_
  refine G.v (V.not rfl) rfl ?_
  refine G.m1 ?_
  refine G.bc 27 rfl (fun h27 => ?_) (fun h27 => ?_)
  ·refine G.s1 ?_
   refine G.s1 ?_
   refine G.s1 ?_
   refine G.m3 ?_
   refine G.m1 ?_
   refine G.s1 ?_
   refine G.s1 ?_
   refine G.s1 ?_
   refine G.m3 ?_
   refine G.m1 ?_
   refine G.s1 ?_
   refine G.s1 ?_
   refine G.s1 ?_
   refine G.m3 ?_
   refine G.m1 ?_
   refine G.s1 ?_
   refine G.s1 ?_
   refine G.m3 ?_
   refine G.m1 ?_
   refine G.s1 ?_
   refine G.s1 ?_
   refine G.sgU rfl rfl rfl rfl rfl ?_
   refine G.sgU rfl rfl rfl rfl rfl ?_
   refine G.sgU rfl rfl rfl rfl rfl ?_
   refine G.s1 ?_
   refine G.m3 ?_
   refine G.nil ?_
   exact J3 _ _ ⟨true, fun h => (by cases h), .of rfl, rfl⟩
  ·refine G.m5 ?_
   have hft : FitsN l path := dec_true.1 (by simpa using h27)
   have hp300 := hft.2.2.2.2
   have h30 := hft.1
   refine G.gd rfl rfl ?_
   refine G.callP (v := .bool (dec (StaticN l))) Tryd.call14 rfl rfl (fun w1 hw1 => f31_any w1 l _ (hsv.old hw1) (by omega)) ?_
   refine G.vg rfl rfl (V.not rfl) rfl ?_
   refine G.m4 ?_
   refine G.m1 ?_
   refine G.bc 32 rfl (fun h32 => ?_) (fun h32 => ?_)
   ·refine G.s1 ?_
    refine G.s1 ?_
    refine G.s1 ?_
    refine G.m3 ?_
    refine G.m1 ?_
    refine G.s1 ?_
    refine G.s1 ?_
    refine G.s1 ?_
    refine G.m3 ?_
    refine G.m1 ?_
    refine G.s1 ?_
    refine G.s1 ?_
    refine G.m3 ?_
    refine G.m1 ?_
    refine G.s1 ?_
    refine G.s1 ?_
    refine G.sgU rfl rfl rfl rfl rfl ?_
    refine G.sgU rfl rfl rfl rfl rfl ?_
    refine G.sgU rfl rfl rfl rfl rfl ?_
    refine G.s1 ?_
    refine G.m3 ?_
    refine G.nil ?_
    exact J3 _ _ ⟨true, fun h => (by cases h), .of rfl, rfl⟩
   ·refine G.m5 ?_
    refine G.gd rfl rfl ?_
    refine G.callP (v := .bool (dec (AscN path))) Tryd.call7 rfl rfl (fun w1 _ => c7_any w1 path (by omega)) ?_
    refine G.vg rfl rfl (V.not rfl) rfl ?_
    refine G.m4 ?_
    refine G.m1 ?_
    refine G.bc 37 rfl (fun h37 => ?_) (fun h37 => ?_)
    ·refine G.s1 ?_
     refine G.s1 ?_
     refine G.s1 ?_
     refine G.m3 ?_
     refine G.m1 ?_
     refine G.s1 ?_
     refine G.s1 ?_
     refine G.m3 ?_
     refine G.m1 ?_
     refine G.s1 ?_
     refine G.s1 ?_
     refine G.sgU rfl rfl rfl rfl rfl ?_
     refine G.sgU rfl rfl rfl rfl rfl ?_
     refine G.sgU rfl rfl rfl rfl rfl ?_
     refine G.s1 ?_
     refine G.m3 ?_
     refine G.nil ?_
     exact J3 _ _ ⟨true, fun h => (by cases h), .of rfl, rfl⟩
    ·refine G.m5 ?_
     refine G.vg rfl rfl (V.lenL Tryd.underlying22 rfl) rfl ?_
     refine G.vg rfl rfl (V.eqI rfl rfl) rfl ?_
     refine G.m4 ?_
     refine G.m1 ?_
     refine G.bc 42 rfl (fun h42 => ?_) (fun h42 => ?_)
     ·refine G.s1 ?_
      refine G.s1 ?_
      refine G.m3 ?_
      refine G.m1 ?_
      refine G.s1 ?_
      refine G.s1 ?_
      refine G.sgU rfl rfl rfl rfl rfl ?_
      refine G.sgU rfl rfl rfl rfl rfl ?_
      refine G.sgU rfl rfl rfl rfl rfl ?_
      refine G.s1 ?_
      refine G.m3 ?_
      refine G.nil ?_
      exact J3 _ _ ⟨true, fun h => (by cases h), .of rfl, rfl⟩
     ·refine G.m5 ?_
      refine G.vg rfl rfl (V.eqS rfl rfl) rfl ?_
      refine G.m4 ?_
      refine G.m1 ?_
      refine G.bc 46 rfl (fun h46 => ?_) (fun h46 => ?_)
      ·refine G.s1 ?_
       refine G.s1 ?_
       refine G.sgU rfl rfl rfl rfl rfl ?_
       refine G.sgU rfl rfl rfl rfl rfl ?_
       refine G.sgU rfl rfl rfl rfl rfl ?_
       refine G.s1 ?_
       refine G.m3 ?_
       refine G.nil ?_
       exact J3 _ _ ⟨true, fun h => (by cases h), .of rfl, rfl⟩
      ·refine G.m5 ?_
       refine G.m5 ?_
       refine G.bc 48 rfl (fun h48 => ?_) (fun h48 => ?_)
       ·refine G.m5 ?_
        refine G.m5 ?_
        refine G.gd rfl rfl ?_
        refine G.callP (v := .bool (dec (InnerN l path))) Tryd.call15 rfl rfl (fun w1 hw1 => f32_any w1 l _ (hsv.old hw1) (by omega) (fun r hr => (hft.2.1.clean r hr).1) (fun r hr p hp => tbl_nm hft r hr p hp) path (by obtain ⟨q, hq⟩ := hft.2.2.1; rw [← hq]; simp) (by omega)) ?_
        refine G.vg rfl rfl (V.pickT rfl rfl) rfl ?_
        refine G.m4 ?_
        refine G.nil ?_
        exact J3 _ _ ⟨_, fun h => ⟨hft, dec_true.1 (by simpa using h32), dec_true.1 (by simpa using h37), fun e => (by rw [e] at h42; exact absurd h42 (by decide)), of_decide_eq_false h46, fun _ => dec_false.1 h⟩, .of rfl, rfl⟩
       ·refine G.s1 ?_
        refine G.s1 ?_
        refine G.s1 ?_
        refine G.vg rfl rfl (V.pickF rfl rfl) rfl ?_
        refine G.m4 ?_
        refine G.nil ?_
        exact J3 _ _ ⟨_, fun h => ⟨hft, dec_true.1 (by simpa using h32), dec_true.1 (by simpa using h37), fun e => (by rw [e] at h42; exact absurd h42 (by decide)), of_decide_eq_false h46, fun e => (by rw [e] at h48; cases h48)⟩, .of rfl, rfl⟩
 rintro fr' H' ⟨t53, ht53, hs3, rfl⟩
 refine GC.weak hs3 ?_
 clear hs3
 refine GC.cond rfl (fun h53 => ?_) (fun h53 => ?_)
 ·refine GC.seq ?_
  refine GC.reg ?_
  refine G.callP Tryd.call10 rfl rfl (fun w1 hw1 => s8_fix w1 (hL.old hw1)) ?_
  refine G.m2 ?_
  refine G.nil ?_
  exact GC.ret1 rfl rfl fun w' hw' => ⟨rfl, hw'.sub (List.nil_sublist _)⟩
 refine GC.skip ?_
 refine GC.seq ?_
 obtain ⟨hft, hst, hpa, hne, h47, hin⟩ := ht53 h53
 have hsv0 := hsv
 obtain ⟨ad, cp, he0, hcp, hc⟩ := hsv
 cases he0
 have hp300 := hft.2.2.2.2
 have h30 := hft.1
 refine GC.reg ?_
 refine G.m2 ?_
 refine G.nil ?_
 refine GC.seq ?_
 refine GC.reg ?_
 refine G.m1 ?_
 refine G.m1 ?_
 refine G.m1 ?_
 refine G.callW (fun v H2 => ∃ r, v = .tuple #[S (r.getD []), .bool r.isSome, .bool true] ∧ ToldS l path fx r ∧ H2 = []) Tryd.call11 rfl rfl (fun w1 hw1 => (c11_fix w1 l _ (hsv0.old hw1) path (hL.old hw1) hft hst hne h47 hin hpa).mono fun e w' ⟨r, h1, h2, h3⟩ => ⟨_, _, h1, hw1.after0 h3 (by simp), r, rfl, h2, rfl⟩) ?_
 rintro v H2 ⟨r, rfl, hcs, rfl⟩
 refine G.m1 ?_
 refine G.v (V.ex rfl rfl) rfl ?_
 refine G.v (V.ex rfl rfl) rfl ?_
 refine G.v (V.ex rfl rfl) rfl ?_
 refine G.m2 ?_
 refine G.m2 ?_
 refine G.m2 ?_
 refine G.nil ?_
 refine GC.seq ?_
 refine GC.reg ?_
 refine G.m2 ?_
 refine G.nil ?_
 refine GC.seq ?_
 refine GC.seq ?_
 refine GC.reg ?_
 refine G.m1 ?_
 refine G.v (V.lenL Tryd.underlying22 rfl) rfl ?_
 refine G.m1 ?_
 refine G.nil ?_
 refine GC.block ?_
 refine GC.loopJ (fun N fr' H' => ∃ (j : Nat) (wt is : Bool), j + N = l.length ∧ (wt = true ↔ ∃ i x, i < j ∧ l[i]? = some x ∧ (∃ p, x = [p] ∧ Want fx p.nm path)) ∧ (is = true ↔ ∃ i x, i < j ∧ l[i]? = some x ∧ (∃ p, x = [p] ∧ Want fx p.nm path ∧ p.nm = r.getD [])) ∧ Sub [(0, .slice sad l.length scp), (1, S path), (2, .bool fx), (7, .bool wt), (8, S (r.getD [])), (9, .bool r.isSome), (10, .bool true), (11, .bool is), (63, .slice sad l.length scp), (64, I (l.length : Nat)), (65, I (j : Nat))] fr' ∧ H' = []) l.length
  ⟨0, false, false, by omega, by simp, by simp, .of rfl, rfl⟩ ?_
 rintro N fr' H' ⟨j, wt, is, hj, hwt, his, hs2, rfl⟩ ih
 refine GC.weak hs2 ?_
 clear hs2
 refine GC.seq ?_
 refine GC.reg ?_
 refine G.v (V.lt rfl rfl) rfl ?_
 refine G.nil ?_
 refine GC.seq ?_
 refine GC.condD rfl (fun h66 => ?_) (fun h66 => ?_)
 ·refine GC.skip ?_
  refine GC.seq ?_
  refine GC.block ?_
  refine GC.seq ?_
  have hjl : j < l.length := by omega
  obtain ⟨a, ha⟩ : ∃ p, l[j]? = some p := ⟨_, List.getElem?_eq_getElem hjl⟩
  have hal := List.mem_of_getElem? ha
  obtain ⟨p, rfl⟩ := List.length_eq_one_iff.1 (hst a hal)
  have hpn := tbl_nm hft _ hal p (.head _)
  have hwt2 := ex_step (P := fun x => (∃ p, x = [p] ∧ Want fx p.nm path)) ha
  have his2 := ex_step (P := fun x => (∃ p, x = [p] ∧ Want fx p.nm path ∧ p.nm = r.getD [])) ha
  obtain ⟨b, o, av, e0, hc1, pad, pcp, rfl, hpcp, hpc⟩ := hc j _ ha
  cases e0
  obtain ⟨pb, po, e1, hq1, hq2⟩ := hpc 0 p rfl
  cases e1
  refine GC.reg ?_
  refine G.v (V.ia (i := j) Tryd.underlying22 Tryd.sizeOf30 rfl rfl hjl) rfl ?_
  refine G.v (V.ldC (v := .slice (some ⟨pb, po, none⟩) 1 pcp) Tryd.isAgg30 rfl (by rw [Nat.mul_one]; exact hc1) id) rfl ?_
  refine G.m2 ?_
  refine G.nil ?_
  refine GC.seq ?_
  refine GC.reg ?_
  refine G.m1 ?_
  refine G.v (V.ia (i := 0) Tryd.underlying30 Tryd.sizeOf32 rfl rfl (by decide)) rfl ?_
  refine G.v (V.fa F32_1 rfl) rfl ?_
  refine G.v (V.ldC (v := S p.nm) Tryd.isAgg9 rfl hq2 id) rfl ?_
  refine G.m2 ?_
  refine G.nil ?_
  refine GC.seq ?_
  refine GC.seq ?_
  refine GC.reg ?_
  refine G.m1 ?_
  refine G.callP (v := .bool (dec (AscN p.nm))) Tryd.call7 rfl rfl (fun w1 _ => c7_any w1 p.nm (by omega)) ?_
  refine G.v (V.not rfl) rfl ?_
  refine G.nil ?_
  refine GC.cond rfl (fun h75 => ?_) (fun h75 => ?_)
  ·refine GC.seq ?_
   refine GC.reg ?_
   refine G.callP Tryd.call10 rfl rfl (fun w1 hw1 => s8_fix w1 (hL.old hw1)) ?_
   refine G.m2 ?_
   refine G.nil ?_
   exact GC.ret1 rfl rfl fun w' hw' => ⟨rfl, hw'.sub (List.nil_sublist _)⟩
  refine GC.skip ?_
  refine GC.seq ?_
  refine GC.join (fun fr' H' => ∃ t : Bool, (t = true ↔ Want fx p.nm path) ∧ Sub [(0, .slice (some ⟨b, o, none⟩) l.length scp), (1, S path), (2, .bool fx), (7, .bool wt), (8, S (r.getD [])), (9, .bool r.isSome), (10, .bool true), (11, .bool is), (63, .slice (some ⟨b, o, none⟩) l.length scp), (64, I (l.length : Nat)), (65, I (j : Nat)), (14, S p.nm), (92, .bool t)] fr' ∧ H' = []) (fun J14 => ?_) ?_
  ·refine GC.reg ?_
   refine G.m1 ?_
   refine G.callP (v := S (foldT p.nm)) Tryd.call12 rfl rfl (fun w1 hw1 => f59_any w1 p.nm (by omega)) ?_
   refine G.m1 ?_
   refine G.callP (v := S (foldT path)) Tryd.call12 rfl rfl (fun w1 hw1 => f59_any w1 path (by omega)) ?_
   refine G.v (V.eqS rfl rfl) rfl ?_
   refine G.m1 ?_
   refine G.bc 82 rfl (fun h82 => ?_) (fun h82 => ?_)
   ·refine G.s1 ?_
    refine G.s1 ?_
    refine G.sgU rfl rfl rfl rfl rfl ?_
    refine G.sgU rfl rfl rfl rfl rfl ?_
    refine G.sgU rfl rfl rfl rfl rfl ?_
    refine G.sgU rfl rfl rfl rfl rfl ?_
    refine G.sgU rfl rfl rfl rfl rfl ?_
    refine G.sgU rfl rfl rfl rfl rfl ?_
    refine G.s1 ?_
    refine G.m3 ?_
    refine G.nil ?_
    exact J14 _ _ ⟨true, ⟨fun _ => .inl (of_decide_eq_true h82), fun _ => rfl⟩, .of rfl, rfl⟩
   ·refine G.m5 ?_
    refine G.m5 ?_
    refine G.bc 84 rfl (fun h84 => ?_) (fun h84 => ?_)
    ·refine G.m5 ?_
     refine G.gd rfl rfl ?_
     refine G.callP (v := S (foldT p.nm)) Tryd.call12 rfl rfl (fun w1 hw1 => f59_any w1 p.nm (by omega)) ?_
     refine G.m5 ?_
     refine G.gd rfl rfl ?_
     refine G.callP (v := S (slashN path)) Tryd.call16 rfl rfl (fun w1 hw1 => f34_any w1 path (by omega)) ?_
     refine G.gd rfl rfl ?_
     refine G.callP (v := S (foldT (slashN path))) Tryd.call12 rfl rfl (fun w1 hw1 => f59_any w1 (slashN path) (by have := slash_len path; omega)) ?_
     refine G.vg rfl rfl (V.eqS rfl rfl) rfl ?_
     refine G.vg rfl rfl (V.pickT rfl rfl) rfl ?_
     refine G.m4 ?_
     refine G.nil ?_
     exact J14 _ _ ⟨_, ⟨fun e => .inr ⟨h84, of_decide_eq_true e⟩, fun e => decide_eq_true (e.resolve_left (of_decide_eq_false h82)).2⟩, .of rfl, rfl⟩
    ·refine G.s1 ?_
     refine G.s1 ?_
     refine G.s1 ?_
     refine G.s1 ?_
     refine G.s1 ?_
     refine G.s1 ?_
     refine G.vg rfl rfl (V.pickF rfl rfl) rfl ?_
     refine G.m4 ?_
     refine G.nil ?_
     exact J14 _ _ ⟨false, ⟨fun e => (by cases e), fun e => absurd (e.resolve_left (of_decide_eq_false h82)).1 (by rw [h84]; decide)⟩, .of rfl, rfl⟩
  rintro fr' H' ⟨t92, ht92, hs14, rfl⟩
  refine GC.weak hs14 ?_
  clear hs14
  refine GC.cond rfl (fun h92 => ?_) (fun h92 => ?_)
  ·refine GC.seq ?_
   refine GC.reg ?_
   refine G.m2 ?_
   refine G.nil ?_
   refine GC.reg ?_
   refine G.m1 ?_
   refine G.m1 ?_
   refine G.bc 94 rfl (fun h94 => ?_) (fun h94 => ?_)
   ·refine G.s1 ?_
    refine G.s1 ?_
    refine G.s1 ?_
    refine G.m3 ?_
    refine G.m2 ?_
    refine G.nil ?_
    refine GC.inBlock ?_
    refine GC.reg ?_
    refine G.v (V.addI (r := ((j + 1 : Nat) : Int)) rfl rfl rfl (by omega) (by omega)) rfl ?_
    refine G.m1 ?_
    refine G.nil ?_
    exact ih (N - 1) _ _ (by omega) ⟨j + 1, true, true, by omega, by rw [hwt2]; exact ⟨fun _ => .inr ⟨p, rfl, ht92.1 h92⟩, fun _ => rfl⟩, by rw [his2]; exact ⟨fun _ => .inl (his.1 h94), fun _ => rfl⟩, .of rfl, rfl⟩
   ·refine G.m5 ?_
    refine G.m5 ?_
    refine G.vg rfl rfl (V.eqS rfl rfl) rfl ?_
    refine G.m4 ?_
    refine G.m2 ?_
    refine G.nil ?_
    refine GC.inBlock ?_
    refine GC.reg ?_
    refine G.v (V.addI (r := ((j + 1 : Nat) : Int)) rfl rfl rfl (by omega) (by omega)) rfl ?_
    refine G.m1 ?_
    refine G.nil ?_
    refine ih (N - 1) _ _ (by omega) ⟨j + 1, true, decide (p.nm = r.getD []), by omega, by rw [hwt2]; exact ⟨fun _ => .inr ⟨p, rfl, ht92.1 h92⟩, fun _ => rfl⟩, ?_, .of rfl, rfl⟩
    rw [his2]
    refine ⟨fun e => .inr ⟨p, rfl, ht92.1 h92, of_decide_eq_true e⟩, fun e => ?_⟩
    rcases e with e | ⟨p2, e, _, h2⟩
    ·exact absurd (his.2 e) (by rw [h94]; decide)
    ·cases e; exact decide_eq_true h2
  refine GC.skip ?_
  refine GC.inBlock ?_
  refine GC.reg ?_
  refine G.v (V.addI (r := ((j + 1 : Nat) : Int)) rfl rfl rfl (by omega) (by omega)) rfl ?_
  refine G.m1 ?_
  refine G.nil ?_
  have hnw : ¬ Want fx p.nm path := fun e => by have := ht92.2 e; rw [h92] at this; cases this
  exact ih (N - 1) _ _ (by omega) ⟨j + 1, wt, is, by omega, by rw [hwt2, hwt]; exact ⟨.inl, fun e => e.resolve_right fun ⟨p2, e2, h2⟩ => by cases e2; exact hnw h2⟩, by rw [his2, his]; exact ⟨.inl, fun e => e.resolve_right fun ⟨p2, e2, h2, _⟩ => by cases e2; exact hnw h2⟩, .of rfl, rfl⟩
 refine GC.exit rfl ?_
 refine GC.seq ?_
 obtain rfl : j = l.length := by omega
 rw [ex_all] at hwt his
 have hfw : r.isSome = wt := by
  cases hr : r with
  | none =>
   cases hw2 : wt with
   | false => rfl
   | true =>
    obtain ⟨x, hx, p, hp, hw3⟩ := hwt.1 hw2
    exact absurd hw3 (hcs.2 hr x hx p hp)
  | some out =>
   obtain ⟨x, hx, p, hp, e, hw3⟩ := hcs.1 out hr
   exact (hwt.2 ⟨x, hx, p, hp, by rw [e]; exact hw3⟩).symm
 have his3 : r.isSome = true → is = true := fun hs => by
  obtain ⟨out, hr⟩ := Option.isSome_iff_exists.1 hs
  obtain ⟨x, hx, p, hp, e, hw3⟩ := hcs.1 out hr
  exact his.2 ⟨x, hx, p, hp, by rw [e]; exact hw3, by rw [e, hr]; rfl⟩
 refine GC.reg ?_
 refine G.m1 ?_
 refine G.m1 ?_
 refine G.bc 101 rfl (fun h101 => ?_) (fun h101 => ?_)
 ·refine G.m5 ?_
  refine G.m5 ?_
  refine G.vg rfl rfl (V.eqB2 Tryd.underlying4 rfl rfl) rfl ?_
  refine G.m3 ?_
  refine G.m1 ?_
  refine G.bc 106 rfl (fun h106 => ?_) (fun h106 => ?_)
  ·refine G.m5 ?_
   refine G.vg rfl rfl (V.not rfl) rfl ?_
   refine G.m5 ?_
   refine G.bc 109 rfl (fun h109 => ?_) (fun h109 => ?_)
   ·refine G.s1 ?_
    refine G.vg rfl rfl (V.pickT rfl rfl) rfl ?_
    refine G.m3 ?_
    refine G.m1 ?_
    refine G.gd rfl rfl ?_
    refine G.callP Tryd.call10 rfl rfl (fun w1 hw1 => s8_fix w1 (hL.old hw1)) ?_
    refine G.m3 ?_
    refine G.m2 ?_
    refine G.nil ?_
    exact GC.ret1 rfl rfl fun w' hw' => ⟨rfl, hw'.sub (List.nil_sublist _)⟩
   ·refine G.m5 ?_
    refine G.vg rfl rfl (V.pickF rfl rfl) rfl ?_
    refine G.m3 ?_
    refine G.m1 ?_
    refine G.bc 113 rfl (fun h113 => ?_) (fun h113 => ?_)
    ·refine G.gd rfl rfl ?_
     refine G.callP Tryd.call10 rfl rfl (fun w1 hw1 => s8_fix w1 (hL.old hw1)) ?_
     refine G.m3 ?_
     refine G.m2 ?_
     refine G.nil ?_
     exact GC.ret1 rfl rfl fun w' hw' => ⟨rfl, hw'.sub (List.nil_sublist _)⟩
    ·exact absurd h113 (by rw [his3 (by simpa using h109)]; decide)
  ·exact absurd h106 (by rw [hfw]; simp)
 ·exact absurd h101 (by decide)
end Go.Proofs
