/- The law FnGinFind holds for every input: of the routes of a table a path finds the one that it is one of, and the best of several, with the values of its parameters. -/
import Derived.Test.YtnopecnbpflodaaSa
import Derived.Test.YtnopecnbpflodaaKa
import Derived.Test.YtnopecnbpflodaaRowb
/- FnGinFind. Printed by wip/mk_gs2x.py. -/
set_option maxRecDepth 20000
namespace Go.Proofs
open Go Bw
open Gt
theorem U_id (v : Vs) : U (unV false) v = v := by
 unfold U
 rw [show (fun x : List UInt8 × List UInt8 => (x.1, unV false x.2)) = id from funext fun x => rfl, List.map_id]
/-- what was found, and what there is to find -/
theorem same_found {l : List (List Prt)} {path : List UInt8} {r : Res} (h : FoundN l path (unV false) r) {k : Nat} {pv : Value} {full : List UInt8} {Hp : SH} (hb : BestAt l path (bestN l path l.length) k pv full Hp) :
  ∃ ps, ps.length ≤ 12 ∧ SameF (r.h.getD 0) k r.full full r.ps ps ∧ (Own 84 2 pv ps.length (flatP ps) Hp ∨ (pv = .slice none 0 0 ∧ ps = [])) := by
 rcases hb with ⟨h1, h2, h3, h4, _⟩ | ⟨m, a, ps, h1, h2, h3, h4, h5, h6, h7⟩
 ·refine ⟨[], by simp, ?_, .inr ⟨h3, rfl⟩⟩
  rcases h with ⟨_, g2, g3⟩ | ⟨m, a, v, g1, _⟩
  ·exact .inl ⟨by rw [g2]; rfl, h2, g3⟩
  ·rw [h1] at g1; cases g1
 ·refine ⟨ps, h6, ?_, .inl h7⟩
  rcases h with ⟨g1, _⟩ | ⟨m', a', v, g1, g2, g3, g4, g5, g6⟩
  ·rw [h1] at g1; cases g1
  ·rw [h1] at g1
   cases g1
   rw [h3] at g2
   cases g2
   rw [h5] at g3
   cases g3
   exact .inr ⟨by omega, by rw [g4, h2]; rfl, by rw [g5, h4], by rw [g6, U_id]⟩
theorem Prms.none (w : World) : Prms w (.slice none 0 0) [] := ⟨_, _, rfl, fun j x h => by simp at h⟩
theorem cells_of {w0 w : World} {D : Nat → Prop} {H : SH} (hw : HF w0 D H w) {b : Nat} {wf : Bool} {l : List Value} {T : TypeId} {fz : Nat × Nat} (off : Nat) (cs : List Value) (hm : (⟨b, wf, .row l T fz⟩ : Ent) ∈ H) (hc : ∀ (j : Nat) v, cs[j]? = some v → l[off + j]? = some v) : ∀ (j : Nat) v, cs[j]? = some v → w.cell? ⟨b, off + j, none⟩ = some v := fun j v hj =>
 cell_row hw hm (by rw [nth_eq]; exact hc j v hj)
theorem fnd_at (r : Res) (pa : Value) (sp : List Value) (j : Nat) (v : Value) (h : (fndV r pa)[j]? = some v) : (fndV r pa ++ sp)[0 + 0 * 4 + j]? = some v := by
 have hl := (List.getElem?_eq_some_iff.1 h).1
 have e : 0 + 0 * 4 + j = j := by omega
 rw [e, List.getElem?_append_left hl]; exact h
theorem f11_any (w : World) (l : List (List Prt)) (sv : Value) (hsv : Tbl w sv l) (path : List UInt8) : Calls Try.prog 11 #[sv, S path] w fun e w' => e = .returned (.bool true) ∧ HF w (fun _ => False) [] w' := by
 refine enter (fun _ => False) [] Try.func11 rfl Try.ntmps11 rfl rfl (HF.start w _) fun c hc => ?_
 subst hc
 refine GC.seq ?_
 refine GC.reg ?_
 refine G.m2 ?_
 refine G.nil ?_
 refine GC.seq ?_
 refine GC.seq ?_
 refine GC.join (fun fr' H' => Sub [(0, sv), (1, S path), (14, .bool (dec (¬ Fits4 l ∨ (2147483647 : Int) < (path.length : Int))))] fr' ∧ H' = []) (fun J1 => ?_) ?_
 ·refine GC.reg ?_
  refine G.m1 ?_
  refine G.callP (v := .bool (dec (Fits4 l))) Try.call17 rfl rfl (fun w1 hw1 => f17_any w1 l sv (hsv.old hw1)) ?_
  refine G.v (V.not rfl) rfl ?_
  refine G.m1 ?_
  refine G.bc 10 rfl (fun h10 => ?_) (fun h10 => ?_)
  ·refine G.s1 ?_
   refine G.s1 ?_
   refine G.s1 ?_
   refine G.m3 ?_
   refine G.nil ?_
   refine J1 _ _ ⟨.cons rfl (.cons rfl (.cons (rfl.trans (congrArg (fun b => some (Value.bool b)) ?_)) .nil)), rfl⟩
   exact dec_t (.inl (dec_false.1 (by simpa using h10)))
  ·refine G.m5 ?_
   refine G.vg rfl rfl (V.lenS Try.underlying9 rfl) rfl ?_
   refine G.vg rfl rfl (V.gt rfl rfl) rfl ?_
   refine G.m4 ?_
   refine G.nil ?_
   refine J1 _ _ ⟨.cons rfl (.cons rfl (.cons (rfl.trans (congrArg (fun b => some (Value.bool b)) ?_)) .nil)), rfl⟩
   exact dec_d ⟨.inr, fun h => h.resolve_left (fun h => h (dec_true.1 (by simpa using h10)))⟩
 rintro fr' H' ⟨hs1, rfl⟩
 refine GC.weak hs1 ?_
 clear hs1
 refine GC.cond rfl (fun h14 => ?_) (fun h14 => ?_)
 ·refine GC.seq ?_
  refine GC.reg ?_
  refine G.m2 ?_
  refine G.nil ?_
  exact GC.ret1 rfl rfl fun w' hw' => ⟨rfl, hw'.sub (List.nil_sublist _)⟩
 refine GC.skip ?_
 refine GC.seq ?_
 refine GC.seq ?_
 refine GC.join (fun fr' H' => Sub [(0, sv), (1, S path), (23, .bool (dec (¬ FitsN l path ∨ OpenN l path)))] fr' ∧ H' = []) (fun J3 => ?_) ?_
 ·obtain ⟨h4, hpl⟩ : Fits4 l ∧ path.length ≤ 2147483647 := by
   have := dec_false.1 h14
   exact ⟨Classical.byContradiction fun h => this (.inl h), by omega⟩
  refine GC.reg ?_
  refine G.m1 ?_
  refine G.m1 ?_
  refine G.callP (v := .bool (dec (FitsN l path))) Try.call19 rfl rfl (fun w1 hw1 => f19_any w1 l sv (hsv.old hw1) h4 path (by omega)) ?_
  refine G.v (V.not rfl) rfl ?_
  refine G.m1 ?_
  refine G.bc 19 rfl (fun h19 => ?_) (fun h19 => ?_)
  ·refine G.s1 ?_
   refine G.s1 ?_
   refine G.s1 ?_
   refine G.m3 ?_
   refine G.nil ?_
   refine J3 _ _ ⟨.cons rfl (.cons rfl (.cons (rfl.trans (congrArg (fun b => some (Value.bool b)) ?_)) .nil)), rfl⟩
   exact dec_t (.inl (dec_false.1 (by simpa using h19)))
  ·refine G.m5 ?_
   refine G.m5 ?_
   have hft : FitsN l path := dec_true.1 (by simpa using h19)
   refine G.gd rfl rfl ?_
   refine G.callP (v := .bool (dec (OpenN l path))) Try.call30 rfl rfl (fun w1 hw1 => f30_any w1 l sv (hsv.old hw1) hft.2.1.clean (by have := hft.1; omega) path (by have := hft.2.2.2.2; omega)) ?_
   refine G.m4 ?_
   refine G.nil ?_
   refine J3 _ _ ⟨.cons rfl (.cons rfl (.cons (rfl.trans (congrArg (fun b => some (Value.bool b)) ?_)) .nil)), rfl⟩
   exact dec_c ⟨.inr, fun h => h.resolve_left (fun h => h (dec_true.1 (by simpa using h19)))⟩
 rintro fr' H' ⟨hs3, rfl⟩
 refine GC.weak hs3 ?_
 clear hs3
 refine GC.cond rfl (fun h23 => ?_) (fun h23 => ?_)
 ·refine GC.seq ?_
  refine GC.reg ?_
  refine G.callP (v := .bool true) Try.call14 rfl rfl (fun w1 _ => f14_any w1) ?_
  refine G.m2 ?_
  refine G.nil ?_
  exact GC.ret1 rfl rfl fun w' hw' => ⟨rfl, hw'.sub (List.nil_sublist _)⟩
 refine GC.skip ?_
 refine GC.seq ?_
 obtain ⟨hft, hno⟩ : FitsN l path ∧ ¬ OpenN l path := by
  have := dec_false.1 h23
  exact ⟨Classical.byContradiction fun h => this (.inl h), fun h => this (.inr h)⟩
 have hcl := hft.2.1.clean
 have hbd : ∀ r ∈ l, (rtT r).length ≤ 1000000 ∧ r.length ≤ 1000000 := fun r hr => ⟨Nat.le_trans (hcl r hr).txt.1 (by omega), (clean_len (hcl r hr)).2⟩
 have h30 := hft.1
 refine GC.reg ?_
 refine G.m1 ?_
 refine G.callW (fun v H2 => ∃ Hk, Own 9 1 v l.length ((l.map rtT).map S) Hk ∧ H2 = Hk ++ []) Try.call23 rfl rfl (fun w1 hw1 => ?_) ?_
 ·refine (f23_any w1 l sv (hsv.old hw1) hbd (by omega)).mono fun e w' ⟨kv, Hs, h1, h2, h3⟩ => ?_
  exact ⟨_, _, h1, hw1.after0 h3 h2.w, Hs, h2, rfl⟩
 rintro kv H2 ⟨Hs, hown, rfl⟩
 refine G.m1 ?_
 refine G.bs (BS.one Try.underlying26 Try.sizeOf9 Try.zeroValue9 (v := S path) rfl) rfl rfl (fun qb hqb => ?_)
 refine G.callW (fun v H2 => ∃ r fb cap spare pa Ha, v = .tuple #[.slice (some ⟨fb, 0, none⟩) 1 cap, .bool true] ∧ Told l false path r ∧ Own 32 2 pa r.ps.length (flatP r.ps) Ha ∧ H2 = (⟨fb, true, .row (fndV r pa ++ spare) 30 (0, 0)⟩ :: Ha) ++ (⟨qb, true, .row [S path] 9 (0, 0)⟩ :: (Hs ++ []))) Try.call15 rfl rfl (fun w1 hw1 => ?_) ?_
 ·refine (f15_fit1 w1 l _ path hft (hown.txts (by simp) hw1 (fun e he => List.mem_cons_of_mem _ (List.mem_append_left _ he))) _ (Txts.row (l := [path]) (z := []) (e := 9) (wf := true) (fz := (0, 0)) hw1 (.head _)) false).mono fun e w' ⟨r, fb, cap, spare, pa, Ha, h1, h2, h3, h4⟩ => ?_
  exact ⟨_, _, h2, hw1.after0 h4 (fun e0 he0 => by
   rcases List.mem_cons.1 he0 with rfl | he0
   ·rfl
   ·exact h3.w e0 he0), r, fb, cap, spare, pa, Ha, rfl, h1, h3, rfl⟩
 rintro v H2 ⟨r, fb, cap, spare, pa, Ha, rfl, ht, ho, rfl⟩
 refine G.m1 ?_
 refine G.v (V.ex rfl rfl) rfl ?_
 refine G.v (V.ex rfl rfl) rfl ?_
 refine G.m2 ?_
 refine G.m2 ?_
 refine G.nil ?_
 have hbest := ht.2.2.2 hno
 obtain ⟨SW, hSW⟩ : ∃ SW : World → Prop, SW = fun w1 => ∀ (j : Nat) v, (fndV r pa)[j]? = some v → w1.cell? ⟨fb, 0 + 0 * 4 + j, none⟩ = some v := ⟨_, rfl⟩
 have hS : ∀ (H' : SH), ⟨fb, true, .row (fndV r pa ++ spare) 30 (0, 0)⟩ ∈ H' → ∀ w1, HF w (fun _ => False) H' w1 → SW w1 := fun H' hm w1 h1 => by
  rw [hSW]
  exact cells_of h1 (0 + 0 * 4) _ hm (fun j v hj => fnd_at r pa spare j v hj)
 refine GC.seq ?_
 refine GC.regA (SW) mixed ?_
 refine GA.one 0 rfl (by kernel_rfl) ?_
 refine GB.callP (v := .bool true) Try.call14 rfl rfl (hS _ (.head _)) (fun w1 _ => f14_any w1) ?_
 refine GA.p 1 rfl (by kernel_rfl) (hS _ (.head _)) (fun _ => V.mv rfl) rfl ?_
 refine GA.pg 2 rfl rfl rfl (by kernel_rfl) (hS _ (.head _)) (fun _ => V.mv rfl) rfl ?_
 refine GA.p 3 rfl (by kernel_rfl) (hS _ (.head _)) (fun _ => V.pickT rfl rfl) rfl ?_
 refine GA.p 4 rfl (by kernel_rfl) (hS _ (.head _)) (fun _ => V.mv rfl) rfl ?_
 refine GA.pg 5 rfl rfl rfl (by kernel_rfl) (hS _ (.head _)) (fun _ => V.mv rfl) rfl ?_
 refine GA.pg 6 rfl rfl rfl (by kernel_rfl) (hS _ (.head _)) (fun _ => V.lenL Try.underlying23 rfl) rfl ?_
 refine GA.pg 7 rfl rfl rfl (by kernel_rfl) (hS _ (.head _)) (fun _ => V.eqI rfl rfl) rfl ?_
 refine GA.p 8 rfl (by kernel_rfl) (hS _ (.head _)) (fun _ => V.pickT rfl rfl) rfl ?_
 refine GA.p 9 rfl (by kernel_rfl) (hS _ (.head _)) (fun _ => V.mv rfl) rfl ?_
 refine GA.pg 10 rfl rfl rfl (by kernel_rfl) (hS _ (.head _)) (fun _ => V.mv rfl) rfl ?_
 refine GA.pg 11 rfl rfl rfl (by kernel_rfl) (hS _ (.head _)) (fun _ => V.ia (i := 0) Try.underlying23 Try.sizeOf30 rfl rfl (by decide)) rfl ?_
 refine GA.ldBg (cs := fndV r pa) (s := 4) 12 rfl rfl rfl (by kernel_rfl) (hS _ (.head _)) Try.isAgg30 Try.sizeOf30 rfl (fun w1 h1 j v hj => by rw [hSW] at h1; exact h1 j v hj) rfl rfl ?_
 refine GA.pg 13 rfl rfl rfl (by kernel_rfl) (hS _ (.head _)) (fun _ => V.mv rfl) rfl ?_
 refine GA.pg 14 rfl rfl rfl (by kernel_rfl) (hS _ (.head _)) (fun _ => V.mv rfl) rfl ?_
 refine GA.one 15 rfl (by kernel_rfl) ?_
 refine GB.gd rfl rfl ?_
 refine GB.callW (fun v H2 => ∃ (k : Nat) (pv : Value) (full : List UInt8) (Hp : SH), v = .agg #[I (k : Nat), pv, S full, .bool false] ∧ BestAt l path (bestN l path l.length) k pv full Hp ∧ H2 = Hp ++ ((⟨fb, true, .row (fndV r pa ++ spare) 30 (0, 0)⟩ :: Ha) ++ (⟨qb, true, .row [S path] 9 (0, 0)⟩ :: (Hs ++ [])))) Try.call33 rfl rfl (fun v H' ⟨_, _, _, Hp, _, _, e⟩ w1 h1 => hS H' (e ▸ List.mem_append_right _ (.head _)) w1 h1) (fun w1 hw1 => ?_) ?_
 ·exact (f33_any w1 l sv (hsv.old hw1) hcl (by omega) path (by have := hft.2.2.2.2; omega)).mono fun e w' ⟨k, pv, full, Hp, h1, h2, h3⟩ => ⟨_, _, h1, hw1.after0 h3 h2.w, k, pv, full, Hp, rfl, h2, rfl⟩
 rintro v H2 ⟨k, pv, full, Hp, rfl, hb, rfl⟩
 obtain ⟨qs, hqs, hsame, hpv⟩ := same_found hbest hb
 refine GA.one 16 rfl (by kernel_rfl) ?_
 refine GB.gd rfl rfl ?_
 refine GB.callP (v := .bool (dec (SameF (r.h.getD 0) k r.full full r.ps qs))) Try.call36 rfl rfl (hS _ (List.mem_append_right _ (.head _))) (fun w1 hw1 => f36_any w1 (r.h.getD 0) k r.full full r.ps qs pa pv r.tsr false (Own.prms ho hw1 (fun x hx => List.mem_append_right _ (.tail _ (List.mem_append_left _ hx)))) ?_ ?_ (by omega)) ?_
 ·rcases hpv with hpv | ⟨rfl, rfl⟩
  ·exact Own.prms hpv hw1 (fun x hx => List.mem_append_left _ hx)
  ·exact Prms.none _
 ·have := ht.2.1; omega
 rw [dec_true.2 hsame]
 refine GA.p 17 rfl (by kernel_rfl) (hS _ (List.mem_append_right _ (.head _))) (fun _ => V.pickT rfl rfl) rfl ?_
 refine GA.p 18 rfl (by kernel_rfl) (hS _ (List.mem_append_right _ (.head _))) (fun _ => V.asg rfl) rfl ?_
 refine GA.done (by kernel_rfl) ?_
 exact GC.ret1 rfl rfl fun w' hw' => ⟨rfl, hw'.sub (List.nil_sublist _)⟩
end Go.Proofs

/- A law's statement out of its walk: FnGinFind. -/
set_option maxRecDepth 100000
namespace Go.Proofs.Ytnopecnbpflodaa.ginfind
open Go Bw Go.ChangeShapes Go.WideShapes Go.ChangeAt Go.RowKit
theorem contract (H : Type) (enc : TypeId × Value → H) (W : World) (base : Nat) (args : Array Value) (ds gs : List (DataW H)) (before : List MemPlace)
  (hval : ∀ (j : Nat) t v, Try.f11.params[j]? = some t → args[j]? = some v → Value.okWide Try.prog W .any base t v)
  (hW : DataW.Whole enc Try.prog Try.f11.params.toList Rows.fnGinFindSpec.vars false W args.toList ds gs before) :
  Calls Try.prog 11 args W fun e W' => ∃ v, e = .returned v ∧ Rows.fnGinFindSpec.post enc Try.prog Try.f11 false true false false W args v W' := by
 have hW' := hW
 obtain ⟨p, q, hA0, hV, rfl, hfz, hnd⟩ := hW
 have hA : DataW.TrodAll enc Try.prog W 0 (fun _ => true) true [34, 9] args.toList ds p := hA0
 obtain ⟨v0, vs0, d0, ds0, p0, q0, hargs, rfl, rfl, h0, r0⟩ := trodAll_cons hA
 obtain ⟨v1, vs_1, d1, ds1, p1, q1, rfl, rfl, rfl, h1, r1⟩ := trodAll_cons r0
 obtain ⟨rfl, rfl, rfl⟩ := trodAll_nil r1
 obtain rfl : args = #[v0, v1] := by cases args; simp_all
 obtain ⟨rs0, hrs0⟩ := open_parts2 (hval 0 34 v0 rfl rfl) h0
 obtain ⟨l1, rfl⟩ := open_str Try.underlying9 (hval 1 9 v1 rfl rfl)
 refine (f11_any W rs0 v0 hrs0 l1).mono fun e W' ⟨he, hf⟩ => ⟨_, he, ?_⟩
 refine post_law hW' rfl rfl ?_ (by kernel_rfl) (below_of hf)
 obtain ⟨rfl, rfl⟩ := trodVars_none hV
 rfl
theorem reads (os : Os) {H : Type} (enc : TypeId × Value → H) : ∃ places, DataW.whole enc Try.prog ((plainWorld os).forCall (fun _ _ => 0) ⟨#[], #[.slice none 0 0, .string ⟨#[]⟩], []⟩).memory Try.f11.params.toList Rows.fnGinFindSpec.vars false (#[.slice none 0 0, .string ⟨#[]⟩] : Array Value).toList 8 = some ([.nil, .lit (.string [])], [], places) :=
 ⟨[], by kernel_rfl⟩
theorem lifted (os : Os) (started : os.Started) (H : Type) (enc : TypeId × Value → H) (F : Stop.Interp) :
  ReturnsInHanded {} Try.checked os 11 .any ((OpenSpec.ofChange Rows.fnGinFindSpec).preRow enc Try.prog Try.f11 Rows.fnGinFindRow.domain false Rows.fnGinFindRow.laid) (((OpenSpec.ofChange Rows.fnGinFindSpec).at F).post enc Try.prog Try.f11 false true false false) := by
 obtain ⟨places, hx⟩ := reads os enc
 refine returnsInHanded_of_row (C := Try.checked) (s := OpenSpec.ofChange Rows.fnGinFindSpec) try_own started (by kernel_rfl) Try.func11
  (witness_row_at (enc := enc) (C := Try.checked) false (plainWorld os) #[.slice none 0 0, .string ⟨#[]⟩] rfl (by kernel_rfl) (by kernel_rfl) (by kernel_rfl)
   (OpenSpec.preRow_of_cond 8 hx (by kernel_rfl) (fun k hk => by cases hk) (by kernel_rfl) (laid_none _))) ?_
 intro W base args ds gs before hval hW _ _ _ hL _ _
 exact contract H enc W base args ds gs before hval hW
theorem said : Rows.FnGinFindSaid :=
 OpenClaim.holds_of_cond 11 Try.f11 rfl rfl rfl rfl rfl rfl rfl ⟨rfl, rfl, rfl, rfl, rfl⟩ rfl rfl rfl rfl rfl (by kernel_rfl) Try.func11 (by kernel_rfl)
  (of_decide_eq_true (by kernel_rfl)) (by unfold Func.isWrapper; first | (rw [if_pos (by decide +kernel)]; kernel_rfl) | (rw [if_neg (by decide +kernel)]; exact ⟨rfl, rfl⟩))
  (fun os started H enc _ F => by rw [OpenClaim.pre_eq_preRow]; exact lifted os started H enc F)
end Go.Proofs.Ytnopecnbpflodaa.ginfind
