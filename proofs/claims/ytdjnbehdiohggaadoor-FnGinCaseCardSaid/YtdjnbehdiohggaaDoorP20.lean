/- Lemmas of the walk and plain facts (HxB6 .. HsE5). -/
import Derived.Test.YtdjnbehdiohggaaDoorP19
import Derived.Test.YtdjnbehdiohggaaDoorP01
import Derived.Test.YtdjnbehdiohggaaDoorP06
import Derived.Test.YtdjnbehdiohggaaDoorP12
import Derived.Test.YtdjnbehdiohggaaDoorP04
import Derived.Laws.Small
/- impl.GinCase, with the wish to fix. Printed by wip/mk_hx8.py. -/
set_option maxRecDepth 20000
namespace Go.Proofs
open Go Bw
open Gt
theorem c25_fix (w : World) (rs : List (List Tok)) (sv : Value) (hg : ∀ r ∈ rs, Gt.Good r) (hl : ∀ r ∈ rs, (txt r).length ≤ 20000) (h92 : ∀ r ∈ rs, ∀ c ∈ txt r, c ≠ 92) (hn : rs.length ≤ 1000000) (hsv : Txts w sv (rs.map txt)) {fx : Bool} (hL : LaidF w fun _ => False) {t : T0} (hadd : addAll new (rs.map txt) 0 = .inl t) (hln : Ln t) (hst : Stc t) (qb qo cp2 : Nat) (tl : List TF) (htl : ∀ x ∈ tl, x.q ≠ [] ∧ (∀ y ∈ x.q, y.toNat < 128) ∧ x.q.length ≤ 50000 ∧ ∃ g, caseC Ef fx g t x.q 0 [] = some x.r) (hl2 : tl.length ≤ 100000) (hqc : ∀ i x, tl[i]? = some x → w.cell? ⟨qb, qo + i, none⟩ = some (S x.q)) : Calls Tryd.prog 25 #[sv, .slice (some ⟨qb, qo, none⟩) tl.length cp2, .bool fx] w fun e w' => ∃ svT svF KT KB, e = .returned (.tuple #[svT, svF, .bool true]) ∧ Own 9 1 svT tl.length (tl.map fun x => S (x.r.getD [])) KT ∧ Own 4 1 svF tl.length (tl.map fun x => Value.bool x.r.isSome) KB ∧ HF w (fun _ => False) (KT ++ KB) w' := by
 refine enter (fun _ => False) [] Tryd.func25 rfl Tryd.ntmps25 rfl rfl (HF.start w _) fun c hc => ?_
 subst hc
 refine GC.seq ?_
 refine GC.reg ?_
 refine G.bx (l := [.bool fx]) rfl rfl rfl (fun cf hcf => ?_)
 refine G.m2 ?_
 refine G.m2 ?_
 refine G.m2 ?_
 refine G.nil ?_
 refine GC.seq ?_
 refine GC.reg ?_
 refine G.m1 ?_
 refine G.callW (fun v H2 => ∃ tb nb Hn, v = .tuple #[Pt tb 0, I (-1)] ∧ HT t nb Hn ∧ H2 = (⟨tb, true, .row (treeR nb (mxP rs) (mxS rs)) 86 (0, 0)⟩ :: Hn) ++ [⟨cf, true, .row [.bool fx] 4 (0, 0)⟩]) Tryd.call37 rfl rfl (fun w1 hw1 => ?_) ?_
 ·refine (f40_any w1 rs sv hg hl h92 hn (hsv.old hw1)).mono fun e w' h => ?_
  rcases h with ⟨t', tb, nb, Hn, h1, h2, h3, h4⟩ | ⟨j, tb, h1, _, _⟩
  ·rw [hadd] at h1
   cases h1
   exact ⟨_, _, h2, hw1.after0 h4 (fun e0 he0 => by
    rcases List.mem_cons.1 he0 with rfl | he0
    ·rfl
    ·exact h3.w e0 he0), tb, nb, Hn, rfl, h3, rfl⟩
  ·rw [hadd] at h1; cases h1
 rintro v H2 ⟨tb, nb, Hn, rfl, ht, rfl⟩
 refine G.m1 ?_
 refine G.v (V.ex rfl rfl) rfl ?_
 refine G.v (V.ex rfl rfl) rfl ?_
 refine G.al Tryd.zeroValue63 rfl rfl (fun ca hca => ?_)
 refine G.st Tryd.sizeOf63 rfl rfl rfl .z rfl rfl ?_
 refine G.m2 ?_
 refine G.nil ?_
 refine GC.seq ?_
 refine GC.seq ?_
 refine GC.reg ?_
 refine G.m1 ?_
 refine G.v (V.ge rfl rfl) rfl ?_
 refine G.nil ?_
 refine GC.condD rfl (fun h21 => absurd h21 (by decide)) (fun h21 => ?_)
 refine GC.skip ?_
 refine GC.seq ?_
 refine GC.seq ?_
 refine GC.reg ?_
 refine G.m1 ?_
 refine G.v (V.lenL Tryd.underlying27 rfl) rfl ?_
 refine G.m1 ?_
 refine G.nil ?_
 refine GC.block ?_
 refine GC.turn (H' := ([⟨tb, true, .row (treeR nb (mxP rs) (mxS rs)) 86 (0, 0)⟩, ⟨ca, true, .row [Pt tb 0] 63 (0, 0)⟩, ⟨cf, true, .row [.bool fx] 4 (0, 0)⟩] ++ Hn) ++ ([] ++ [])) (fun w1 hw1 => ?_) ?_
 ·have h2 : HF w (fun _ => False) (⟨ca, true, .row [Pt tb 0] 63 (0, 0)⟩ :: (⟨tb, true, .row (treeR nb (mxP rs) (mxS rs)) 86 (0, 0)⟩ :: Hn ++ [⟨cf, true, .row [.bool fx] 4 (0, 0)⟩])) w1 := hw1
  exact h2.perm (List.Perm.trans (.of_eq (by simp)) ((perm_idx [([⟨ca, true, .row [Pt tb 0] 63 (0, 0)⟩] : SH), ([⟨tb, true, .row (treeR nb (mxP rs) (mxS rs)) 86 (0, 0)⟩] : SH), Hn, ([⟨cf, true, .row [.bool fx] 4 (0, 0)⟩] : SH)] [0, 1, 2, 3] [1, 0, 3, 2] (by decide)).trans (.of_eq (by simp))))
 refine GC.loopJ (fun N fr' H' => ∃ (i : Nat) (svT svF : Value) (KT KB : SH), i + N = tl.length ∧ Own 9 1 svT (i) ((tl.take (i)).map fun x => S (x.r.getD [])) KT ∧ Own 4 1 svF (i) ((tl.take (i)).map fun x => Value.bool x.r.isSome) KB ∧ Sub [(5, Pt cf 0), (6, svT), (7, svF), (9, Pt ca 0), (22, .slice (some ⟨qb, qo, none⟩) tl.length cp2), (23, I (tl.length : Nat)), (24, I ((i : Nat) : Int))] fr' ∧ ([⟨tb, true, .row (treeR nb (mxP rs) (mxS rs)) 86 (0, 0)⟩, ⟨ca, true, .row [Pt tb 0] 63 (0, 0)⟩, ⟨cf, true, .row [.bool fx] 4 (0, 0)⟩] ++ Hn) ++ (KT ++ KB) = H') tl.length
  ⟨0, _, _, [], [], by omega, .nil, .nil, .of rfl, rfl⟩ ?_
 rintro N fr' H' ⟨i, svT, svF, KT, KB, hi, hownT, hownF, hs, rfl⟩ ih
 refine GC.weak hs ?_
 clear hs
 obtain ⟨adT, cpT, rfl⟩ := hownT.slice
 obtain ⟨adF, cpF, rfl⟩ := hownF.slice
 refine GC.seq ?_
 refine GC.reg ?_
 refine G.v (V.lt rfl rfl) rfl ?_
 refine G.nil ?_
 refine GC.seq ?_
 refine GC.condD rfl (fun h25 => ?_) (fun h25 => ?_)
 ·refine GC.skip ?_
  refine GC.seq ?_
  refine GC.block ?_
  refine GC.seq ?_
  have hlt : i < tl.length := by omega
  obtain ⟨x, hx⟩ : ∃ x, tl[i]? = some x := ⟨_, List.getElem?_eq_getElem hlt⟩
  have htx := htl x (List.mem_of_getElem? hx)
  obtain ⟨gx, hgx⟩ := htx.2.2.2
  refine GC.reg ?_
  refine G.v (V.ia (i := i) Tryd.underlying27 Tryd.sizeOf9 rfl rfl hlt) rfl ?_
  refine G.v (V.ldC (v := S x.q) Tryd.isAgg9 rfl (by rw [Nat.mul_one]; exact hqc i x hx) id) rfl ?_
  refine G.al Tryd.zeroValue9 rfl rfl (fun cq hcq => ?_)
  refine G.st Tryd.sizeOf9 rfl rfl rfl .z rfl rfl ?_
  refine G.nil ?_
  refine GC.seq ?_
  refine GC.reg ?_
  refine G.al Tryd.zeroValue9 rfl rfl (fun cs hcs => ?_)
  refine G.nil ?_
  refine GC.seq ?_
  refine GC.reg ?_
  refine G.al Tryd.zeroValue4 rfl rfl (fun ci hci => ?_)
  refine G.nil ?_
  refine GC.seq ?_
  refine GC.seq ?_
  refine GC.turn (H' := [⟨ci, true, .row [.bool false] 4 (0, 0)⟩, ⟨cs, true, .row [S []] 9 (0, 0)⟩, ⟨cq, true, .row [S x.q] 9 (0, 0)⟩] ++ (([⟨tb, true, .row (treeR nb (mxP rs) (mxS rs)) 86 (0, 0)⟩, ⟨ca, true, .row [Pt tb 0] 63 (0, 0)⟩, ⟨cf, true, .row [.bool fx] 4 (0, 0)⟩] ++ Hn) ++ (KT ++ KB))) (fun w1 hw1 => hw1) ?_
  refine GC.reg ?_
  refine G.v (V.mkF (vs := [Pt ca 0, Pt cq 0, Pt cf 0, Pt cs 0, Pt ci 0]) rfl) rfl ?_
  refine G.callW (fun v H2 => v = .bool false ∧ H2 = ([⟨ca, true, .row [Pt tb 0] 63 (0, 0)⟩, ⟨cq, true, .row [S x.q] 9 (0, 0)⟩, ⟨cf, true, .row [.bool fx] 4 (0, 0)⟩, ⟨cs, true, .row [S (x.r.getD [])] 9 (0, 0)⟩, ⟨ci, true, .row [.bool x.r.isSome] 4 (0, 0)⟩, ⟨tb, true, .row (treeR nb (mxP rs) (mxS rs)) 86 (0, 0)⟩] ++ Hn) ++ (KT ++ KB)) Tryd.call38 rfl rfl (fun w1 hw1 => ?_) ?_
  ·have hp0' := perm_idx [([⟨ci, true, .row [.bool false] 4 (0, 0)⟩] : SH), ([⟨cs, true, .row [S []] 9 (0, 0)⟩] : SH), ([⟨cq, true, .row [S x.q] 9 (0, 0)⟩] : SH), ([⟨tb, true, .row (treeR nb (mxP rs) (mxS rs)) 86 (0, 0)⟩] : SH), ([⟨ca, true, .row [Pt tb 0] 63 (0, 0)⟩] : SH), ([⟨cf, true, .row [.bool fx] 4 (0, 0)⟩] : SH), Hn, KT ++ KB] [0, 1, 2, 3, 4, 5, 6, 7] [4, 2, 5, 1, 0, 3, 6, 7] (by decide)
   have hw1' : HF w (fun _ => False) (([⟨ca, true, .row [Pt tb 0] 63 (0, 0)⟩, ⟨cq, true, .row [S x.q] 9 (0, 0)⟩, ⟨cf, true, .row [.bool fx] 4 (0, 0)⟩, ⟨cs, true, .row [S []] 9 (0, 0)⟩, ⟨ci, true, .row [.bool false] 4 (0, 0)⟩, ⟨tb, true, .row (treeR nb (mxP rs) (mxS rs)) 86 (0, 0)⟩] ++ Hn) ++ (KT ++ KB)) w1 := hw1.perm (List.Perm.trans (.of_eq (by simp)) (hp0'.trans (.of_eq (by simp))))
   refine (f42_any 39 #[Pt ca 0, Pt cq 0, Pt cf 0, Pt cs 0, Pt ci 0] Tryd.call39 w1 w (fun _ => False) _ hw1' (fun t H2 => t = false ∧ H2 = ([⟨ca, true, .row [Pt tb 0] 63 (0, 0)⟩, ⟨cq, true, .row [S x.q] 9 (0, 0)⟩, ⟨cf, true, .row [.bool fx] 4 (0, 0)⟩, ⟨cs, true, .row [S (x.r.getD [])] 9 (0, 0)⟩, ⟨ci, true, .row [.bool x.r.isSome] 4 (0, 0)⟩, ⟨tb, true, .row (treeR nb (mxP rs) (mxS rs)) 86 (0, 0)⟩] ++ Hn) ++ (KT ++ KB)) (fun b w2 hb0 hw2 => ?_)).mono fun e w' ⟨t, H2, h1, ⟨h2, h3⟩, h4⟩ => ⟨_, _, h1, h4, by rw [h2], h3⟩
   have hp2 := perm_idx [([⟨b, true, .row [.bool false] 4 (0, 0)⟩] : SH), ([⟨ca, true, .row [Pt tb 0] 63 (0, 0)⟩, ⟨cq, true, .row [S x.q] 9 (0, 0)⟩, ⟨cf, true, .row [.bool fx] 4 (0, 0)⟩, ⟨cs, true, .row [S []] 9 (0, 0)⟩, ⟨ci, true, .row [.bool false] 4 (0, 0)⟩, ⟨tb, true, .row (treeR nb (mxP rs) (mxS rs)) 86 (0, 0)⟩] ++ Hn), KT ++ KB] [0, 1, 2] [1, 0, 2] (by decide)
   have hp3 : List.Perm (⟨b, true, .row [.bool false] 4 (0, 0)⟩ :: (([⟨ca, true, .row [Pt tb 0] 63 (0, 0)⟩, ⟨cq, true, .row [S x.q] 9 (0, 0)⟩, ⟨cf, true, .row [.bool fx] 4 (0, 0)⟩, ⟨cs, true, .row [S []] 9 (0, 0)⟩, ⟨ci, true, .row [.bool false] 4 (0, 0)⟩, ⟨tb, true, .row (treeR nb (mxP rs) (mxS rs)) 86 (0, 0)⟩] ++ Hn) ++ (KT ++ KB)) : SH) (([⟨ca, true, .row [Pt tb 0] 63 (0, 0)⟩, ⟨cq, true, .row [S x.q] 9 (0, 0)⟩, ⟨cf, true, .row [.bool fx] 4 (0, 0)⟩, ⟨cs, true, .row [S []] 9 (0, 0)⟩, ⟨ci, true, .row [.bool false] 4 (0, 0)⟩, ⟨tb, true, .row (treeR nb (mxP rs) (mxS rs)) 86 (0, 0)⟩] ++ Hn) ++ (⟨b, true, .row [.bool false] 4 (0, 0)⟩ :: (KT ++ KB))) := List.Perm.trans (.of_eq (by simp)) (hp2.trans (.of_eq (by simp)))
   have hh := hw2.perm hp3
   have hnd := List.pairwise_append.1 hh.nd
   refine (c39_fix w2 (fun b => ∃ e ∈ (([⟨ca, true, .row [Pt tb 0] 63 (0, 0)⟩, ⟨cq, true, .row [S x.q] 9 (0, 0)⟩, ⟨cf, true, .row [.bool fx] 4 (0, 0)⟩, ⟨cs, true, .row [S []] 9 (0, 0)⟩, ⟨ci, true, .row [.bool false] 4 (0, 0)⟩, ⟨tb, true, .row (treeR nb (mxP rs) (mxS rs)) 86 (0, 0)⟩] ++ Hn) : SH), e.b = b) (hL.sub hh (fun e he => List.mem_append_left _ he) (fun e0 he0 => by
  simp only [List.cons_append, List.nil_append, List.mem_cons] at he0
  rcases he0 with rfl | rfl | rfl | rfl | rfl | rfl | he0
  all_goals first | rfl | exact ht.w e0 he0)) ht hln hst htx.1 htx.2.1 htx.2.2.1 hgx (hh.loc (fun e he => List.mem_append_left _ he) hnd.1)).mono fun e w' ⟨h1, h2⟩ => ⟨([⟨ca, true, .row [Pt tb 0] 63 (0, 0)⟩, ⟨cq, true, .row [S x.q] 9 (0, 0)⟩, ⟨cf, true, .row [.bool fx] 4 (0, 0)⟩, ⟨cs, true, .row [S (x.r.getD [])] 9 (0, 0)⟩, ⟨ci, true, .row [.bool x.r.isSome] 4 (0, 0)⟩, ⟨tb, true, .row (treeR nb (mxP rs) (mxS rs)) 86 (0, 0)⟩] ++ Hn) ++ (KT ++ KB), ?_, .inl ⟨_, h1, rfl, rfl⟩⟩
   have h3 := hw2.back hp3 (fun e0 he0 => by
  simp only [List.cons_append, List.nil_append, List.mem_cons] at he0
  rcases he0 with rfl | rfl | rfl | rfl | rfl | rfl | he0
  all_goals first | rfl | exact ht.w e0 he0) (fun e0 he0 => by
  simp only [List.mem_cons] at he0
  rcases he0 with rfl | rfl | rfl | rfl | rfl | rfl | he0
  all_goals first | rfl | exact ht.w e0 he0) h2
   have hp4 := perm_idx [([⟨ca, true, .row [Pt tb 0] 63 (0, 0)⟩, ⟨cq, true, .row [S x.q] 9 (0, 0)⟩, ⟨cf, true, .row [.bool fx] 4 (0, 0)⟩, ⟨cs, true, .row [S (x.r.getD [])] 9 (0, 0)⟩, ⟨ci, true, .row [.bool x.r.isSome] 4 (0, 0)⟩, ⟨tb, true, .row (treeR nb (mxP rs) (mxS rs)) 86 (0, 0)⟩] ++ Hn), ([⟨b, true, .row [.bool false] 4 (0, 0)⟩] : SH), KT ++ KB] [0, 1, 2] [1, 0, 2] (by decide)
   exact h3.perm (List.Perm.trans (.of_eq (by simp)) (hp4.trans (.of_eq (by simp))))
  rintro v H2 ⟨rfl, rfl⟩
  refine G.nil ?_
  refine GC.condF rfl ?_
  refine GC.skip ?_
  refine GC.join (fun fr' H' => ∃ (svT2 svF2 : Value) (KT2 KB2 : SH), Own 9 1 svT2 (i + 1) ((tl.take (i + 1)).map fun x => S (x.r.getD [])) KT2 ∧ Own 4 1 svF2 (i + 1) ((tl.take (i + 1)).map fun x => Value.bool x.r.isSome) KB2 ∧ Sub [(5, Pt cf 0), (6, svT2), (7, svF2), (9, Pt ca 0), (22, .slice (some ⟨qb, qo, none⟩) tl.length cp2), (23, I (tl.length : Nat)), (24, I ((i : Nat) : Int))] fr' ∧ (∀ w1, HF w (fun _ => False) H' w1 → HF w (fun _ => False) (([⟨tb, true, .row (treeR nb (mxP rs) (mxS rs)) 86 (0, 0)⟩, ⟨ca, true, .row [Pt tb 0] 63 (0, 0)⟩, ⟨cf, true, .row [.bool fx] 4 (0, 0)⟩] ++ Hn) ++ (KT2 ++ KB2)) w1)) (fun J11 => ?_) ?_
  ·have fin11 : ∀ (KT2 KB2 : SH) (T : SH) w1, HF w (fun _ => False) (T ++ (([⟨ca, true, .row [Pt tb 0] 63 (0, 0)⟩, ⟨cq, true, .row [S x.q] 9 (0, 0)⟩, ⟨cf, true, .row [.bool fx] 4 (0, 0)⟩, ⟨cs, true, .row [S (x.r.getD [])] 9 (0, 0)⟩, ⟨ci, true, .row [.bool x.r.isSome] 4 (0, 0)⟩, ⟨tb, true, .row (treeR nb (mxP rs) (mxS rs)) 86 (0, 0)⟩] ++ Hn) ++ (KT2 ++ KB2))) w1 → HF w (fun _ => False) (([⟨tb, true, .row (treeR nb (mxP rs) (mxS rs)) 86 (0, 0)⟩, ⟨ca, true, .row [Pt tb 0] 63 (0, 0)⟩, ⟨cf, true, .row [.bool fx] 4 (0, 0)⟩] ++ Hn) ++ (KT2 ++ KB2)) w1 := fun KT2 KB2 T w1 h => by
    have h1 := h.sub (List.sublist_append_right T _)
    have h2 : HF w (fun _ => False) ([⟨cq, true, .row [S x.q] 9 (0, 0)⟩, ⟨cs, true, .row [S (x.r.getD [])] 9 (0, 0)⟩, ⟨ci, true, .row [.bool x.r.isSome] 4 (0, 0)⟩] ++ (([⟨tb, true, .row (treeR nb (mxP rs) (mxS rs)) 86 (0, 0)⟩, ⟨ca, true, .row [Pt tb 0] 63 (0, 0)⟩, ⟨cf, true, .row [.bool fx] 4 (0, 0)⟩] ++ Hn) ++ (KT2 ++ KB2))) w1 := h1.perm (List.Perm.trans (.of_eq (by simp)) ((perm_idx [([⟨ca, true, .row [Pt tb 0] 63 (0, 0)⟩] : SH), ([⟨cq, true, .row [S x.q] 9 (0, 0)⟩] : SH), ([⟨cf, true, .row [.bool fx] 4 (0, 0)⟩] : SH), ([⟨cs, true, .row [S (x.r.getD [])] 9 (0, 0)⟩] : SH), ([⟨ci, true, .row [.bool x.r.isSome] 4 (0, 0)⟩] : SH), ([⟨tb, true, .row (treeR nb (mxP rs) (mxS rs)) 86 (0, 0)⟩] : SH), Hn, KT2 ++ KB2] [0, 1, 2, 3, 4, 5, 6, 7] [1, 3, 4, 5, 0, 2, 6, 7] (by decide)).trans (.of_eq (by simp))))
    exact h2.sub (List.sublist_append_right [_, _, _] _)
   have hSb : ∀ (H : SH) w1, HF w (fun _ => False) H w1 → (⟨cs, true, .row [S (x.r.getD [])] 9 (0, 0)⟩ : Ent) ∈ H → (⟨ci, true, .row [.bool x.r.isSome] 4 (0, 0)⟩ : Ent) ∈ H → w1.cell? ⟨cs, 0, none⟩ = some (S (x.r.getD [])) ∧ w1.cell? ⟨ci, 0, none⟩ = some (.bool x.r.isSome) := fun H w1 hw h1 h2 => ⟨cell_row hw h1 rfl, cell_row hw h2 rfl⟩
   have htkT : (tl.take i).map (fun x => S (x.r.getD [])) ++ [S (x.r.getD [])] = (tl.take (i + 1)).map fun x => S (x.r.getD []) := by rw [List.take_add_one, hx]; simp
   have htkF : (tl.take i).map (fun x => Value.bool x.r.isSome) ++ [Value.bool x.r.isSome] = (tl.take (i + 1)).map fun x => Value.bool x.r.isSome := by rw [List.take_add_one, hx]; simp
   refine GC.regA (fun w1 : World => w1.cell? ⟨cs, 0, none⟩ = some (S (x.r.getD [])) ∧ w1.cell? ⟨ci, 0, none⟩ = some (.bool x.r.isSome)) mixed ?_
   refine GA.p 0 rfl (by kernel_rfl) (fun w1 hw1 => hSb _ w1 hw1 (by simp) (by simp)) (fun _ => V.mv rfl) rfl ?_
   refine GA.p 4 rfl (by kernel_rfl) (fun w1 hw1 => hSb _ w1 hw1 (by simp) (by simp)) (fun _ => V.mv rfl) rfl ?_
   refine GA.ld 1 (v := S (x.r.getD [])) rfl (by kernel_rfl) (fun w1 hw1 => hSb _ w1 hw1 (by simp) (by simp)) Tryd.isAgg9 rfl (fun w1 h => h.1) rfl ?_
   refine GA.ld 5 (v := .bool x.r.isSome) rfl (by kernel_rfl) (fun w1 hw1 => hSb _ w1 hw1 (by simp) (by simp)) Tryd.isAgg4 rfl (fun w1 h => h.2) rfl ?_
   refine GA.two 2 6 rfl rfl (by kernel_rfl) ?_ ?_
   ·refine GB.bs (BS.one Tryd.underlying27 Tryd.sizeOf9 Tryd.zeroValue9 (v := S (x.r.getD [])) rfl) rfl (fun w1 hw1 => hSb _ w1 hw1 (by simp) (by simp)) rfl (fun tb1 => ?_)
    refine GA.two 3 6 rfl rfl (by kernel_rfl) ?_ ?_
    ·refine GB.app (i := Tryd.t9) (sz := 1) (by_ := 16) Tryd.underlying27 rfl rfl rfl rfl rfl rfl rfl hownT (H' := ([⟨tb1, true, .row [S (x.r.getD [])] 9 (0, 0)⟩] : SH) ++ ([⟨ca, true, .row [Pt tb 0] 63 (0, 0)⟩, ⟨cq, true, .row [S x.q] 9 (0, 0)⟩, ⟨cf, true, .row [.bool fx] 4 (0, 0)⟩, ⟨cs, true, .row [S (x.r.getD [])] 9 (0, 0)⟩, ⟨ci, true, .row [.bool x.r.isSome] 4 (0, 0)⟩, ⟨tb, true, .row (treeR nb (mxP rs) (mxS rs)) 86 (0, 0)⟩] ++ Hn) ++ KB) (List.Perm.trans (.of_eq (by simp)) ((perm_idx [([⟨tb1, true, .row [S (x.r.getD [])] 9 (0, 0)⟩] : SH), (([⟨ca, true, .row [Pt tb 0] 63 (0, 0)⟩, ⟨cq, true, .row [S x.q] 9 (0, 0)⟩, ⟨cf, true, .row [.bool fx] 4 (0, 0)⟩, ⟨cs, true, .row [S (x.r.getD [])] 9 (0, 0)⟩, ⟨ci, true, .row [.bool x.r.isSome] 4 (0, 0)⟩, ⟨tb, true, .row (treeR nb (mxP rs) (mxS rs)) 86 (0, 0)⟩] ++ Hn) : SH), KT, KB] [0, 1, 2, 3] [2, 0, 1, 3] (by decide)).trans (.of_eq (by simp)))) (src_row (b := tb1) (wf := true) (vs := [S (x.r.getD [])]) (r := []) (t := 9) (fz := (0, 0)) (by simp)) rfl (by simp [Value.oneCell']) (by omega) (by omega) (by omega) (fun w1 hw1 => hSb _ w1 hw1 (by simp) (by simp)) rfl (fun svT2 KT2 hownT2 => ?_)
     refine GA.one 6 rfl (by kernel_rfl) ?_
     refine GB.bs (BS.one Tryd.underlying54 Tryd.sizeOf4 Tryd.zeroValue4 (v := .bool x.r.isSome) rfl) rfl (fun w1 hw1 => hSb _ w1 hw1 (by simp) (by simp)) rfl (fun tb2 => ?_)
     refine GA.one 7 rfl (by kernel_rfl) ?_
     refine GB.app (i := Tryd.t4) (sz := 1) (by_ := 1) Tryd.underlying54 rfl rfl rfl rfl rfl rfl rfl hownF (H' := ([⟨tb2, true, .row [.bool x.r.isSome] 4 (0, 0)⟩] : SH) ++ ([⟨tb1, true, .row [S (x.r.getD [])] 9 (0, 0)⟩] : SH) ++ ([⟨ca, true, .row [Pt tb 0] 63 (0, 0)⟩, ⟨cq, true, .row [S x.q] 9 (0, 0)⟩, ⟨cf, true, .row [.bool fx] 4 (0, 0)⟩, ⟨cs, true, .row [S (x.r.getD [])] 9 (0, 0)⟩, ⟨ci, true, .row [.bool x.r.isSome] 4 (0, 0)⟩, ⟨tb, true, .row (treeR nb (mxP rs) (mxS rs)) 86 (0, 0)⟩] ++ Hn) ++ KT2) (List.Perm.trans (.of_eq (by simp)) ((perm_idx [([⟨tb2, true, .row [.bool x.r.isSome] 4 (0, 0)⟩] : SH), ([⟨tb1, true, .row [S (x.r.getD [])] 9 (0, 0)⟩] : SH), (([⟨ca, true, .row [Pt tb 0] 63 (0, 0)⟩, ⟨cq, true, .row [S x.q] 9 (0, 0)⟩, ⟨cf, true, .row [.bool fx] 4 (0, 0)⟩, ⟨cs, true, .row [S (x.r.getD [])] 9 (0, 0)⟩, ⟨ci, true, .row [.bool x.r.isSome] 4 (0, 0)⟩, ⟨tb, true, .row (treeR nb (mxP rs) (mxS rs)) 86 (0, 0)⟩] ++ Hn) : SH), KB, KT2] [0, 1, 2, 3, 4] [3, 0, 1, 2, 4] (by decide)).trans (.of_eq (by simp)))) (src_row (b := tb2) (wf := true) (vs := [.bool x.r.isSome]) (r := []) (t := 4) (fz := (0, 0)) (by simp)) rfl (by simp [Value.oneCell']) (by omega) (by omega) (by omega) (fun w1 hw1 => hSb _ w1 hw1 (by simp) (by simp)) rfl (fun svF2 KB2 hownF2 => ?_)
     refine GA.p 8 rfl (by kernel_rfl) (fun w1 hw1 => hSb _ w1 hw1 (by simp) (by simp)) (fun _ => V.asg rfl) rfl ?_
     refine GA.p 9 rfl (by kernel_rfl) (fun w1 hw1 => hSb _ w1 hw1 (by simp) (by simp)) (fun _ => V.asg rfl) rfl ?_
     refine GA.done (by kernel_rfl) ?_
     refine J11 _ _ ⟨svT2, svF2, KT2, KB2, htkT ▸ hownT2, htkF ▸ hownF2, .of rfl, fun w1 h => ?_⟩
     have h2 : HF w (fun _ => False) ([⟨tb2, true, .row [.bool x.r.isSome] 4 (0, 0)⟩, ⟨tb1, true, .row [S (x.r.getD [])] 9 (0, 0)⟩] ++ (([⟨ca, true, .row [Pt tb 0] 63 (0, 0)⟩, ⟨cq, true, .row [S x.q] 9 (0, 0)⟩, ⟨cf, true, .row [.bool fx] 4 (0, 0)⟩, ⟨cs, true, .row [S (x.r.getD [])] 9 (0, 0)⟩, ⟨ci, true, .row [.bool x.r.isSome] 4 (0, 0)⟩, ⟨tb, true, .row (treeR nb (mxP rs) (mxS rs)) 86 (0, 0)⟩] ++ Hn) ++ (KT2 ++ KB2))) w1 := h.perm (List.Perm.trans (.of_eq (by simp)) ((perm_idx [([⟨tb2, true, .row [.bool x.r.isSome] 4 (0, 0)⟩] : SH), ([⟨tb1, true, .row [S (x.r.getD [])] 9 (0, 0)⟩] : SH), (([⟨ca, true, .row [Pt tb 0] 63 (0, 0)⟩, ⟨cq, true, .row [S x.q] 9 (0, 0)⟩, ⟨cf, true, .row [.bool fx] 4 (0, 0)⟩, ⟨cs, true, .row [S (x.r.getD [])] 9 (0, 0)⟩, ⟨ci, true, .row [.bool x.r.isSome] 4 (0, 0)⟩, ⟨tb, true, .row (treeR nb (mxP rs) (mxS rs)) 86 (0, 0)⟩] ++ Hn) : SH), KT2, KB2] [0, 1, 2, 3, 4] [0, 1, 2, 3, 4] (by decide)).trans (.of_eq (by simp))))
     exact fin11 _ _ _ _ h2
    ·refine GB.bs (BS.one Tryd.underlying54 Tryd.sizeOf4 Tryd.zeroValue4 (v := .bool x.r.isSome) rfl) rfl (fun w1 hw1 => hSb _ w1 hw1 (by simp) (by simp)) rfl (fun tb2 => ?_)
     refine GA.one 3 rfl (by kernel_rfl) ?_
     refine GB.app (i := Tryd.t9) (sz := 1) (by_ := 16) Tryd.underlying27 rfl rfl rfl rfl rfl rfl rfl hownT (H' := ([⟨tb2, true, .row [.bool x.r.isSome] 4 (0, 0)⟩] : SH) ++ ([⟨tb1, true, .row [S (x.r.getD [])] 9 (0, 0)⟩] : SH) ++ ([⟨ca, true, .row [Pt tb 0] 63 (0, 0)⟩, ⟨cq, true, .row [S x.q] 9 (0, 0)⟩, ⟨cf, true, .row [.bool fx] 4 (0, 0)⟩, ⟨cs, true, .row [S (x.r.getD [])] 9 (0, 0)⟩, ⟨ci, true, .row [.bool x.r.isSome] 4 (0, 0)⟩, ⟨tb, true, .row (treeR nb (mxP rs) (mxS rs)) 86 (0, 0)⟩] ++ Hn) ++ KB) (List.Perm.trans (.of_eq (by simp)) ((perm_idx [([⟨tb2, true, .row [.bool x.r.isSome] 4 (0, 0)⟩] : SH), ([⟨tb1, true, .row [S (x.r.getD [])] 9 (0, 0)⟩] : SH), (([⟨ca, true, .row [Pt tb 0] 63 (0, 0)⟩, ⟨cq, true, .row [S x.q] 9 (0, 0)⟩, ⟨cf, true, .row [.bool fx] 4 (0, 0)⟩, ⟨cs, true, .row [S (x.r.getD [])] 9 (0, 0)⟩, ⟨ci, true, .row [.bool x.r.isSome] 4 (0, 0)⟩, ⟨tb, true, .row (treeR nb (mxP rs) (mxS rs)) 86 (0, 0)⟩] ++ Hn) : SH), KT, KB] [0, 1, 2, 3, 4] [3, 0, 1, 2, 4] (by decide)).trans (.of_eq (by simp)))) (src_row (b := tb1) (wf := true) (vs := [S (x.r.getD [])]) (r := []) (t := 9) (fz := (0, 0)) (by simp)) rfl (by simp [Value.oneCell']) (by omega) (by omega) (by omega) (fun w1 hw1 => hSb _ w1 hw1 (by simp) (by simp)) rfl (fun svT2 KT2 hownT2 => ?_)
     refine GA.one 7 rfl (by kernel_rfl) ?_
     refine GB.app (i := Tryd.t4) (sz := 1) (by_ := 1) Tryd.underlying54 rfl rfl rfl rfl rfl rfl rfl hownF (H' := ([⟨tb2, true, .row [.bool x.r.isSome] 4 (0, 0)⟩] : SH) ++ ([⟨tb1, true, .row [S (x.r.getD [])] 9 (0, 0)⟩] : SH) ++ ([⟨ca, true, .row [Pt tb 0] 63 (0, 0)⟩, ⟨cq, true, .row [S x.q] 9 (0, 0)⟩, ⟨cf, true, .row [.bool fx] 4 (0, 0)⟩, ⟨cs, true, .row [S (x.r.getD [])] 9 (0, 0)⟩, ⟨ci, true, .row [.bool x.r.isSome] 4 (0, 0)⟩, ⟨tb, true, .row (treeR nb (mxP rs) (mxS rs)) 86 (0, 0)⟩] ++ Hn) ++ KT2) (List.Perm.trans (.of_eq (by simp)) ((perm_idx [([⟨tb2, true, .row [.bool x.r.isSome] 4 (0, 0)⟩] : SH), ([⟨tb1, true, .row [S (x.r.getD [])] 9 (0, 0)⟩] : SH), (([⟨ca, true, .row [Pt tb 0] 63 (0, 0)⟩, ⟨cq, true, .row [S x.q] 9 (0, 0)⟩, ⟨cf, true, .row [.bool fx] 4 (0, 0)⟩, ⟨cs, true, .row [S (x.r.getD [])] 9 (0, 0)⟩, ⟨ci, true, .row [.bool x.r.isSome] 4 (0, 0)⟩, ⟨tb, true, .row (treeR nb (mxP rs) (mxS rs)) 86 (0, 0)⟩] ++ Hn) : SH), KB, KT2] [0, 1, 2, 3, 4] [3, 0, 1, 2, 4] (by decide)).trans (.of_eq (by simp)))) (src_row (b := tb2) (wf := true) (vs := [.bool x.r.isSome]) (r := []) (t := 4) (fz := (0, 0)) (by simp)) rfl (by simp [Value.oneCell']) (by omega) (by omega) (by omega) (fun w1 hw1 => hSb _ w1 hw1 (by simp) (by simp)) rfl (fun svF2 KB2 hownF2 => ?_)
     refine GA.p 8 rfl (by kernel_rfl) (fun w1 hw1 => hSb _ w1 hw1 (by simp) (by simp)) (fun _ => V.asg rfl) rfl ?_
     refine GA.p 9 rfl (by kernel_rfl) (fun w1 hw1 => hSb _ w1 hw1 (by simp) (by simp)) (fun _ => V.asg rfl) rfl ?_
     refine GA.done (by kernel_rfl) ?_
     refine J11 _ _ ⟨svT2, svF2, KT2, KB2, htkT ▸ hownT2, htkF ▸ hownF2, .of rfl, fun w1 h => ?_⟩
     have h2 : HF w (fun _ => False) ([⟨tb2, true, .row [.bool x.r.isSome] 4 (0, 0)⟩, ⟨tb1, true, .row [S (x.r.getD [])] 9 (0, 0)⟩] ++ (([⟨ca, true, .row [Pt tb 0] 63 (0, 0)⟩, ⟨cq, true, .row [S x.q] 9 (0, 0)⟩, ⟨cf, true, .row [.bool fx] 4 (0, 0)⟩, ⟨cs, true, .row [S (x.r.getD [])] 9 (0, 0)⟩, ⟨ci, true, .row [.bool x.r.isSome] 4 (0, 0)⟩, ⟨tb, true, .row (treeR nb (mxP rs) (mxS rs)) 86 (0, 0)⟩] ++ Hn) ++ (KT2 ++ KB2))) w1 := h.perm (List.Perm.trans (.of_eq (by simp)) ((perm_idx [([⟨tb2, true, .row [.bool x.r.isSome] 4 (0, 0)⟩] : SH), ([⟨tb1, true, .row [S (x.r.getD [])] 9 (0, 0)⟩] : SH), (([⟨ca, true, .row [Pt tb 0] 63 (0, 0)⟩, ⟨cq, true, .row [S x.q] 9 (0, 0)⟩, ⟨cf, true, .row [.bool fx] 4 (0, 0)⟩, ⟨cs, true, .row [S (x.r.getD [])] 9 (0, 0)⟩, ⟨ci, true, .row [.bool x.r.isSome] 4 (0, 0)⟩, ⟨tb, true, .row (treeR nb (mxP rs) (mxS rs)) 86 (0, 0)⟩] ++ Hn) : SH), KT2, KB2] [0, 1, 2, 3, 4] [0, 1, 2, 3, 4] (by decide)).trans (.of_eq (by simp))))
     exact fin11 _ _ _ _ h2
   ·refine GB.bs (BS.one Tryd.underlying54 Tryd.sizeOf4 Tryd.zeroValue4 (v := .bool x.r.isSome) rfl) rfl (fun w1 hw1 => hSb _ w1 hw1 (by simp) (by simp)) rfl (fun tb2 => ?_)
    refine GA.one 2 rfl (by kernel_rfl) ?_
    refine GB.bs (BS.one Tryd.underlying27 Tryd.sizeOf9 Tryd.zeroValue9 (v := S (x.r.getD [])) rfl) rfl (fun w1 hw1 => hSb _ w1 hw1 (by simp) (by simp)) rfl (fun tb1 => ?_)
    refine GA.one 3 rfl (by kernel_rfl) ?_
    refine GB.app (i := Tryd.t9) (sz := 1) (by_ := 16) Tryd.underlying27 rfl rfl rfl rfl rfl rfl rfl hownT (H' := ([⟨tb1, true, .row [S (x.r.getD [])] 9 (0, 0)⟩] : SH) ++ ([⟨tb2, true, .row [.bool x.r.isSome] 4 (0, 0)⟩] : SH) ++ ([⟨ca, true, .row [Pt tb 0] 63 (0, 0)⟩, ⟨cq, true, .row [S x.q] 9 (0, 0)⟩, ⟨cf, true, .row [.bool fx] 4 (0, 0)⟩, ⟨cs, true, .row [S (x.r.getD [])] 9 (0, 0)⟩, ⟨ci, true, .row [.bool x.r.isSome] 4 (0, 0)⟩, ⟨tb, true, .row (treeR nb (mxP rs) (mxS rs)) 86 (0, 0)⟩] ++ Hn) ++ KB) (List.Perm.trans (.of_eq (by simp)) ((perm_idx [([⟨tb1, true, .row [S (x.r.getD [])] 9 (0, 0)⟩] : SH), ([⟨tb2, true, .row [.bool x.r.isSome] 4 (0, 0)⟩] : SH), (([⟨ca, true, .row [Pt tb 0] 63 (0, 0)⟩, ⟨cq, true, .row [S x.q] 9 (0, 0)⟩, ⟨cf, true, .row [.bool fx] 4 (0, 0)⟩, ⟨cs, true, .row [S (x.r.getD [])] 9 (0, 0)⟩, ⟨ci, true, .row [.bool x.r.isSome] 4 (0, 0)⟩, ⟨tb, true, .row (treeR nb (mxP rs) (mxS rs)) 86 (0, 0)⟩] ++ Hn) : SH), KT, KB] [0, 1, 2, 3, 4] [3, 0, 1, 2, 4] (by decide)).trans (.of_eq (by simp)))) (src_row (b := tb1) (wf := true) (vs := [S (x.r.getD [])]) (r := []) (t := 9) (fz := (0, 0)) (by simp)) rfl (by simp [Value.oneCell']) (by omega) (by omega) (by omega) (fun w1 hw1 => hSb _ w1 hw1 (by simp) (by simp)) rfl (fun svT2 KT2 hownT2 => ?_)
    refine GA.one 7 rfl (by kernel_rfl) ?_
    refine GB.app (i := Tryd.t4) (sz := 1) (by_ := 1) Tryd.underlying54 rfl rfl rfl rfl rfl rfl rfl hownF (H' := ([⟨tb1, true, .row [S (x.r.getD [])] 9 (0, 0)⟩] : SH) ++ ([⟨tb2, true, .row [.bool x.r.isSome] 4 (0, 0)⟩] : SH) ++ ([⟨ca, true, .row [Pt tb 0] 63 (0, 0)⟩, ⟨cq, true, .row [S x.q] 9 (0, 0)⟩, ⟨cf, true, .row [.bool fx] 4 (0, 0)⟩, ⟨cs, true, .row [S (x.r.getD [])] 9 (0, 0)⟩, ⟨ci, true, .row [.bool x.r.isSome] 4 (0, 0)⟩, ⟨tb, true, .row (treeR nb (mxP rs) (mxS rs)) 86 (0, 0)⟩] ++ Hn) ++ KT2) (List.Perm.trans (.of_eq (by simp)) ((perm_idx [([⟨tb1, true, .row [S (x.r.getD [])] 9 (0, 0)⟩] : SH), ([⟨tb2, true, .row [.bool x.r.isSome] 4 (0, 0)⟩] : SH), (([⟨ca, true, .row [Pt tb 0] 63 (0, 0)⟩, ⟨cq, true, .row [S x.q] 9 (0, 0)⟩, ⟨cf, true, .row [.bool fx] 4 (0, 0)⟩, ⟨cs, true, .row [S (x.r.getD [])] 9 (0, 0)⟩, ⟨ci, true, .row [.bool x.r.isSome] 4 (0, 0)⟩, ⟨tb, true, .row (treeR nb (mxP rs) (mxS rs)) 86 (0, 0)⟩] ++ Hn) : SH), KB, KT2] [0, 1, 2, 3, 4] [3, 0, 1, 2, 4] (by decide)).trans (.of_eq (by simp)))) (src_row (b := tb2) (wf := true) (vs := [.bool x.r.isSome]) (r := []) (t := 4) (fz := (0, 0)) (by simp)) rfl (by simp [Value.oneCell']) (by omega) (by omega) (by omega) (fun w1 hw1 => hSb _ w1 hw1 (by simp) (by simp)) rfl (fun svF2 KB2 hownF2 => ?_)
    refine GA.p 8 rfl (by kernel_rfl) (fun w1 hw1 => hSb _ w1 hw1 (by simp) (by simp)) (fun _ => V.asg rfl) rfl ?_
    refine GA.p 9 rfl (by kernel_rfl) (fun w1 hw1 => hSb _ w1 hw1 (by simp) (by simp)) (fun _ => V.asg rfl) rfl ?_
    refine GA.done (by kernel_rfl) ?_
    refine J11 _ _ ⟨svT2, svF2, KT2, KB2, htkT ▸ hownT2, htkF ▸ hownF2, .of rfl, fun w1 h => ?_⟩
    have h2 : HF w (fun _ => False) ([⟨tb1, true, .row [S (x.r.getD [])] 9 (0, 0)⟩, ⟨tb2, true, .row [.bool x.r.isSome] 4 (0, 0)⟩] ++ (([⟨ca, true, .row [Pt tb 0] 63 (0, 0)⟩, ⟨cq, true, .row [S x.q] 9 (0, 0)⟩, ⟨cf, true, .row [.bool fx] 4 (0, 0)⟩, ⟨cs, true, .row [S (x.r.getD [])] 9 (0, 0)⟩, ⟨ci, true, .row [.bool x.r.isSome] 4 (0, 0)⟩, ⟨tb, true, .row (treeR nb (mxP rs) (mxS rs)) 86 (0, 0)⟩] ++ Hn) ++ (KT2 ++ KB2))) w1 := h.perm (List.Perm.trans (.of_eq (by simp)) ((perm_idx [([⟨tb1, true, .row [S (x.r.getD [])] 9 (0, 0)⟩] : SH), ([⟨tb2, true, .row [.bool x.r.isSome] 4 (0, 0)⟩] : SH), (([⟨ca, true, .row [Pt tb 0] 63 (0, 0)⟩, ⟨cq, true, .row [S x.q] 9 (0, 0)⟩, ⟨cf, true, .row [.bool fx] 4 (0, 0)⟩, ⟨cs, true, .row [S (x.r.getD [])] 9 (0, 0)⟩, ⟨ci, true, .row [.bool x.r.isSome] 4 (0, 0)⟩, ⟨tb, true, .row (treeR nb (mxP rs) (mxS rs)) 86 (0, 0)⟩] ++ Hn) : SH), KT2, KB2] [0, 1, 2, 3, 4] [0, 1, 2, 3, 4] (by decide)).trans (.of_eq (by simp))))
    exact fin11 _ _ _ _ h2
  rintro fr' H' ⟨svT2, svF2, KT2, KB2, hownT2, hownF2, hs11, hH11⟩
  refine GC.weak hs11 ?_
  clear hs11
  refine GC.turn hH11 ?_
  refine GC.inBlock ?_
  refine GC.reg ?_
  refine G.v (V.addI (r := ((i + 1 : Nat) : Int)) rfl rfl rfl (by omega) (by omega)) rfl ?_
  refine G.m1 ?_
  refine G.nil ?_
  exact ih (N - 1) _ _ (by omega) ⟨i + 1, svT2, svF2, KT2, KB2, by omega, hownT2, hownF2, .of rfl, rfl⟩
 refine GC.exit rfl ?_
 refine GC.seq ?_
 have hie : i = tl.length := by omega
 subst hie
 rw [List.take_length] at hownT hownF
 refine GC.reg ?_
 refine G.m1 ?_
 refine G.m1 ?_
 refine G.m2 ?_
 refine G.m2 ?_
 refine G.m2 ?_
 refine G.nil ?_
 exact GC.ret3 rfl rfl rfl rfl fun w' hw' => ⟨_, _, KT, KB, rfl, hownT, hownF, hw'.sub (List.sublist_append_right _ _)⟩
end Go.Proofs

/- bufApp: a path that is made anew only where it parts from the text. Printed by wip/mk_gs5.py. -/
namespace Go.Proofs
open Go Bw
set_option maxRecDepth 20000
/-- what has been written: 'out'; M: how much may be written -/
def BufSt (p : List UInt8) (M : Nat) (out : List UInt8) (sv : Value) (Hb : SH) : Prop :=
 ∃ (b m : Nat) (l : List UInt8), sv = .slice (some ⟨b, 0, none⟩) m l.length ∧ Hb = [⟨b, true, .row (bC l) 5 (0, 0)⟩] ∧ out.length ≤ M ∧
  ((m = 0 ∧ l.length = 128 ∧ M = p.length ∧ out = p.take out.length) ∨ (0 < m ∧ m = M ∧ M ≤ l.length ∧ l.take out.length = out))
theorem setL_bC {l : List UInt8} {i : Nat} {x : UInt8} : setL (bC l) (0 + i * 1) (.int .u8 (x.toNat : Int)) = bC (l.set i x) := by
 rw [setL_set, Nat.zero_add, Nat.mul_one]
 simp [bC, Lib.byteCells, List.map_set]
theorem take_set {l : List UInt8} {out : List UInt8} {x : UInt8} (h : l.take out.length = out) (hl : out.length < l.length) : (l.set out.length x).take (out ++ [x]).length = out ++ [x] := by
 rw [List.length_append, List.length_singleton, List.take_set, List.take_add_one, h, List.getElem?_eq_getElem hl]
 simp
theorem s39_any (w : World) (D : Nat → Prop) (vb M : Nat) (p out : List UInt8) (ch : UInt8) (sv : Value) (Hb : SH) (hH : HF w D (⟨vb, true, .row [sv] 44 (0, 0)⟩ :: Hb) w) (hB : BufSt p M out sv Hb) (hlt : out.length < M) (hp : p.length ≤ 5000) :
  Calls Tryd.prog 60 #[Pt vb 0, S p, I (out.length : Nat), .int .u8 (ch.toNat : Int)] w fun e w' => e = .returned (.tuple #[]) ∧ ∃ sv' Hb', BufSt p M (out ++ [ch]) sv' Hb' ∧ (∀ x ∈ Hb', x.w = true) ∧ HF w D (⟨vb, true, .row [sv'] 44 (0, 0)⟩ :: Hb') w' := by
 refine enter D (⟨vb, true, .row [sv] 44 (0, 0)⟩ :: Hb) Tryd.func60 rfl Tryd.ntmps60 rfl rfl hH fun c hc => ?_
 subst hc
 obtain ⟨b, m, l, rfl, rfl, hoM, hcase⟩ := hB
 refine GC.seq ?_
 refine GC.reg ?_
 refine G.m1 ?_
 refine G.v (V.nc rfl) rfl ?_
 refine G.v (V.ld (b := vb) (off := 0) (wf := true) (l := [.slice (some ⟨b, 0, none⟩) m l.length]) (T := 44) (fz := (0, 0)) (v := .slice (some ⟨b, 0, none⟩) m l.length) Tryd.isAgg44 rfl (.head _) rfl) rfl ?_
 refine G.m2 ?_
 refine G.nil ?_
 refine GC.seq ?_
 refine GC.seq ?_
 refine GC.reg ?_
 refine G.m1 ?_
 refine G.v (V.lenL Tryd.underlying44 rfl) rfl ?_
 refine G.v (V.eqI rfl rfl) rfl ?_
 refine G.nil ?_
 refine GC.join (fun fr' H' => ∃ (b2 : Nat) (l2 : List UInt8), M ≤ l2.length ∧ 0 < M ∧ l2.take out.length = out ∧ Sub [(0, Pt vb 0), (1, S p), (2, I (out.length : Nat)), (3, .int .u8 (ch.toNat : Int)), (8, .slice (some ⟨b2, 0, none⟩) M l2.length)] fr' ∧ ⟨vb, true, .row [.slice (some ⟨b2, 0, none⟩) M l2.length] 44 (0, 0)⟩ :: [⟨b2, true, .row (bC l2) 5 (0, 0)⟩] = H') (fun J15 => ?_) ?_
 ·refine GC.condD rfl (fun h15 => ?_) (fun h15 => ?_)
  ·refine GC.seq ?_
   refine GC.seq ?_
   obtain ⟨hm, hl, rfl, hout⟩ : m = 0 ∧ l.length = 128 ∧ M = p.length ∧ out = p.take out.length := by
    rcases hcase with h | h
    ·exact h
    ·omega
   subst hm
   obtain ⟨x, hx⟩ : ∃ x, p[out.length]? = some x := ⟨_, List.getElem?_eq_getElem hlt⟩
   refine GC.reg ?_
   refine G.m1 ?_
   refine G.m1 ?_
   refine G.v (V.idx (i := out.length) (b := x) Tryd.underlying9 rfl rfl hx) rfl ?_
   refine G.m1 ?_
   refine G.v (V.eqI rfl rfl) rfl ?_
   refine G.nil ?_
   refine GC.condD rfl (fun h20 => ?_) (fun h20 => ?_)
   ·exact GC.ret0 rfl fun w' hw' => ⟨rfl, _, _, ⟨b, 0, l, rfl, rfl, by simp; omega, .inl ⟨rfl, hl, rfl, by rw [List.length_append, List.length_singleton, List.take_add_one, hx, ← hout, UInt8.toNat_inj.1 (show x.toNat = ch.toNat by omega)]; rfl⟩⟩, by simp, hw'⟩
   refine GC.skip ?_
   refine GC.seq ?_
   refine GC.reg ?_
   refine G.m1 ?_
   refine G.v (V.lenS Tryd.underlying9 rfl) rfl ?_
   refine G.m2 ?_
   refine G.nil ?_
   refine GC.seq ?_
   refine GC.seq ?_
   refine GC.reg ?_
   refine G.m1 ?_
   refine G.m1 ?_
   refine G.v (V.capL Tryd.underlying44 rfl) rfl ?_
   refine G.v (V.gt rfl rfl) rfl ?_
   refine G.nil ?_
   refine GC.join (fun fr' H' => ∃ (b2 : Nat) (l2 : List UInt8), p.length ≤ l2.length ∧ Sub [(0, Pt vb 0), (1, S p), (2, I (out.length : Nat)), (3, .int .u8 (ch.toNat : Int)), (8, .slice (some ⟨b, 0, none⟩) 0 l.length), (9, I (p.length : Nat))] fr' ∧ (∀ w1, HF w D H' w1 → HF w D (⟨vb, true, .row [.slice (some ⟨b2, 0, none⟩) p.length l2.length] 44 (0, 0)⟩ :: [⟨b2, true, .row (bC l2) 5 (0, 0)⟩]) w1)) (fun J26 => ?_) ?_
   ·refine GC.condD rfl (fun h26 => ?_) (fun h26 => ?_)
    ·refine GC.reg ?_
     refine G.m1 ?_
     refine G.m1 ?_
     refine G.new (kb := .row (bC (List.replicate p.length 0)) 5 (0, 0)) (v := fun b => .slice (some ⟨b, 0, none⟩) p.length p.length) (fun a w1 ha hw1 => mkB (i5 := Tryd.t5) Tryd.underlying44 rfl rfl rfl rfl ha rfl rfl (Nat.le_refl _) (by omega)) rfl (fun b2 hb2 => ?_)
     refine G.v (V.nc rfl) rfl ?_
     refine G.st Tryd.sizeOf44 rfl rfl rfl (.s .z) rfl rfl ?_
     refine G.nil ?_
     have e : (List.replicate p.length (0 : UInt8)).length = p.length := List.length_replicate
     refine J26 _ _ ⟨b2, List.replicate p.length 0, by rw [e]; exact Nat.le_refl _, .of rfl, fun w1 h => ?_⟩
     rw [e]
     have h2 := (h.perm (List.Perm.swap _ _ _))
     exact h2.sub (by simp [setL])
    refine GC.reg ?_
    refine G.m1 ?_
    refine G.m1 ?_
    refine G.v (V.nc rfl) rfl ?_
    refine G.v (V.ld (b := vb) (off := 0) (wf := true) (T := 44) (fz := (0, 0)) (v := .slice (some ⟨b, 0, none⟩) 0 l.length) Tryd.isAgg44 rfl (.head _) rfl) rfl ?_
    refine G.m1 ?_
    refine G.v (V.slTH (i := p.length) Tryd.underlying44 Tryd.sizeOf5 rfl rfl (by omega)) rfl ?_
    refine G.v (V.nc rfl) rfl ?_
    refine G.st Tryd.sizeOf44 rfl rfl rfl .z rfl rfl ?_
    refine G.nil ?_
    exact J26 _ _ ⟨b, l, by omega, .of rfl, fun w1 h => h⟩
   rintro fr' H' ⟨b2, l2, hM, hs26, hH2⟩
   refine GC.weak hs26 ?_
   clear hs26
   refine GC.turn hH2 ?_
   refine GC.seq ?_
   refine GC.reg ?_
   refine G.m1 ?_
   refine G.v (V.nc rfl) rfl ?_
   refine G.v (V.ld (b := vb) (off := 0) (wf := true) (l := [.slice (some ⟨b2, 0, none⟩) p.length l2.length]) (T := 44) (fz := (0, 0)) (v := .slice (some ⟨b2, 0, none⟩) p.length l2.length) Tryd.isAgg44 rfl (.head _) rfl) rfl ?_
   refine G.m2 ?_
   refine G.nil ?_
   refine GC.reg ?_
   refine G.m1 ?_
   refine G.m1 ?_
   refine G.m1 ?_
   refine G.v (V.slH (j := out.length) Tryd.underlying9 rfl rfl (by omega)) rfl ?_
   rw [← hout]
   refine G.copyS (i := 1) (l := l2) Tryd.underlying44 rfl rfl rfl (.s .z) (by omega) (by omega) rfl ?_
   refine G.nil ?_
   have e : (out ++ l2.drop out.length).length = l2.length := by simp; omega
   exact J15 _ _ ⟨b2, out ++ l2.drop out.length, by rw [e]; exact hM, by omega, by simp, by rw [e]; exact .of rfl, by rw [e]; rfl⟩
  refine GC.skip ?_
  obtain ⟨h1, h2, h3, h4⟩ : 0 < m ∧ m = M ∧ M ≤ l.length ∧ l.take out.length = out := by
   rcases hcase with h | h
   ·omega
   ·exact h
  subst h2
  exact J15 _ _ ⟨b, l, h3, h1, h4, .of rfl, rfl⟩
 rintro fr' H' ⟨b2, l2, hM, hM0, htk, hs15, rfl⟩
 refine GC.weak hs15 ?_
 clear hs15
 refine GC.reg ?_
 refine G.m1 ?_
 refine G.m1 ?_
 refine G.m1 ?_
 refine G.v (V.ia (i := out.length) Tryd.underlying44 Tryd.sizeOf5 rfl rfl hlt) rfl ?_
 refine G.st (b := b2) (off := 0 + out.length * 1) (l := bC l2) (T := 5) (fz := (0, 0)) Tryd.sizeOf5 rfl rfl rfl (.s .z) (by rw [nth_eq, Nat.zero_add, Nat.mul_one, List.getElem?_eq_getElem (by rw [bC_len]; omega)]; rfl) rfl ?_
 rw [setL_bC]
 refine G.nil ?_
 exact GC.end0 rfl fun w' hw' => ⟨rfl, _, _, ⟨b2, M, l2.set out.length ch, by rw [List.length_set], rfl, by simp; omega, .inr ⟨hM0, rfl, by rw [List.length_set]; exact hM, take_set htk (by omega)⟩⟩, by simp, hw'⟩
end Go.Proofs
