/- The law FnEchoRoutes holds for every input: a router tells the routes that were added, of equal methods and paths the last one. -/
import Derived.Test.YtekclaobeccbdaaDoorBs
import Derived.Test.YtekclaobeccbdaaDoorBq
import Derived.Test.YtekclaobeccbdaaDoorBj
import Derived.Test.YtekclaobeccbdaaDoorBl
import Derived.Shelf.SlSortCmp.NoneTotal
import Derived.Test.YtekclaobeccbdaaDoorBk
/- FnEchoRoutes. Printed by wip/mk_i7.py. -/
namespace Go.Proofs
open Go Bw
set_option maxRecDepth 20000

theorem _root_.Bw.V.slTn {P : Program} {c : Cx} {n : Nat} {fr : SF} {H : SH} {ty t e : TypeId} {x y : Operand} {ad : Option Addr} {len cp i s : Nat} {kd : IntKind} (hU : P.underlying t = some (.slice e)) (hs : ∀ w, (Go.sizeOf e).run P w = .ok s w) (hx : ev fr x = some (.slice ad len cp)) (hy : ev fr y = some (.int kd (i : Int))) (hi : i ≤ len) (_hc : len ≤ cp) :
    Val P c n (.slice t x (some y) none none) ty fr H (.slice (if cp = i then ad else ad.map (·.add (i * s))) (len - i) (cp - i)) := by
  intro a w ha hw dst pos aft g
  simp [execOp, ha.eval hx, ha.eval hy, Instr.sliceAt, Instr.slice, underlying, hU, Instr.sliceBounds, Instr.sliceBound, asIntOf, hi, hs]
theorem eq23 (a b c : List UInt8) (w : World) : (Op.equal 23 (.agg #[S a, S b, S c]) (.agg #[S a, S b, S c])).run Tryd.prog w = .ok true w := by
  have h : ∀ n : Nat, (Op.equalIn (n + 1 + 1) 23 (.agg #[S a, S b, S c]) (.agg #[S a, S b, S c])).run Tryd.prog w = .ok true w := fun n => by
    have e : ∀ x : List UInt8, ((⟨x.toArray⟩ : ByteArray) == ⟨x.toArray⟩) = true := fun x => by
      show (x.toArray == x.toArray) = true
      simp
    simp [Op.equalIn, Tryd.runUnderlying23, Tryd.runUnderlying9, part, Tryd.isAgg9, e]
  exact h 9998
theorem _root_.Bw.V.neR {c : Cx} {n : Nat} {fr : SF} {H : SH} {ty u : TypeId} {x y : Operand} {r : RB} (hx : ev fr x = some (.agg r.cells.toArray)) (hy : ev fr y = some (.agg r.cells.toArray)) : Val Tryd.prog c n (.binOp .neq 23 x y u) ty fr H (.bool false) := by
  intro a w ha hw dst pos aft g
  have := eq23 r.m r.p r.nm w
  simp [execOp, ha.eval hx, ha.eval hy, eqGuard, binOp, RB.cells, this]
theorem _root_.Bw.V.neI0 {P : Program} {c : Cx} {n : Nat} {fr : SF} {H : SH} {ty t u : TypeId} {x y : Operand} {k : IntKind} {i : Int} (hx : ev fr x = some (.int k i)) (hy : ev fr y = some (.int k i)) : Val P c n (.binOp .neq t x y u) ty fr H (.bool false) := by
  have h : Val P c n (.binOp .neq t x y u) ty fr H _ := V.neI hx hy
  simpa using h
theorem _root_.Bw.V.ldAR {P : Program} {c : Cx} {n : Nat} {fr : SF} {H : SH} {ty t : TypeId} {x : Operand} {b off s : Nat} {cs : List Value} (hA : ∀ w, (isAgg t).run P w = .ok true w) (hs : ∀ w, (Go.sizeOf t).run P w = .ok s w) (hx : ev fr x = some (Pt b off)) (hc : ∀ w, HF c.w0 c.D H w → ∀ k v, cs[k]? = some v → w.cell? ⟨b, off + k, none⟩ = some v) (hl : cs.length = s) : Val P c n (.load t x) ty fr H (.agg cs.toArray) := by
  intro a w ha hw dst pos aft g
  have hc' : ∀ j v, cs[j]? = some v → w.cell? ((⟨b, off, none⟩ : Addr).add j) = some v := by
    intro j v hj
    have h2 := hc w hw j v hj
    by_cases h0 : j = 0
    · subst h0; simpa [Addr.add] using h2
    · simpa [Addr.add, h0] using h2
  have hrun := run_loadCells_list (P := P) (w := w) ⟨b, off, none⟩ cs hc'
  simp [execOp, ha.eval hx, Instr.loadAt, Instr.sureAddr, loadVar, hA, hs, ← hl, hrun]
theorem sort_any (w : World) (sv : Value) (L : List RB) (Hs : SH) (hown : Own 23 3 sv L.length (L.flatMap RB.cells) Hs) (hlen : L.length ≤ 1000) (w0 : World) (D : Nat → Prop) (H : SH) (hw : HF w0 D (Hs ++ H) w) :
    Calls Tryd.prog 29 #[sv, .func (.func 30) #[] #[]] w fun e w' => e = .returned (.tuple #[]) ∧ ∃ (L' : List RB) (Hs' : SH), L'.Perm L ∧ L'.Pairwise (fun x y => ¬ ltR y x) ∧ Own 23 3 sv L.length (L'.flatMap RB.cells) Hs' ∧ HF w0 D (Hs' ++ H) w' := by
  cases L with
  | nil =>
    obtain ⟨ad, cap, rfl⟩ := hown.slice
    have h := AnyF.slices_SortFunc_none Tryd.sortF29 ad cap (.func (.func 30) #[] #[]) w
    change Calls Tryd.prog 29 _ _ _ at h
    exact h.mono fun e w' ⟨h1, h2⟩ => ⟨h1, [], Hs, .refl _, .nil, hown, by rw [h2]; exact hw⟩
  | cons x L =>
    obtain ⟨b, cap, sp, rfl, rfl⟩ := hown.at (i := 0) (by simp)
    have hb := hw.has _ (.head _)
    refine (sort_rows w b cap (x :: L) sp hb hlen).mono fun e w' ⟨h1, L', h2, h3, h4⟩ => ⟨h1, L', [⟨b, true, .row (L'.flatMap RB.cells ++ sp) 23 (0, 0)⟩], h2, h3, ?_, h4 _ _ _ hw⟩
    have hl2 : (L'.flatMap RB.cells).length = ((x :: L).flatMap RB.cells).length := by rw [flat_len', flat_len', h2.length_eq]
    exact hown.turn hl2
theorem rts_drop {w : World} {ad : Option Addr} {Rs : List RB} {cp i : Nat} (h : RtsAt w ad Rs) (hc : Rs.length ≤ cp) : RtsAt w (if cp = i then ad else ad.map (·.add (i * 3))) (Rs.drop i) := by
  intro j r hr
  rw [List.getElem?_drop] at hr
  have hl := (List.getElem?_eq_some_iff.1 hr).1
  obtain ⟨b, o, rfl, hcell⟩ := h _ r hr
  rw [if_neg (by omega)]
  refine ⟨b, o + i * 3, by simp [Addr.add], fun k v hk => ?_⟩
  have := hcell k v hk
  rw [show o + i * 3 + j * 3 + k = o + (i + j) * 3 + k by omega]
  exact this
theorem f7_any (w : World) (ad : Option Addr) (cp : Nat) (Rs : List RB) (hat : RtsAt w ad Rs) (hcp : Rs.length ≤ cp) :
    Calls Tryd.prog 7 #[.slice ad Rs.length cp] w fun e w' => e = .returned (.bool true) ∧ HF w (fun _ => False) [] w' := by
  refine enter (fun _ => False) [] Tryd.func7 rfl Tryd.ntmps7 rfl rfl (HF.start w _) fun c hc => ?_
  subst hc
  refine GC.seq ?_
  refine GC.reg ?_  -- region 0, echo.go:252
  refine G.v (V.asg rfl) rfl ?_
  refine G.nil ?_
  refine GC.seq ?_
  refine GC.seq ?_
  refine GC.reg ?_  -- region 1, echo.go:253
  refine G.v (V.mv rfl) rfl ?_
  refine G.callP Tryd.call23 rfl rfl (fun w1 hw1 => f23_any w1 ad cp Rs (fun i r hr => by obtain ⟨b, o, h1, h2⟩ := hat i r hr; exact ⟨b, o, h1, fun j v hj => hw1.cellOld (h2 j v hj) id⟩)) ?_
  refine G.v (V.not rfl) rfl ?_
  refine G.nil ?_
  refine GC.cond rfl (fun h11 => ?_) (fun h11 => ?_)
  · refine GC.seq ?_
    refine GC.reg ?_  -- region 2, echo.go:254
    refine G.v (V.asg rfl) rfl ?_
    refine G.nil ?_
    exact GC.ret1 rfl rfl fun w' hw' => ⟨rfl, hw'.sub (List.nil_sublist _)⟩
  refine GC.skip ?_
  refine GC.seq ?_
  refine GC.seq ?_
  refine GC.reg ?_  -- region 3, echo.go:256
  refine G.v (V.mv rfl) rfl ?_
  refine G.callW (fun v H2 => ∃ b : Bool, (b = true ↔ Right Rs) ∧ v = .bool b ∧ H2 = []) Tryd.call14 rfl rfl (fun w1 hw1 => ?_) ?_
  · refine (f14_any w1 ad cp Rs (fun i r hr => by obtain ⟨b, o, h1, h2⟩ := hat i r hr; exact ⟨b, o, h1, fun j v hj => hw1.cellOld (h2 j v hj) id⟩)).mono fun e w' ⟨b, h1, h2, h3⟩ => ⟨_, _, h2, ?_, b, h1, rfl, rfl⟩
    exact hw1.after0 h3 (fun e he => by cases he)
  rintro v H2 ⟨br, hbr, rfl, rfl⟩
  refine G.v (V.not rfl) rfl ?_
  refine G.v (V.mv rfl) rfl ?_
  refine G.bc 15 rfl (fun h15 => ?_) (fun h15 => ?_)
  · refine G.sg rfl rfl rfl rfl rfl rfl ?_
    refine G.sg rfl rfl rfl rfl rfl rfl ?_
    refine G.sg rfl rfl rfl rfl rfl rfl ?_
    refine G.v (V.pickT rfl rfl) rfl ?_
    refine G.nil ?_
    refine GC.condT rfl ?_
    refine GC.seq ?_
    refine GC.reg ?_  -- region 4, echo.go:257
    refine G.callP Tryd.call16 rfl rfl (fun w1 hw1 => f16_any w1) ?_
    refine G.v (V.asg rfl) rfl ?_
    refine G.nil ?_
    exact GC.ret1 rfl rfl fun w' hw' => ⟨rfl, hw'.sub (List.nil_sublist _)⟩
  · refine G.vg rfl rfl (V.mv rfl) rfl ?_
    have hRt : Right Rs := hbr.1 (by simpa using h15)
    refine G.gd rfl rfl ?_
    refine G.callW (fun v H2 => ∃ b : Bool, (b = true → Keyed Rs) ∧ v = .bool b ∧ H2 = []) Tryd.call26 rfl rfl (fun w1 hw1 => ?_) ?_
    · refine (f26_any w1 ad cp Rs (fun i r hr => by obtain ⟨b, o, h1, h2⟩ := hat i r hr; exact ⟨b, o, h1, fun j v hj => hw1.cellOld (h2 j v hj) id⟩) hRt hcp).mono fun e w' ⟨b, h1, h2, h3⟩ => ⟨_, _, h2, ?_, b, h1, rfl, rfl⟩
      exact hw1.after0 h3 (fun e he => by cases he)
    rintro v H2 ⟨ba, hba, rfl, rfl⟩
    refine G.vg rfl rfl (V.not rfl) rfl ?_
    refine G.v (V.pickF rfl rfl) rfl ?_
    refine G.nil ?_
    refine GC.cond rfl (fun h19 => ?_) (fun h19 => ?_)
    · refine GC.seq ?_
      refine GC.reg ?_  -- region 4, echo.go:257
      refine G.callP Tryd.call16 rfl rfl (fun w1 hw1 => f16_any w1) ?_
      refine G.v (V.asg rfl) rfl ?_
      refine G.nil ?_
      exact GC.ret1 rfl rfl fun w' hw' => ⟨rfl, hw'.sub (List.nil_sublist _)⟩
    refine GC.skip ?_
    refine GC.seq ?_
    have hlen := hRt.1
    have hK : Keyed Rs := hba (by simpa using h19)
    refine GC.reg ?_  -- region 5, echo.go:259
    refine G.v (V.asg rfl) rfl ?_
    refine G.nil ?_
    refine GC.seq ?_
    refine GC.seq ?_
    refine GC.reg ?_  -- region 6, echo.go:260
    refine G.v (V.mv rfl) rfl ?_
    refine G.v (V.lenL Tryd.underlying28 rfl) rfl ?_
    refine G.v (V.mv rfl) rfl ?_
    refine G.nil ?_
    refine GC.block ?_
    refine GC.loopJ (fun N fr' H' => ∃ (i : Nat) (sv : Value) (Ws : List RB) (Hw : SH), i + N = Rs.length ∧ Ws.length ≤ i ∧ LastL Rs i Ws ∧ Own 23 3 sv Ws.length (Ws.flatMap RB.cells) Hw ∧ Sub [(0, .slice ad Rs.length cp), (3, sv), (21, .slice ad Rs.length cp), (22, I (Rs.length : Nat)), (23, I ((i : Nat) : Int))] fr' ∧ Hw = H') Rs.length
      ⟨0, _, [], [], by omega, Nat.zero_le _, .nil Rs, .nil, .cons rfl (.cons rfl (.cons rfl (.cons rfl (.cons rfl .nil)))), rfl⟩ ?_
    rintro N fr' H' ⟨i, sv, Ws, Hw, hi, hwl, hlast, hown, hs, rfl⟩ ih
    refine GC.weak hs ?_
    clear hs
    obtain ⟨ads, cps, rfl⟩ := hown.slice
    refine GC.seq ?_
    refine GC.reg ?_  -- region 7, echo.go:260
    refine G.v (V.lt rfl rfl) rfl ?_
    refine G.nil ?_
    refine GC.seq ?_
    refine GC.condD rfl (fun h24 => ?_) (fun h24 => ?_)
    · refine GC.skip ?_
      refine GC.seq ?_
      refine GC.block ?_
      refine GC.seq ?_
      have hlt : i < Rs.length := by omega
      obtain ⟨r, hr⟩ : ∃ r, Rs[i]? = some r := ⟨_, List.getElem?_eq_getElem hlt⟩
      have hR := hRt.2 r (List.mem_of_getElem? hr)
      have heP := ePath_of hR.hd
      have hrpl := hR.pl
      have hcell : ∃ ab o, ad = some ⟨ab, o, none⟩ ∧ ∀ k v, r.cells[k]? = some v → w.cell? ⟨ab, o + i * 3 + k, none⟩ = some v := hat i r hr
      obtain ⟨ab, o, rfl, hcell⟩ := hcell
      refine GC.reg ?_  -- region 8, echo.go:260
      refine G.v (V.mv rfl) rfl ?_
      refine G.v (V.ia (i := i) Tryd.underlying28 Tryd.sizeOf23 rfl rfl hlt) rfl ?_
      refine G.v (V.ldAC (cs := r.cells) Tryd.isAgg23 Tryd.sizeOf23 rfl hcell rfl id) rfl ?_
      refine G.al Tryd.zeroValue23 rfl rfl (fun xb hxb => ?_)
      refine G.v (V.asg rfl) rfl ?_
      refine G.stA (cs := r.cells) Tryd.sizeOf23 rfl rfl (fun v hv => ?_) .z rfl ?_
      · simp only [RB.cells, List.mem_cons, List.not_mem_nil, or_false] at hv
        rcases hv with rfl | rfl | rfl <;> rfl
      refine G.nil ?_
      refine GC.seq ?_
      refine GC.turn (H' := ⟨xb, true, .row r.cells 23 (0, 0)⟩ :: Hw) (fun w1 hw1 => hw1) ?_
      refine GC.reg ?_  -- region 9, echo.go:261
      refine G.v (V.fa F23_1 rfl) rfl ?_
      refine G.v (V.ld (b := xb) (off := 0 + 1) (wf := true) (l := r.cells) (T := 23) (fz := (0, 0)) (v := S r.p) Tryd.isAgg9 rfl (.head _) rfl) rfl ?_
      refine G.callP (v := S r.p) Tryd.call21 rfl rfl (fun w1 hw1 => (f21_any w1 r.p (by omega)).mono fun e w' h => by rw [heP] at h; exact h) ?_
      refine G.v (V.fa F23_1 rfl) rfl ?_
      refine G.st (b := xb) (off := 0 + 1) (l := r.cells) (T := 23) (fz := (0, 0)) Tryd.sizeOf9 rfl rfl rfl .z rfl rfl ?_
      refine G.nil ?_
      refine GC.seq ?_
      refine GC.turn (H' := ⟨xb, true, .row r.cells 23 (0, 0)⟩ :: Hw) (fun w1 hw1 => hw1) ?_
      refine GC.reg ?_  -- region 10, echo.go:262
      refine G.v (V.mv rfl) rfl ?_
      refine G.v (V.mv rfl) rfl ?_
      refine G.v (V.addI (r := ((i + 1 : Nat) : Int)) rfl rfl rfl (by omega) (by omega)) rfl ?_
      refine G.v (V.slTn (i := i + 1) Tryd.underlying28 Tryd.sizeOf23 rfl rfl (by omega) hcp) rfl ?_
      have hdl : (Rs.drop (i + 1)).length = Rs.length - (i + 1) := List.length_drop ..
      rw [← hdl]
      refine G.v (V.mkF (vs := [Pt xb 0]) rfl) rfl ?_
      refine G.callW (fun v H2 => ∃ b : Bool, (b = true ↔ ∃ q ∈ Rs.drop (i + 1), sameR r q) ∧ v = .bool b ∧ H2 = ⟨xb, true, .row r.cells 23 (0, 0)⟩ :: Hw) Tryd.call27 rfl rfl (fun w1 hw1 => ?_) ?_
      · refine (f27_any w1 _ _ (Rs.drop (i + 1)) r xb (rts_drop (fun i r hr => by obtain ⟨b, o, h1, h2⟩ := hat i r hr; exact ⟨b, o, h1, fun j v hj => hw1.cellOld (h2 j v hj) id⟩) hcp) (by omega) (fun q hq => by have := (hRt.2 q (List.mem_of_mem_drop hq)).pl; omega) (fun k v hk => cell_row hw1 (.head _) (by rw [nth_eq]; exact hk))).mono fun e w' ⟨b, h1, h2, h3⟩ => ⟨_, _, h2, hw1.after0 h3 (fun e he => by cases he), b, h1, rfl, rfl⟩
      rintro v H2 ⟨bc, hbc, rfl, rfl⟩
      have hsm : (∃ q ∈ Rs.drop (i + 1), sameR r q) ↔ ∃ q ∈ Rs.drop (i + 1), q.m = r.m ∧ q.p = r.p := by
        constructor
        · rintro ⟨q, hq, h1, h2⟩
          rw [ePath_of (hRt.2 q (List.mem_of_mem_drop hq)).hd] at h2
          exact ⟨q, hq, h1, h2⟩
        · rintro ⟨q, hq, h1, h2⟩
          exact ⟨q, hq, h1, by rw [ePath_of (hRt.2 q (List.mem_of_mem_drop hq)).hd]; exact h2⟩
      rw [hsm] at hbc
      refine G.v (V.not rfl) rfl ?_
      refine G.nil ?_
      refine GC.join (fun fr' H' => ∃ (sv : Value) (Ws2 : List RB) (Hw2 : SH), Ws2.length ≤ i + 1 ∧ LastL Rs (i + 1) Ws2 ∧ Own 23 3 sv Ws2.length (Ws2.flatMap RB.cells) Hw2 ∧ Sub [(0, .slice (some ⟨ab, o, none⟩) Rs.length cp), (3, sv), (21, .slice (some ⟨ab, o, none⟩) Rs.length cp), (22, I (Rs.length : Nat)), (23, I ((i : Nat) : Int))] fr' ∧ (∀ w1, HF w (fun _ => False) H' w1 → HF w (fun _ => False) Hw2 w1)) (fun J38 => ?_) ?_
      · refine GC.cond rfl (fun h38 => ?_) (fun h38 => ?_)
        · refine GC.reg ?_  -- region 11, echo.go:263
          refine G.v (V.mv rfl) rfl ?_
          refine G.v (V.ldA Tryd.isAgg23 Tryd.sizeOf23 (cs := r.cells) rfl (.head _) rfl rfl) rfl ?_
          refine G.bs (BS.three (a := S r.m) (b := S r.p) (c := S r.nm) Tryd.underlying28 Tryd.sizeOf23 Tryd.zeroValue23) rfl rfl (fun tb htb => ?_)
          refine G.app (i := Tryd.t23) (sz := 3) (by_ := 48) Tryd.underlying28 rfl rfl rfl rfl rfl rfl rfl hown (H' := [⟨tb, true, .row r.cells 23 (0, 0)⟩, ⟨xb, true, .row r.cells 23 (0, 0)⟩]) ?_ (src_row (vs := r.cells) (r := []) (.head _)) rfl (fun v hv => ?_) (by omega) (by omega) (by omega) rfl (fun sv2 Hw2 hown2 => ?_)
          · exact List.Perm.trans (.of_eq (by simp [RB.cells])) ((List.perm_append_comm (l₁ := ([⟨tb, true, .row r.cells 23 (0, 0)⟩, ⟨xb, true, .row r.cells 23 (0, 0)⟩] : SH)) (l₂ := Hw)).trans (.of_eq (by simp [RB.cells])))
          · simp only [RB.cells, List.mem_cons, List.not_mem_nil, or_false] at hv
            rcases hv with rfl | rfl | rfl <;> rfl
          refine G.v (V.asg rfl) rfl ?_
          refine G.nil ?_
          have hn : ∀ q ∈ Rs.drop (i + 1), ¬ (q.m = r.m ∧ q.p = r.p) := fun q hq he => by
            rw [hbc.2 ⟨q, hq, he⟩] at h38
            cases h38
          have hown3 : Own 23 3 sv2 (Ws ++ [r]).length ((Ws ++ [r]).flatMap RB.cells) Hw2 := by
            simpa using hown2
          exact J38 _ _ ⟨sv2, Ws ++ [r], Hw2, by simp; omega, hlast.put hr hn, hown3, .cons rfl (.cons rfl (.cons rfl (.cons rfl (.cons rfl .nil)))), fun w1 h => h.sub (List.sublist_append_right _ _)⟩
        refine GC.skip ?_
        have hy : ∃ q ∈ Rs.drop (i + 1), q.m = r.m ∧ q.p = r.p := hbc.1 (by simpa using h38)
        exact J38 _ _ ⟨_, Ws, Hw, by omega, hlast.skip hr hy, hown, .cons rfl (.cons rfl (.cons rfl (.cons rfl (.cons rfl .nil)))), fun w1 h => h.sub (List.sublist_cons_self _ _)⟩
      rintro fr' H' ⟨sv2, Ws2, Hw2, hwl2, hlast2, hown2, hs38, hH⟩
      refine GC.weak hs38 ?_
      clear hs38
      refine GC.turn hH ?_
      refine GC.inBlock ?_
      refine GC.reg ?_  -- region 12, echo.go:260
      refine G.v (V.addI (r := ((i + 1 : Nat) : Int)) rfl rfl rfl (by omega) (by omega)) rfl ?_
      refine G.v (V.mv rfl) rfl ?_
      refine G.nil ?_
      exact ih (N - 1) _ _ (by omega) ⟨i + 1, sv2, Ws2, Hw2, by omega, hwl2, hlast2, hown2, .cons rfl (.cons rfl (.cons rfl (.cons rfl (.cons rfl .nil)))), rfl⟩
    refine GC.exit rfl ?_
    refine GC.seq ?_
    have hie : i = Rs.length := by omega
    subst hie
    clear ih
    refine GC.reg ?_  -- region 13, echo.go:266
    refine G.v (V.mv rfl) rfl ?_
    refine G.callW (fun v H2 => ∃ (L : List RB) (Hs : SH), v = .tuple #[] ∧ LastL Rs Rs.length L ∧ L.Pairwise (fun x y => ¬ ltR y x) ∧ L.length = Ws.length ∧ Own 23 3 (.slice ads Ws.length cps) L.length (L.flatMap RB.cells) Hs ∧ Hs = H2) Tryd.call29 rfl rfl (fun w1 hw1 => ?_) ?_
    · refine (sort_any w1 _ Ws Hw hown (by omega) w (fun _ => False) [] (by rw [List.append_nil]; exact hw1)).mono fun e w' ⟨h1, L, Hs, h2, h3, h4, h5⟩ => ?_
      rw [List.append_nil] at h5
      exact ⟨_, _, h1, h5, L, Hs, rfl, hlast.perm h2, h3, h2.length_eq, by rw [h2.length_eq]; exact h4, rfl⟩
    rintro v H2 ⟨L, Hs, rfl, hlastL, hsort, hLl, hownL, rfl⟩
    rw [← hLl] at hownL ⊢
    refine G.nil ?_
    refine GC.seq ?_
    refine GC.reg ?_  -- region 14, echo.go:272
    refine G.v (V.mv rfl) rfl ?_
    refine G.callW (fun v H2 => ∃ Hr, Own 51 3 v Rs.length (Rs.flatMap RB.cells) Hr ∧ H2 = Hr ++ Hs) Tryd.call19 rfl rfl (fun w1 hw1 => ?_) ?_
    · exact (f19_any w1 _ cp Rs (fun i r hr => by obtain ⟨b, o, h1, h2⟩ := hat i r hr; exact ⟨b, o, h1, fun j v hj => hw1.cellOld (h2 j v hj) id⟩) (by omega)).mono fun e w' ⟨v, Hr, h1, h2, h3⟩ => ⟨v, _, h1, hw1.after0 h3 h2.w, Hr, h2, rfl⟩
    rintro v H2 ⟨Hr, hownr, rfl⟩
    obtain ⟨adr, cpr, rfl⟩ := hownr.slice
    refine G.callW (fun v H2 => ∃ Hg, Own 51 3 v L.length (L.flatMap RB.cells) Hg ∧ H2 = Hg ++ (Hr ++ Hs)) Tryd.call32 rfl rfl (fun w1 hw1 => ?_) ?_
    · refine (f32_any w1 adr cpr Rs (rts_own hw1 (fun e he => List.mem_append_left _ he) hownr) (fun x h => (hRt.2 x h).ok) hlen).mono fun e w' ⟨v, Ls, M, Hg, h1, h2, h3, h4, h5, h6⟩ => ?_
      obtain rfl : Ls = L := ((last_rks hK h2).perm h3).uniq hlastL h4 hsort
      exact ⟨v, _, h1, hw1.after0 h6 h5.w, Hg, h5, rfl⟩
    rintro v H2 ⟨Hg, howng, rfl⟩
    obtain ⟨adg, cpg, rfl⟩ := howng.slice
    refine G.v (V.asg rfl) rfl ?_
    refine G.nil ?_
    refine GC.seq ?_
    refine GC.seq ?_
    refine GC.reg ?_  -- region 15, echo.go:273
    refine G.callP Tryd.call16 rfl rfl (fun w1 hw1 => f16_any w1) ?_
    refine G.v (V.not rfl) rfl ?_
    refine G.v (V.mv rfl) rfl ?_
    refine G.bc 51 rfl (fun h51 => ?_) (fun h51 => ?_)
    · exact absurd h51 (by decide)
    · refine G.vg rfl rfl (V.mv rfl) rfl ?_
      refine G.vg rfl rfl (V.lenL Tryd.underlying35 rfl) rfl ?_
      refine G.vg rfl rfl (V.mv rfl) rfl ?_
      refine G.vg rfl rfl (V.lenL Tryd.underlying28 rfl) rfl ?_
      refine G.vg rfl rfl (V.neI0 rfl rfl) rfl ?_
      refine G.v (V.pickF rfl rfl) rfl ?_
      refine G.nil ?_
      refine GC.condF rfl ?_
      refine GC.skip ?_
      refine GC.seq ?_
      refine GC.seq ?_
      refine GC.reg ?_  -- region 17, echo.go:276
      refine G.v (V.mv rfl) rfl ?_
      refine G.v (V.lenL Tryd.underlying28 rfl) rfl ?_
      refine G.v (V.mv rfl) rfl ?_
      refine G.nil ?_
      refine GC.block ?_
      refine GC.loopJ (fun N fr' H' => ∃ i : Nat, i + N = L.length ∧ Sub [(3, .slice ads L.length cps), (6, .slice adg L.length cpg), (58, .slice ads L.length cps), (59, I (L.length : Nat)), (60, I ((i : Nat) : Int))] fr' ∧ H' = Hg ++ (Hr ++ Hs)) L.length
        ⟨0, by omega, .cons rfl (.cons rfl (.cons rfl (.cons rfl (.cons rfl .nil)))), rfl⟩ ?_
      rintro N fr' H' ⟨i, hi, hs, rfl⟩ ih
      refine GC.weak hs ?_
      clear hs
      refine GC.seq ?_
      refine GC.reg ?_  -- region 18, echo.go:276
      refine G.v (V.lt rfl rfl) rfl ?_
      refine G.nil ?_
      refine GC.seq ?_
      refine GC.condD rfl (fun h61 => ?_) (fun h61 => ?_)
      · refine GC.skip ?_
        refine GC.seq ?_
        refine GC.block ?_
        refine GC.seq ?_
        have hlt : i < L.length := by omega
        obtain ⟨r, hr⟩ : ∃ r, L[i]? = some r := ⟨_, List.getElem?_eq_getElem hlt⟩
        obtain ⟨lb, lc, lsp, hle, rfl⟩ := hownL.at hlt
        cases hle
        obtain ⟨gb, gc, gsp, hge, rfl⟩ := howng.at hlt
        cases hge
        have hnx : ∀ (sp : List Value) k v, r.cells[k]? = some v → nth (L.flatMap RB.cells ++ sp) (0 + i * 3 + k) = some v := fun sp k v hk => by
          have hk3 : k < 3 := (List.getElem?_eq_some_iff.1 hk).1
          rw [nth_eq, Nat.zero_add, List.getElem?_append_left (by rw [flat_len']; omega), flat_get, show (i * 3 + k) / 3 = i by omega, show (i * 3 + k) % 3 = k by omega, hr]
          exact hk
        refine GC.reg ?_  -- region 19, echo.go:276
        refine G.v (V.mv rfl) rfl ?_
        refine G.v (V.ia (i := i) Tryd.underlying28 Tryd.sizeOf23 rfl rfl hlt) rfl ?_
        refine G.v (V.ldAR Tryd.isAgg23 Tryd.sizeOf23 (b := lb) (cs := r.cells) rfl (fun w1 hw1 k v hk => cell_row hw1 (wf := true) (l := L.flatMap RB.cells ++ lsp) (t := 23) (fz := (0, 0)) (by simp) (hnx lsp k v hk)) rfl) rfl ?_
        refine G.al Tryd.zeroValue23 rfl rfl (fun xb hxb => ?_)
        refine G.v (V.asg rfl) rfl ?_
        refine G.stA (cs := r.cells) Tryd.sizeOf23 rfl rfl (fun v hv => ?_) .z rfl ?_
        · simp only [RB.cells, List.mem_cons, List.not_mem_nil, or_false] at hv
          rcases hv with rfl | rfl | rfl <;> rfl
        refine G.nil ?_
        refine GC.seq ?_
        refine GC.turn (H' := ⟨xb, true, .row r.cells 23 (0, 0)⟩ :: (([⟨gb, true, .row (L.flatMap RB.cells ++ gsp) 51 (0, 0)⟩] : SH) ++ (Hr ++ ([⟨lb, true, .row (L.flatMap RB.cells ++ lsp) 23 (0, 0)⟩] : SH)))) (fun w1 hw1 => hw1) ?_
        refine GC.regQ mixed (by kernel_rfl) ?_  -- region 20, echo.go:277
        refine GQ.v (V.mv rfl) rfl ?_
        refine GQ.v (V.mv rfl) rfl ?_
        refine GQ.v (V.ia (i := i) Tryd.underlying35 Tryd.sizeOf51 rfl rfl hlt) rfl ?_
        refine GQ.v (V.ldAR Tryd.isAgg51 Tryd.sizeOf51 (b := gb) (cs := r.cells) rfl (fun w1 hw1 k v hk => cell_row hw1 (wf := true) (l := L.flatMap RB.cells ++ gsp) (t := 51) (fz := (0, 0)) (.tail _ (.head _)) (hnx gsp k v hk)) rfl) rfl ?_
        refine GQ.v (V.ldA Tryd.isAgg23 Tryd.sizeOf23 (cs := r.cells) rfl (.head _) rfl rfl) rfl ?_
        refine GQ.v (V.neR (r := r) rfl rfl) rfl ?_
        refine GQ.nil ?_
        refine GC.condF rfl ?_
        refine GC.skip ?_
        refine GC.inBlock ?_
        refine GC.reg ?_  -- region 22, echo.go:276
        refine G.v (V.addI (r := ((i + 1 : Nat) : Int)) rfl rfl rfl (by omega) (by omega)) rfl ?_
        refine G.v (V.mv rfl) rfl ?_
        refine G.nil ?_
        exact GC.weakH (List.sublist_cons_self _ _) (ih (N - 1) _ _ (by omega) ⟨i + 1, by omega, .cons rfl (.cons rfl (.cons rfl (.cons rfl (.cons rfl .nil)))), rfl⟩)
      refine GC.exit rfl ?_
      refine GC.seq ?_
      refine GC.reg ?_  -- region 23, echo.go:281
      refine G.v (V.asg rfl) rfl ?_
      refine G.nil ?_
      exact GC.ret1 rfl rfl fun w' hw' => ⟨rfl, hw'.sub (List.nil_sublist _)⟩
end Go.Proofs

/- A law's card out of its walk: FnEchoRoutes. -/
set_option maxRecDepth 100000
namespace Go.Proofs.YtekclaobeccbdaaDoor.routes
open Go Bw Go.ChangeShapes Go.WideShapes Go.ChangeAt Go.RowKit

/-- what bytes.ErrTooLarge is laid as -/
abbrev tooS : ByteArray := { data := #[98, 121, 116, 101, 115, 46, 66, 117, 102, 102, 101, 114, 58, 32, 116, 111, 111, 32, 108, 97, 114, 103, 101] }
noncomputable def low : Nat := (World.holding Tryd.prog default ⟨#[], #[], []⟩).heap.size
noncomputable def laidWorld (os : Os) : World :=
  let w0 := World.holding Tryd.prog os ⟨#[.cells #[.string tooS] 217], #[], []⟩
  { w0 with heap := w0.heap.modify 1 fun
      | .cells _ t frozen => .cells #[.iface 200 (.pointer (some ⟨low, 0, none⟩))] t frozen
      | o => o }

theorem contract (H : Type) (enc : TypeId × Value → H) (W : World) (base : Nat) (args : Array Value) (ds gs : List (DataW H)) (before : List MemPlace)
    (hval : ∀ (j : Nat) t v, Tryd.f7.params[j]? = some t → args[j]? = some v → Value.okWide Tryd.prog W .any base t v)
    (hW : DataW.Whole enc Tryd.prog Tryd.f7.params.toList Rows.fnEchoRoutesSpec.vars false W args.toList ds gs before) :
    Calls Tryd.prog 7 args W fun e W' => ∃ v, e = .returned v ∧ Rows.fnEchoRoutesSpec.post enc Tryd.prog Tryd.f7 false true false false W args v W' := by
  have hW' := hW
  obtain ⟨p, q, hA0, hV, rfl, hfz, hnd⟩ := hW
  have hA : DataW.TrodAll enc Tryd.prog W 0 (fun _ => true) true [28] args.toList ds p := hA0
  obtain ⟨v0, vs0, d0, ds0, p0, q0, hargs, rfl, rfl, h0, r0⟩ := trodAll_cons hA
  obtain ⟨rfl, rfl, rfl⟩ := trodAll_nil r0
  obtain rfl : args = #[v0] := by cases args; simp_all
  obtain ⟨ad0, cp0, Rs, rfl, hcp0, hat0⟩ := open_rts Tryd.underlying28 Tryd.underlying23 tryd_c23 ⟨rfl, rfl⟩ ⟨rfl, rfl⟩ ⟨rfl, rfl⟩ Tryd.underlying9 tryd_c9 (hval 0 28 v0 rfl rfl) h0
  refine (f7_any W ad0 cp0 Rs hat0 hcp0).mono fun e W' ⟨he, hf⟩ => ⟨_, he, ?_⟩
  refine post_law hW' rfl rfl ?_ (by kernel_rfl) (below_of hf)
  obtain ⟨rfl, rfl⟩ := trodVars_none hV
  rfl

theorem laid_met (os : Os) : laidMet Tryd.prog Rows.fnEchoRoutesRow.laid ((laidWorld os).forCall (fun _ _ => 0) ⟨#[], #[.slice none 0 0], []⟩).memory :=
  laidMet_of_run (ps := [.cell 1 0, .cell low 0]) 8 (by kernel_rfl) (by kernel_rfl) (by kernel_rfl)
theorem reads (os : Os) {H : Type} (enc : TypeId × Value → H) : ∃ places, DataW.whole enc Tryd.prog ((laidWorld os).forCall (fun _ _ => 0) ⟨#[], #[.slice none 0 0], []⟩).memory Tryd.f7.params.toList Rows.fnEchoRoutesSpec.vars false (#[.slice none 0 0] : Array Value).toList 8 = some ([.nil], [], places) :=
  ⟨[], by kernel_rfl⟩

theorem lifted (os : Os) (started : os.Started) (H : Type) (enc : TypeId × Value → H) (F : Stop.Interp) :
    ReturnsInHanded {} Tryd.checked os 7 .any ((OpenSpec.ofChange Rows.fnEchoRoutesSpec).preRow enc Tryd.prog Tryd.f7 Rows.fnEchoRoutesRow.domain false Rows.fnEchoRoutesRow.laid) (((OpenSpec.ofChange Rows.fnEchoRoutesSpec).at F).post enc Tryd.prog Tryd.f7 false true false false) := by
  obtain ⟨places, hx⟩ := reads os enc
  refine returnsInHanded_of_row (C := Tryd.checked) (s := OpenSpec.ofChange Rows.fnEchoRoutesSpec) tryd_own started (by kernel_rfl) Tryd.func7
    (witness_row_at (enc := enc) (C := Tryd.checked) false (laidWorld os) #[.slice none 0 0] rfl (by kernel_rfl) (by kernel_rfl) (by kernel_rfl)
      (OpenSpec.preRow_of_cond 8 hx (by kernel_rfl) (fun k hk => by cases hk) (by kernel_rfl) (laid_met os))) ?_
  intro W base args ds gs before hval hW _ _ _ hL _ _
  exact contract H enc W base args ds gs before hval hW

theorem said : Rows.FnEchoRoutesSaid :=
  OpenClaim.holds_of_cond 7 Tryd.f7 rfl rfl rfl rfl rfl rfl rfl ⟨rfl, rfl, rfl, rfl, rfl⟩ rfl rfl rfl rfl rfl (by kernel_rfl) Tryd.func7 (by kernel_rfl)
    (of_decide_eq_true (by kernel_rfl)) (by unfold Func.isWrapper; first | (rw [if_pos (by decide +kernel)]; kernel_rfl) | (rw [if_neg (by decide +kernel)]; exact ⟨rfl, rfl⟩))
    (fun os started H enc _ F => by rw [OpenClaim.pre_eq_preRow]; exact lifted os started H enc F)

theorem plain (f : FuncId) (fn : Func) (hf : Tryd.pinned.checked.prog.funcNamed "pub-bridleway/laws.FnEchoRoutes" = some f) (hfn : Tryd.pinned.checked.prog.funcs[f]? = some fn) :
    false = Tryd.pinned.checked.prog.looks [] ∧ ∀ (j : Nat) t, fn.params[j]? = some t → Tryd.pinned.checked.prog.wantsStandIn t = false := by
  obtain rfl : f = 7 := Option.some.inj ((show Tryd.prog.funcNamed "pub-bridleway/laws.FnEchoRoutes" = some 7 by kernel_rfl).symm.trans hf) |>.symm
  obtain rfl : fn = Tryd.f7 := (Option.some.inj (Tryd.func7.symm.trans hfn)).symm
  refine ⟨by kernel_rfl, fun j t ht => ?_⟩
  have hm : t ∈ [28] := by have := Array.mem_of_getElem? ht; simpa [Tryd.params7] using this
  have hall : ∀ u ∈ [28], Tryd.prog.wantsStandIn u = false := by
    intro u hu
    simp only [List.mem_cons, List.not_mem_nil, or_false] at hu
    rcases hu with rfl
    · exact (show Tryd.prog.wantsStandIn 28 = false by kernel_rfl)
  exact hall t hm

theorem card : Rows.FnEchoRoutesCardSaid :=
  Claim7.holds_tied_plain_at .later [] _ _ _ _ said (fun _ h => by cases h) (by kernel_rfl) (fun _ h => by cases h) fnEchoRoutes_row_tie rfl ⟨rfl, rfl⟩ (by kernel_rfl) rfl plain (by kernel_rfl)
end Go.Proofs.YtekclaobeccbdaaDoor.routes
