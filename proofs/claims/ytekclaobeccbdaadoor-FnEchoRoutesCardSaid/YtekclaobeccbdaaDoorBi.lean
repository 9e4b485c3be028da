/- What impl.EchoFind tells of routes; small functions of the laws. -/
import Derived.Test.YtekclaobeccbdaaDoorBe
import Derived.Test.YtekclaobeccbdaaDoorBg
import Derived.Test.YtekclaobeccbdaaDoorBh
/- Rules: a guarded operation whose guard holds; what a call of slices.Equal tells; routes and texts in memory. -/
namespace Bw
open Go Go.Proofs

/-- a guarded operation that is wanted is one without a guard -/
theorem G.gd {P : Program} {c : Cx} {n : Nat} {k : List Item} {fr : SF} {H : SH} {ops : Array Oper} {rest : List Oper} {op : Op} {ty : TypeId} {d : Option Tmp} {j t : Nat} {b : Bool} {pos : String} {aft : Array Edge} (hj : (ops[j]?).bind (·.dst) = some t) (hb : look t fr = some (.bool b))
    (h : G P c n k ops (⟨d, op, ty, pos, aft, none⟩ :: rest) fr H) : G P c n k ops (⟨d, op, ty, pos, aft, some (j, b)⟩ :: rest) fr H := by
  intro hf a w ha hw
  have h1 := h hf a w ha hw
  have hy : yielded ops a.tmps j = some b := by simp [yielded, hj, ha.at_ t _ hb]
  have w1 : Region.wanted ⟨d, op, ty, pos, aft, some (j, b)⟩ (yielded ops a.tmps) = true := by simp [Region.wanted, hy]
  have w0 : Region.wanted ⟨d, op, ty, pos, aft, none⟩ (yielded ops a.tmps) = true := rfl
  unfold wpList at h1 ⊢
  rw [if_pos w0] at h1
  rw [if_pos w1]
  exact h1

theorem _root_.Go.Proofs.TxAt.cell {w : World} {b o : Nat} {xs : List (List UInt8)} (h : TxAt w (some ⟨b, o, none⟩) xs) {j : Nat} {x : List UInt8} (hx : xs[j]? = some x) : w.cell? ⟨b, o + j, none⟩ = some (S x) := by
  obtain ⟨b', o', e, h1⟩ := h j x hx
  simp only [Option.some.injEq, Addr.mk.injEq, and_true] at e
  obtain ⟨rfl, rfl⟩ := e
  exact h1
end Bw

/- Regions that draw, whichever order: append, stores, loads. No program in sight. -/
namespace Bw
open Go

variable {P : Program} {c : Cx} {n : Nat} {k : List Item} {fr : SF} {H : SH} {ops : Array Oper} {ty : TypeId} {pos : String} {aft : Array Edge} {S : World → Prop} {fuel : Nat} {listed : Array Bool}

theorem app_run {T e sz by_ : Nat} {i : TypeInfo} {z : Value} {x y : Operand} {sv : Value} {n0 : Nat} {xs vs : List Value} {Hs H' : SH} {ad : Addr} {m mc d : Nat}
    (hT : P.underlying T = some (.slice e)) (hi : P.info? e = some i) (hz : i.zero = some z) (hsz : i.size = sz) (hby : i.bytes = by_) (hzs : z.cells.size = sz)
    (hx : ev fr x = some sv) (hy : ev fr y = some (.slice (some ad) m mc)) (hown : Own e sz sv n0 xs Hs) (hperm : H.Perm (Hs ++ H'))
    (hsrc : ∀ w, HF c.w0 c.D H w → ∀ j u, vs[j]? = some u → w.cell? (ad.add j) = some u) (hvl : vs.length = m * sz) (h1 : ∀ u ∈ vs, u.oneCell' = true) (hm : 0 < m) (hbd : (n0 + m) * by_ ≤ 140737488355328) (h63 : n0 + m ≤ 9223372036854775807)
    (a : Act) (w : World) (ha : Fr n fr a) (hw : HF c.w0 c.D H w) :
    ∃ sv' Hs' w', Own e sz sv' (n0 + m) (xs ++ vs) Hs' ∧ (execOp a.eval ⟨some d, .call ⟨.builtin .append, #[x, y], #[T, T]⟩, ty, pos, aft, none⟩).run P w = .ok (.value sv') w' ∧ HF c.w0 c.D (H' ++ Hs') w' := by
  subst hsz
  subst hby
  have hex : ∀ v w', (Builtin.append_ #[T, T] ty #[sv, .slice (some ad) m mc]).run P w = .ok v w' → (execOp a.eval ⟨some d, .call ⟨.builtin .append, #[x, y], #[T, T]⟩, ty, pos, aft, none⟩).run P w = .ok (.value v) w' := by
    intro v w' hr
    simp [execOp, resolve, invoke, builtin, ha.eval hx, ha.eval hy, hr]
  cases hown with
  | nil =>
    have hn0 : 0 + m = m := Nat.zero_add m
    have hr := run_append_nil (P := P) w T ty e i z hT hi hz ad m mc vs hvl (hsrc w hw) hm (by omega) (by rw [hn0] at hbd; omega)
    have hH : HF c.w0 c.D H' w := hw.perm (by simpa using hperm)
    have hp := ((hH.drew (w.drawn + 1)).push (.row (vs ++ (Builtin.zeroCells z.cells (grownCap w m 0 e - m)).toList) e (0, 0)))
    refine ⟨.slice (some ⟨w.heap.size, 0, none⟩) m (grownCap w m 0 e), [⟨w.heap.size, true, .row (vs ++ (Builtin.zeroCells z.cells (grownCap w m 0 e - m)).toList) e (0, 0)⟩], _, ?_, hex _ _ hr, HF.perm ?_ (List.perm_append_singleton _ _).symm⟩
    · rw [hn0, List.nil_append]
      have hle : m ≤ grownCap w m 0 e := by simp [grownCap, Question.cut]
      refine .row hvl ?_ hle
      simp [zeroCells_length, hzs, hvl, ← Nat.add_mul]
      rw [Nat.add_sub_cancel' hle]
    · have e3 : (vs ++ (Builtin.zeroCells z.cells (grownCap w m 0 e - m)).toList).toArray = vs.toArray ++ Builtin.zeroCells z.cells (grownCap w m 0 e - m) := by simp
      simp only [Blk.den, e3] at hp
      exact hp
  | row hn hc hle =>
    rename_i b cap spare
    have hw1 : HF c.w0 c.D (⟨b, true, .row (xs ++ spare) e (0, 0)⟩ :: H') w := hw.perm hperm
    have hb := hw1.has _ (.head _)
    simp only [Blk.den] at hb
    by_cases hroom : n0 + m ≤ cap
    · have hfit : n0 * i.size + vs.length ≤ (xs ++ spare).toArray.size := by
        rw [List.size_toArray, hc, hvl, ← Nat.add_mul]
        exact Nat.mul_le_mul_right _ hroom
      have hr := run_append_room (P := P) w T ty e i hT hi b n0 cap (xs ++ spare).toArray hb ad m mc vs hvl (hsrc w hw) h1 hroom hfit
      have e1 : (xs ++ spare).take (n0 * i.size) = xs := by rw [← hn]; simp
      have e2 : ((xs ++ spare).toArray.toList.take (n0 * i.size) ++ vs ++ (xs ++ spare).toArray.toList.drop (n0 * i.size + vs.length)) = (xs ++ vs) ++ (xs ++ spare).drop (n0 * i.size + vs.length) := by
        simp only [e1]
      rw [e2] at hr
      refine ⟨.slice (some ⟨b, 0, none⟩) (n0 + m) cap, [⟨b, true, .row ((xs ++ vs) ++ (xs ++ spare).drop (n0 * i.size + vs.length)) e (0, 0)⟩], _, ?_, hex _ _ hr, HF.perm (setRow_HF hw1) (List.perm_append_singleton _ _).symm⟩
      refine .row ?_ ?_ hroom
      · simp [hn, hvl, Nat.add_mul]
      · have : (xs ++ spare).length = cap * i.size := hc
        have h3 : n0 * i.size + vs.length ≤ (xs ++ spare).length := by simpa using hfit
        simp only [List.length_append, List.length_drop] at *
        omega
    · have hr := run_append_grow (P := P) w T ty e i z hT hi hz ⟨b, 0, none⟩ n0 cap xs hn (fun j v hj => by
          have := cell_row hw1 (off := j) (v := v) (.head _) (by rw [nth_eq, List.getElem?_append_left (List.getElem?_eq_some_iff.1 hj).1]; exact hj)
          by_cases h0 : j = 0
          · subst h0; simpa [Addr.add] using this
          · simpa [Addr.add, h0] using this) ad m mc vs hvl (hsrc w hw) (by omega) (by omega) (growslice_fits (by omega) hbd)
      have hH : HF c.w0 c.D H' w := hw1.sub (List.sublist_cons_self _ _)
      have hp := ((hH.drew (w.drawn + 1)).push (.row ((xs ++ vs) ++ (Builtin.zeroCells z.cells (grownCap w (n0 + m) cap e - (n0 + m))).toList) e (0, 0)))
      refine ⟨.slice (some ⟨w.heap.size, 0, none⟩) (n0 + m) (grownCap w (n0 + m) cap e), [⟨w.heap.size, true, .row ((xs ++ vs) ++ (Builtin.zeroCells z.cells (grownCap w (n0 + m) cap e - (n0 + m))).toList) e (0, 0)⟩], _, ?_, hex _ _ hr, HF.perm ?_ (List.perm_append_singleton _ _).symm⟩
      · have hle2 : n0 + m ≤ grownCap w (n0 + m) cap e := by simp [grownCap, Question.cut]
        refine .row (by simp [hn, hvl, Nat.add_mul]) ?_ hle2
        simp only [List.length_append, Array.length_toList, zeroCells_length, hzs, hn, hvl]
        rw [← Nat.add_mul, ← Nat.add_mul, Nat.add_sub_cancel' hle2]
      · have e3 : ((xs ++ vs) ++ (Builtin.zeroCells z.cells (grownCap w (n0 + m) cap e - (n0 + m))).toList).toArray = xs.toArray ++ vs.toArray ++ Builtin.zeroCells z.cells (grownCap w (n0 + m) cap e - (n0 + m)) := by simp
        simp only [Blk.den, e3] at hp
        exact hp

theorem GB.app {T e sz by_ : Nat} {i : TypeInfo} {z : Value} {x y : Operand} {sv : Value} {n0 : Nat} {xs vs : List Value} {Hs H' : SH} {ad : Addr} {m mc d : Nat}
    (hT : P.underlying T = some (.slice e)) (hi : P.info? e = some i) (hz : i.zero = some z) (hsz : i.size = sz) (hby : i.bytes = by_) (hzs : z.cells.size = sz)
    (hx : ev fr x = some sv) (hy : ev fr y = some (.slice (some ad) m mc)) (hown : Own e sz sv n0 xs Hs) (hperm : H.Perm (Hs ++ H'))
    (hsrc : ∀ w, HF c.w0 c.D H w → ∀ j u, vs[j]? = some u → w.cell? (ad.add j) = some u) (hvl : vs.length = m * sz) (h1 : ∀ u ∈ vs, u.oneCell' = true) (hm : 0 < m) (hbd : (n0 + m) * by_ ≤ 140737488355328) (h63 : n0 + m ≤ 9223372036854775807)
    (hS : ∀ w, HF c.w0 c.D H' w → S w) (hd : Nat.blt d n = true)
    (hk : ∀ sv' Hs', Own e sz sv' (n0 + m) (xs ++ vs) Hs' → GA P c n k ops S fuel listed ((d, sv') :: fr) (H' ++ Hs')) :
    GB P c n k ops S fuel listed ⟨some d, .call ⟨.builtin .append, #[x, y], #[T, T]⟩, ty, pos, aft, none⟩ fr H := by
  refine GB.eff (A := { p : Value × SH // Own e sz p.1 (n0 + m) (xs ++ vs) p.2 }) (H' := fun p => H' ++ p.1.2) (v := fun p => p.1.1) (fun a w ha hw => ?_) (fun p w hw => hS w (hw.sub (List.sublist_append_left _ _))) hd (fun p => hk _ _ p.2)
  obtain ⟨sv', Hs', w', g1, g2, g3⟩ := app_run (d := d) (ty := ty) (pos := pos) (aft := aft) hT hi hz hsz hby hzs hx hy hown hperm hsrc hvl h1 hm hbd h63 a w ha hw
  exact ⟨⟨(sv', Hs'), g1⟩, w', g2, g3⟩

theorem GB.effN {op : Op} {H' : SH} (hr : ∀ a w, Fr n fr a → HF c.w0 c.D H w → ∃ w', (execOp a.eval ⟨none, op, ty, pos, aft, none⟩).run P w = .ok .skip w' ∧ HF c.w0 c.D H' w') (hS : ∀ w, HF c.w0 c.D H' w → S w)
    (hk : GA P c n k ops S fuel listed fr H') : GB P c n k ops S fuel listed ⟨none, op, ty, pos, aft, none⟩ fr H := by
  intro hf a w ha hw
  obtain ⟨w', h1, h2⟩ := hr a w ha hw
  simp only [Region.wanted, if_true, Oper.wp, h1, Oper.upon]
  exact ⟨hS _ h2, hk hf _ _ ha h2⟩

theorem GB.st {t : TypeId} {x y : Operand} {v : Value} {b off i : Nat} {l : List Value} {T : TypeId} {fz : Nat × Nat} (hs : ∀ w, (Go.sizeOf t).run P w = .ok 1 w) (hx : ev fr x = some (Pt b off)) (hy : ev fr y = some v)
    (h1 : v.oneCell' = true) (hi : At i ⟨b, true, .row l T fz⟩ H) (hc : (nth l off).isSome = true) (hf : (Nat.ble fz.1 off && Nat.blt off fz.2) = false) (hS : ∀ w, HF c.w0 c.D (putE (.row (setL l off v) T fz) i H) w → S w)
    (hk : GA P c n k ops S fuel listed fr (putE (.row (setL l off v) T fz) i H)) : GB P c n k ops S fuel listed ⟨none, .store t x y, ty, pos, aft, none⟩ fr H := by
  refine GB.effN (fun a w ha hw => ⟨w.setCell ⟨b, off, none⟩ v, ?_, hw.setCell hi v⟩) hS hk
  obtain ⟨u, hu⟩ := Option.isSome_iff_exists.1 hc
  have hcell := cell_row hw hi.mem hu
  have hfz := frozen_row hw hi.mem (off := off)
  rw [bool_of_frz hf] at hfz
  have hcs : v.cells = #[v] := by cases v <;> first | rfl | (simp [Value.oneCell'] at h1)
  have hst := run_store P w ⟨b, off, none⟩ v .plain h1
  simp only [hcell, hfz] at hst
  simp [execOp, ha.eval hx, ha.eval hy, Instr.storeAt, Instr.sureAddr, storeVar, hcs, hs, storeCells, Addr.add, hst]
theorem GB.stA {t : TypeId} {x y : Operand} {b i : Nat} {l cs : List Value} {T : TypeId} (hs : ∀ w, (Go.sizeOf t).run P w = .ok cs.length w) (hx : ev fr x = some (Pt b 0)) (hy : ev fr y = some (.agg cs.toArray)) (h1 : ∀ v ∈ cs, v.oneCell' = true)
    (hi : At i ⟨b, true, .row l T (0, 0)⟩ H) (hl : l.length = cs.length) (hS : ∀ w, HF c.w0 c.D (putE (.row cs T (0, 0)) i H) w → S w) (hk : GA P c n k ops S fuel listed fr (putE (.row cs T (0, 0)) i H)) : GB P c n k ops S fuel listed ⟨none, .store t x y, ty, pos, aft, none⟩ fr H := by
  refine GB.effN (fun a w ha hw => ⟨w.setRow b cs.toArray, ?_, hw.setRow hi⟩) hS hk
  have hb := hw.has _ hi.mem
  simp only [Blk.den] at hb
  have hr := run_storeCells_from (P := P) b T cs 0 l.toArray w hb (by simp [hl]) h1
  simp only [List.take_zero, List.nil_append] at hr
  simp [execOp, ha.eval hx, ha.eval hy, Instr.storeAt, Instr.sureAddr, storeVar, hs, Value.cells, hr]
theorem GB.bs {T e d : Nat} {x : Operand} {v : Value} {vs : List Value} (hb : BS P T e v vs) (hx : ev fr x = some v) (hS : ∀ w, HF c.w0 c.D H w → S w) (hd : Nat.blt d n = true)
    (hk : ∀ b, GA P c n k ops S fuel listed ((d, .slice (some ⟨b, 0, none⟩) 1 1) :: fr) (⟨b, true, .row vs e (0, 0)⟩ :: H)) : GB P c n k ops S fuel listed ⟨some d, .buildSlice T 1 #[(0, x)], ty, pos, aft, none⟩ fr H := by
  refine GB.new (kb := .row vs e (0, 0)) (v := fun b => .slice (some ⟨b, 0, none⟩) 1 1) (fun a w ha hw => ?_) hS hd hk
  simp [execOp, ha.eval hx, hb w, Blk.den]
theorem GB.al {t : TypeId} {z : Value} {d : Nat} {l : List Value} (hz : ∀ w, (zeroValue t).run P w = .ok z w) (hl : z.cells.toList = l) (hS : ∀ w, HF c.w0 c.D H w → S w) (hd : Nat.blt d n = true)
    (hk : ∀ b, GA P c n k ops S fuel listed ((d, Pt b 0) :: fr) (⟨b, true, .row l t (0, 0)⟩ :: H)) : GB P c n k ops S fuel listed ⟨some d, .alloc t, ty, pos, aft, none⟩ fr H := by
  refine GB.new (kb := .row l t (0, 0)) (v := fun b => Pt b 0) (fun a w ha hw => ?_) hS hd hk
  subst hl
  simp [execOp, Instr.alloc, hz, newVar, newRow, Blk.den]
end Bw

/- impl.EchoFind. Printed by wip/mk_g1.py. -/
namespace Go.Proofs
open Go Bw
set_option maxRecDepth 20000

theorem _root_.Bw.GC.retC {P : Program} {c : Cx} {n : Nat} {k : List Item} {fr : SF} {H : SH} {t b s : Nat} {T T2 : TypeId} {fz : Nat × Nat} {wf : Bool} {cs : List Value} (hr : c.fn.results = #[.cell t T]) (hA : ∀ w, (isAgg T).run P w = .ok true w) (hs : ∀ w, (Go.sizeOf T).run P w = .ok s w)
    (hv : Bw.look t fr = some (Pt b 0)) (hm : ⟨b, wf, .row cs T2 fz⟩ ∈ H) (hl : cs.length = s) (hR : ∀ w, HF c.w0 c.D H w → c.R (.returned (.agg cs.toArray)) w) : GC P c n (.code .ret :: k) fr H := by
  refine GC.retR (fun a w ha hw => ?_) hR
  have hc : ∀ j v, cs[j]? = some v → w.cell? ((⟨b, 0, none⟩ : Addr).add j) = some v := by
    intro j v hj
    have h2 := cell_row hw hm (off := j) (v := v) (by rw [nth_eq]; exact hj)
    by_cases h0 : j = 0
    · subst h0; simpa [Addr.add] using h2
    · simpa [Addr.add, h0] using h2
  have hrun := run_loadCells_list (P := P) (w := w) ⟨b, 0, none⟩ cs hc
  have h1 := ha.at_ t _ hv
  simp [results, hr, h1, loadVar, hA, hs, ← hl, hrun, asAddr]

theorem build33 (i : Int) (p al : List UInt8) (ad : Option Addr) (l c : Nat) (w : World) : (Instr.build 33 #[(0, I i), (1, S p), (2, .slice ad l c), (4, S al)]).run Tryd.prog w = .ok (.agg #[I i, S p, .slice ad l c, .slice none 0 0, S al]) w := by
  simp [Instr.build, Tryd.zeroValue33, Tryd.runUnderlying33, Tryd.sizeOf24, Tryd.sizeOf3, Tryd.sizeOf9, cells_agg, Instr.fill, cells_int, cells_str, cells_sl]

theorem f18_any (w : World) (ad : Option Addr) (cp : Nat) (Rs : List RB) (meth path : List UInt8) (hat : RtsAt w ad Rs) (hok : ∀ r ∈ Rs, r.ok) (hlen : Rs.length ≤ 60) (hpl : path.length ≤ 1000000) :
    Calls Tryd.prog 18 #[.slice ad Rs.length cp, S meth, S path] w fun e w' => ∃ (num : Int) (p : List UInt8) (ns vs : List (List UInt8)) (al : List UInt8) (vn vv : Value) (Hn Hv : SH), FRes Rs meth (visK (KS Rs) meth 202 [] path [] none) num p ns vs al ∧ ns.length ≤ 200 ∧ e = .returned (.agg #[I num, S p, vn, vv, S al]) ∧ Own 9 1 vn ns.length (ns.map S) Hn ∧ Own 9 1 vv vs.length (vs.map S) Hv ∧ HF w (fun _ => False) (Hn ++ Hv) w' := by
  refine enter (fun _ => False) [] Tryd.func18 rfl Tryd.ntmps18 rfl rfl (HF.start w _) fun c hc => ?_
  subst hc
  refine GC.seq ?_
  refine GC.reg ?_  -- region 0, echo.go:26
  refine G.al Tryd.zeroValue33 rfl rfl (fun b6 hb6 => ?_)
  refine G.nil ?_
  refine GC.seq ?_
  refine GC.reg ?_  -- region 1, echo.go:27
  refine G.v (V.mv rfl) rfl ?_
  refine G.callW (fun v H2 => ∃ rb root rt eb zb z B T q R L, v = Pt zb 0 ∧ RInv T q R root L z B ∧ B ≤ 60000 ∧ L.reverse.map Rt.key = Rs.zipIdx ∧ H2 = RH rb root rt eb zb z T L ++ [⟨b6, true, .row [I 0, S [], .slice none 0 0, .slice none 0 0, S []] 33 (0, 0)⟩]) Tryd.call40 rfl rfl (fun w1 hw1 => ?_) ?_
  · refine (f40_any w1 ad cp Rs (fun i r hr => by obtain ⟨b, o, h1, h2⟩ := hat i r hr; exact ⟨b, o, h1, fun j v hj => hw1.cellOld (h2 j v hj) id⟩) hok hlen).mono fun e w' ⟨rb, root, rt, eb, zb, z, B, T, q, R, L, h1, h2, h3, h4, h5⟩ => ?_
    exact ⟨_, _, h1, hw1.after0 h5 (RH_w h2), rb, root, rt, eb, zb, z, B, T, q, R, L, rfl, h2, h3, h4, rfl⟩
  rintro v H2 ⟨rb, root, rt, eb, zb, z, B, T, q, R, L, rfl, hinv, hB, hkey, rfl⟩
  refine G.v (V.mv rfl) rfl ?_
  refine G.v (V.mv rfl) rfl ?_
  refine G.callW (fun v H2 => ∃ (num : Int) (p : List UInt8) (ns vals : List (List UInt8)) (al : List UInt8) (vn vv : Value) (Hn Hv : SH), FRes Rs meth (visK (KS Rs) meth 202 [] path [] none) num p ns (vals.take ns.length) al ∧ ns.length ≤ 200 ∧ ns.length ≤ vals.length ∧ v = .tuple #[I num, S p, vn, vv, S al] ∧ Own 9 1 vn ns.length (ns.map S) Hn ∧ Own 9 1 vv vals.length (vals.map S) Hv ∧ H2 = Hn ++ Hv ++ [⟨b6, true, .row [I 0, S [], .slice none 0 0, .slice none 0 0, S []] 33 (0, 0)⟩]) Tryd.call41 rfl rfl (fun w1 hw1 => ?_) ?_
  · obtain ⟨res, hrun, hvf⟩ := hinv.topRun meth path
    have hall : ∀ rt ∈ L, rt.nms.length ≤ 1000000 := fun r hr => by have := hinv.zl r hr; have := hinv.zz; omega
    have hzz := hinv.zz
    refine (f41_any w1 (fun _ => False) (RH rb root rt eb zb z T L) L T B rb root rt eb zb z meth path res (fun e he => ⟨hw1.has e (List.mem_append_left _ he), id⟩) (hinv.tok (by omega) (fun e he => ?_) (fun r hr e he => ?_)) (.head _) (.tail _ (.tail _ (.head _))) hpl (by omega) hinv.own hall hrun).mono fun e w' ⟨num, p, ns, vals, al, vn, vv, Hn, Hv, h1, h2, h3, h4, h5⟩ => ?_
    · exact .tail _ (.tail _ (.tail _ (.tail _ (List.mem_append_left _ he))))
    · exact .tail _ (.tail _ (.tail _ (.tail _ (List.mem_append_right _ (List.mem_flatMap.2 ⟨r, hr, he⟩)))))
    · have hnd := RH_nd (List.pairwise_append.1 hw1.nd).1
      have hfr := hinv.fres hnd hkey hvf h1
      have hzl := hinv.zlen hvf h1
      refine ⟨_, _, h2, ?_, num, p, ns, vals, al, vn, vv, Hn, Hv, hfr, ?_, ?_, rfl, h3, h4, rfl⟩
      · have := hw1.after0 h5 (fun e he => by
          rcases List.mem_append.1 he with he | he
          · exact h3.w e he
          · exact h4.w e he)
        exact this.sub (List.Sublist.append (List.Sublist.refl _) (List.sublist_append_right _ _))
      · rcases hzl with h | h
        · exact h.2.1
        · rw [h]; simp
      · rcases hzl with h | h
        · exact h.1
        · rw [h]; simp
  rintro v H2 ⟨num, p, ns, vals, al, vn, vv, Hn, Hv, hfr, hns2, hnsv, rfl, hown1, hown2, rfl⟩
  obtain ⟨adn, cpn, rfl⟩ := hown1.slice
  obtain ⟨adq, cpv, rfl⟩ := hown2.slice
  refine G.v (V.mv rfl) rfl ?_
  refine G.v (V.ex rfl rfl) rfl ?_
  refine G.v (V.ex rfl rfl) rfl ?_
  refine G.v (V.ex rfl rfl) rfl ?_
  refine G.v (V.ex rfl rfl) rfl ?_
  refine G.v (V.ex rfl rfl) rfl ?_
  refine G.v (V.asg rfl) rfl ?_
  refine G.v (V.asg rfl) rfl ?_
  refine G.v (V.asg rfl) rfl ?_
  refine G.v (V.asg rfl) rfl ?_
  refine G.v (V.asg rfl) rfl ?_
  refine G.nil ?_
  refine GC.seq ?_
  refine GC.reg ?_  -- region 2, echo.go:28
  refine G.v (V.mv rfl) rfl ?_
  refine G.v (V.mv rfl) rfl ?_
  refine G.v (V.mv rfl) rfl ?_
  refine G.v (V.mv rfl) rfl ?_
  refine G.v (V.bd (ps := [(0, .tmp 24), (1, .tmp 25), (2, .tmp 26), (4, .tmp 27)]) (vs := [(0, I num), (1, S p), (2, .slice adn ns.length cpn), (4, S al)]) rfl (fun w1 => build33 num p al adn ns.length cpn w1)) rfl ?_
  refine G.al Tryd.zeroValue33 rfl rfl (fun b11 hb11 => ?_)
  refine G.stA (cs := [I num, S p, .slice adn ns.length cpn, .slice none 0 0, S al]) Tryd.sizeOf33 rfl rfl (fun v hv => ?_) .z rfl ?_
  · simp only [List.mem_cons, List.not_mem_nil, or_false] at hv
    rcases hv with rfl | rfl | rfl | rfl | rfl <;> rfl
  refine G.nil ?_
  refine GC.seq ?_
  refine GC.seq ?_
  refine GC.reg ?_  -- region 3, echo.go:29
  refine G.v (V.mv rfl) rfl ?_
  refine G.v (V.lenL Tryd.underlying24 rfl) rfl ?_
  refine G.v (V.mv rfl) rfl ?_
  refine G.nil ?_
  refine GC.block ?_
  refine GC.loopJ (fun N fr' H' => ∃ j vw Hw, j + N = ns.length ∧ Own 9 1 vw j ((vals.take j).map S) Hw ∧ Sub [(6, Pt b6 0), (11, Pt b11 0), (9, .slice adq vals.length cpv), (30, I (ns.length : Nat)), (31, I ((j : Nat) : Int))] fr' ∧ H' = ⟨b11, true, .row [I num, S p, .slice adn ns.length cpn, vw, S al] 33 (0, 0)⟩ :: (Hn ++ Hv ++ [⟨b6, true, .row [I 0, S [], .slice none 0 0, .slice none 0 0, S []] 33 (0, 0)⟩] ++ Hw)) ns.length
    ⟨0, _, [], by omega, .nil, .cons rfl (.cons rfl (.cons rfl (.cons rfl (.cons rfl .nil)))), ?_⟩ ?_
  · simp [putE]
  rintro N fr' H' ⟨j, vw, Hw, hj, hownw, hs, rfl⟩ ih
  refine GC.weak hs ?_
  clear hs
  obtain ⟨adw, cpw, rfl⟩ := hownw.slice
  refine GC.seq ?_
  refine GC.reg ?_  -- region 4, echo.go:29
  refine G.v (V.lt rfl rfl) rfl ?_
  refine G.nil ?_
  refine GC.seq ?_
  refine GC.condD rfl (fun h32 => ?_) (fun h32 => ?_)
  · refine GC.skip ?_
    refine GC.seq ?_
    refine GC.block ?_
    refine GC.seq ?_
    have hlt : j < ns.length := by omega
    obtain ⟨bv, cpv2, spv, hve, rfl⟩ := hown2.at (i := j) (by omega)
    simp only [Value.slice.injEq, true_and] at hve
    obtain ⟨rfl, rfl⟩ := hve
    obtain ⟨x, hx⟩ : ∃ x, vals[j]? = some x := ⟨_, List.getElem?_eq_getElem (by omega)⟩
    refine GC.reg ?_  -- region 5, echo.go:29
    refine G.v (V.mv rfl) rfl ?_
    refine G.v (V.asg rfl) rfl ?_
    refine G.nil ?_
    refine GC.seq ?_
    refine GC.reg ?_  -- region 6, echo.go:30
    refine G.v (V.mv rfl) rfl ?_
    refine G.v (V.mv rfl) rfl ?_
    refine G.v (V.lenL Tryd.underlying24 rfl) rfl ?_
    refine G.v (V.lt rfl rfl) rfl ?_
    refine G.nil ?_
    refine GC.condD rfl (fun h37 => ?_) (fun h37 => absurd h37 (by omega))
    refine GC.join (fun fr' H' => ∃ vw' Hs', Own 9 1 vw' (j + 1) ((vals.take (j + 1)).map S) Hs' ∧ Sub [(6, Pt b6 0), (11, Pt b11 0), (9, .slice (some ⟨bv, 0, none⟩) vals.length cpv), (30, I (ns.length : Nat)), (31, I ((j : Nat) : Int))] fr' ∧ H' = ⟨b11, true, .row [I num, S p, .slice adn ns.length cpn, vw', S al] 33 (0, 0)⟩ :: (Hn ++ [⟨bv, true, .row (vals.map S ++ spv) 9 (0, 0)⟩] ++ [⟨b6, true, .row [I 0, S [], .slice none 0 0, .slice none 0 0, S []] 33 (0, 0)⟩] ++ Hs')) (fun J7 => ?_) ?_
    · have hnx : nth (vals.map S ++ spv) (0 + j * 1) = some (S x) := by rw [nth_eq, Nat.zero_add, Nat.mul_one, List.getElem?_append_left (by simp; omega), List.getElem?_map, hx]; rfl
      have hSb : ∀ (H : SH) w1, HF w (fun _ => False) H w1 → (⟨bv, true, .row (vals.map S ++ spv) 9 (0, 0)⟩ : Ent) ∈ H → w1.cell? ⟨bv, 0 + j * 1, none⟩ = some (S x) := fun H w1 hw hm => cell_row hw hm hnx
      refine GC.regA (fun w1 => w1.cell? ⟨bv, 0 + j * 1, none⟩ = some (S x)) mixed ?_
      refine GA.p 0 rfl (by kernel_rfl) (fun w1 hw1 => hSb _ w1 hw1 (by simp)) (fun _ => V.fa F33_3 rfl) rfl ?_
      refine GA.p 2 rfl (by kernel_rfl) (fun w1 hw1 => hSb _ w1 hw1 (by simp)) (fun _ => V.mv rfl) rfl ?_
      refine GA.p 3 rfl (by kernel_rfl) (fun w1 hw1 => hSb _ w1 hw1 (by simp)) (fun _ => V.mv rfl) rfl ?_
      refine GA.p 4 rfl (by kernel_rfl) (fun w1 hw1 => hSb _ w1 hw1 (by simp)) (fun _ => V.ia (i := j) Tryd.underlying24 Tryd.sizeOf9 rfl rfl (by omega)) rfl ?_
      refine GA.ld 5 rfl (by kernel_rfl) (fun w1 hw1 => hSb _ w1 hw1 (by simp)) Tryd.isAgg9 rfl (fun w1 h => h) rfl ?_
      refine GA.two 1 6 rfl rfl (by kernel_rfl) ?_ ?_
      · refine GB.v (V.ld Tryd.isAgg24 rfl (.head _) rfl) (fun w1 hw1 => hSb _ w1 hw1 (by simp)) rfl ?_
        refine GA.one 6 rfl (by kernel_rfl) ?_
        refine GB.bs (BS.one Tryd.underlying24 Tryd.sizeOf9 Tryd.zeroValue9 (v := S x) rfl) rfl (fun w1 hw1 => hSb _ w1 hw1 (by simp)) rfl (fun tb => ?_)
        refine GA.one 7 rfl (by kernel_rfl) ?_
        refine GB.app (i := Tryd.t9) (sz := 1) (by_ := 16) Tryd.underlying24 rfl rfl rfl rfl rfl rfl rfl hownw (H' := [⟨tb, true, .row [S x] 9 (0, 0)⟩, ⟨b11, true, .row [I num, S p, .slice adn ns.length cpn, .slice adw j cpw, S al] 33 (0, 0)⟩] ++ (Hn ++ [⟨bv, true, .row (vals.map S ++ spv) 9 (0, 0)⟩] ++ [⟨b6, true, .row [I 0, S [], .slice none 0 0, .slice none 0 0, S []] 33 (0, 0)⟩])) ?_ (src_row (vs := [S x]) (r := []) (.head _)) rfl (by simp [Value.oneCell']) (by omega) (by omega) (by omega) (fun w1 hw1 => hSb _ w1 hw1 (by simp)) rfl (fun sv' Hs' hown' => ?_)
        · have p := perm_idx [[⟨tb, true, .row [S x] 9 (0, 0)⟩, ⟨b11, true, .row [I num, S p, .slice adn ns.length cpn, .slice adw j cpw, S al] 33 (0, 0)⟩], Hn, [⟨bv, true, .row (vals.map S ++ spv) 9 (0, 0)⟩], [⟨b6, true, .row [I 0, S [], .slice none 0 0, .slice none 0 0, S []] 33 (0, 0)⟩], Hw] [0, 1, 2, 3, 4] [4, 0, 1, 2, 3] (by decide)
          exact List.Perm.trans (.of_eq (by simp)) (p.trans (.of_eq (by simp)))
        obtain ⟨ad2, cp2, rfl⟩ := hown'.slice
        refine GA.one 8 rfl (by kernel_rfl) ?_
        refine GB.v (V.fa F33_3 rfl) (fun w1 hw1 => hSb _ w1 hw1 (by simp)) rfl ?_
        refine GA.one 9 rfl (by kernel_rfl) ?_
        refine GB.st Tryd.sizeOf24 rfl rfl rfl (.s .z) rfl rfl (fun w1 hw1 => hSb _ w1 hw1 (by simp [putE])) ?_
        refine GA.done (by kernel_rfl) ?_
        have htk : (vals.take j).map S ++ [S x] = (vals.take (j + 1)).map S := by
          rw [List.take_add_one, hx]; simp
        rw [htk] at hown'
        refine GC.turn (H' := ⟨b11, true, .row [I num, S p, .slice adn ns.length cpn, .slice ad2 (j + 1) cp2, S al] 33 (0, 0)⟩ :: (Hn ++ [⟨bv, true, .row (vals.map S ++ spv) 9 (0, 0)⟩] ++ [⟨b6, true, .row [I 0, S [], .slice none 0 0, .slice none 0 0, S []] 33 (0, 0)⟩] ++ Hs')) (fun w1 hw1 => ?_) (J7 _ _ ⟨_, Hs', hown', .cons rfl (.cons rfl (.cons rfl (.cons rfl (.cons rfl .nil)))), rfl⟩)
        have := hw1.sub (List.sublist_cons_self _ _)
        simpa [putE, setL] using this
      · refine GB.bs (BS.one Tryd.underlying24 Tryd.sizeOf9 Tryd.zeroValue9 (v := S x) rfl) rfl (fun w1 hw1 => hSb _ w1 hw1 (by simp)) rfl (fun tb => ?_)
        refine GA.one 1 rfl (by kernel_rfl) ?_
        refine GB.v (V.ld Tryd.isAgg24 rfl (.tail _ (.head _)) rfl) (fun w1 hw1 => hSb _ w1 hw1 (by simp)) rfl ?_
        refine GA.one 7 rfl (by kernel_rfl) ?_
        refine GB.app (i := Tryd.t9) (sz := 1) (by_ := 16) Tryd.underlying24 rfl rfl rfl rfl rfl rfl rfl hownw (H' := [⟨tb, true, .row [S x] 9 (0, 0)⟩, ⟨b11, true, .row [I num, S p, .slice adn ns.length cpn, .slice adw j cpw, S al] 33 (0, 0)⟩] ++ (Hn ++ [⟨bv, true, .row (vals.map S ++ spv) 9 (0, 0)⟩] ++ [⟨b6, true, .row [I 0, S [], .slice none 0 0, .slice none 0 0, S []] 33 (0, 0)⟩])) ?_ (src_row (vs := [S x]) (r := []) (.head _)) rfl (by simp [Value.oneCell']) (by omega) (by omega) (by omega) (fun w1 hw1 => hSb _ w1 hw1 (by simp)) rfl (fun sv' Hs' hown' => ?_)
        · have p := perm_idx [[⟨tb, true, .row [S x] 9 (0, 0)⟩, ⟨b11, true, .row [I num, S p, .slice adn ns.length cpn, .slice adw j cpw, S al] 33 (0, 0)⟩], Hn, [⟨bv, true, .row (vals.map S ++ spv) 9 (0, 0)⟩], [⟨b6, true, .row [I 0, S [], .slice none 0 0, .slice none 0 0, S []] 33 (0, 0)⟩], Hw] [0, 1, 2, 3, 4] [4, 0, 1, 2, 3] (by decide)
          exact List.Perm.trans (.of_eq (by simp)) (p.trans (.of_eq (by simp)))
        obtain ⟨ad2, cp2, rfl⟩ := hown'.slice
        refine GA.one 8 rfl (by kernel_rfl) ?_
        refine GB.v (V.fa F33_3 rfl) (fun w1 hw1 => hSb _ w1 hw1 (by simp)) rfl ?_
        refine GA.one 9 rfl (by kernel_rfl) ?_
        refine GB.st Tryd.sizeOf24 rfl rfl rfl (.s .z) rfl rfl (fun w1 hw1 => hSb _ w1 hw1 (by simp [putE])) ?_
        refine GA.done (by kernel_rfl) ?_
        have htk : (vals.take j).map S ++ [S x] = (vals.take (j + 1)).map S := by
          rw [List.take_add_one, hx]; simp
        rw [htk] at hown'
        refine GC.turn (H' := ⟨b11, true, .row [I num, S p, .slice adn ns.length cpn, .slice ad2 (j + 1) cp2, S al] 33 (0, 0)⟩ :: (Hn ++ [⟨bv, true, .row (vals.map S ++ spv) 9 (0, 0)⟩] ++ [⟨b6, true, .row [I 0, S [], .slice none 0 0, .slice none 0 0, S []] 33 (0, 0)⟩] ++ Hs')) (fun w1 hw1 => ?_) (J7 _ _ ⟨_, Hs', hown', .cons rfl (.cons rfl (.cons rfl (.cons rfl (.cons rfl .nil)))), rfl⟩)
        have := hw1.sub (List.sublist_cons_self _ _)
        simpa [putE, setL] using this
    rintro fr' H' ⟨vw', Hs', hown', hs7, rfl⟩
    refine GC.weak hs7 ?_
    clear hs7
    refine GC.inBlock ?_
    refine GC.reg ?_  -- region 8, echo.go:29
    refine G.v (V.addI rfl rfl rfl (by omega) (by omega)) rfl ?_
    refine G.v (V.mv rfl) rfl ?_
    refine G.nil ?_
    exact ih (N - 1) _ _ (by omega) ⟨j + 1, _, _, by omega, hown', .cons rfl (.cons rfl (.cons rfl (.cons rfl (.cons rfl .nil)))), rfl⟩
  refine GC.exit rfl ?_
  refine GC.seq ?_
  refine GC.reg ?_  -- region 9, echo.go:34
  refine G.v (V.ldA (cs := [I num, S p, .slice adn ns.length cpn, .slice adw j cpw, S al]) Tryd.isAgg33 Tryd.sizeOf33 rfl (.head _) rfl rfl) rfl ?_
  refine G.turn (H' := ⟨b6, true, .row [I 0, S [], .slice none 0 0, .slice none 0 0, S []] 33 (0, 0)⟩ :: (Hn ++ Hv ++ Hw)) (fun w1 hw1 => ?_) ?_
  · have p := perm_idx [Hn, Hv, [⟨b6, true, .row [I 0, S [], .slice none 0 0, .slice none 0 0, S []] 33 (0, 0)⟩], Hw] [0, 1, 2, 3] [2, 0, 1, 3] (by decide)
    exact (hw1.sub (List.sublist_cons_self _ _)).perm (List.Perm.trans (.of_eq (by simp)) (p.trans (.of_eq (by simp))))
  refine G.stA (cs := [I num, S p, .slice adn ns.length cpn, .slice adw j cpw, S al]) Tryd.sizeOf33 rfl rfl (fun v hv => ?_) .z rfl ?_
  · simp only [List.mem_cons, List.not_mem_nil, or_false] at hv
    rcases hv with rfl | rfl | rfl | rfl | rfl <;> rfl
  refine G.nil ?_
  have hjn : j = ns.length := by omega
  subst hjn
  refine GC.retC (cs := [I num, S p, .slice adn ns.length cpn, .slice adw ns.length cpw, S al]) rfl Tryd.isAgg33 Tryd.sizeOf33 rfl (by exact .head _) rfl fun w' hw' => ⟨num, p, ns, vals.take ns.length, al, _, _, Hn, Hw, hfr, hns2, rfl, hown1, ?_, ?_⟩
  · rw [List.length_take, Nat.min_eq_left hnsv]; exact hownw
  · refine hw'.sub ?_
    refine (List.Sublist.append (List.sublist_append_left Hn Hv) (List.Sublist.refl Hw)).trans (List.sublist_cons_self _ _)
end Go.Proofs

/- Small functions of the laws. Printed by wip/mk_h1.py. -/
namespace Go.Proofs
open Go Bw
set_option maxRecDepth 20000

def fitsR (r : RB) : Bool := decide (r.m.length ≤ 2147483647) && decide (r.p.length ≤ 2147483647) && decide (r.nm.length ≤ 2147483647)
def fitsT (xs : List (List UInt8)) : Bool := decide (xs.length ≤ 2147483647) && xs.all fun x => decide (x.length ≤ 2147483647)
def fitsRs (Rs : List RB) : Bool := decide (Rs.length ≤ 2147483647) && Rs.all fitsR
def ePath (p : List UInt8) : List UInt8 := if p.head? = some 47 then p else 47 :: p

theorem f12_any (w : World) (r : RB) : Calls Tryd.prog 12 #[.agg r.cells.toArray] w fun e w' => e = .returned (.bool (fitsR r)) ∧ HF w (fun _ => False) [] w' := by
  refine enter (fun _ => False) [] Tryd.func12 rfl Tryd.ntmps12 rfl rfl (HF.start w _) fun c hc => ?_
  subst hc
  refine GC.seq ?_
  refine GC.reg ?_  -- region 0, zz_fits.go:24
  refine G.bx (l := r.cells) rfl (by simp [cells_agg, RB.cells]) rfl (fun b1 hb1 => ?_)
  refine G.v (V.asg rfl) rfl ?_
  refine G.nil ?_
  refine GC.seq ?_
  refine GC.seq ?_
  refine GC.reg ?_  -- region 1, zz_fits.go:25
  refine G.v (V.fa F23_0 rfl) rfl ?_
  refine G.v (V.ld Tryd.isAgg9 rfl (.head _) rfl) rfl ?_
  refine G.v (V.lenS Tryd.underlying9 rfl) rfl ?_
  refine G.v (V.gt rfl rfl) rfl ?_
  refine G.nil ?_
  refine GC.condD rfl (fun h6 => ?_) (fun h6 => ?_)
  · refine GC.seq ?_
    refine GC.reg ?_  -- region 2, zz_fits.go:26
    refine G.v (V.asg rfl) rfl ?_
    refine G.nil ?_
    refine GC.ret1 rfl rfl fun w' hw' => ⟨?_, hw'.sub (List.nil_sublist _)⟩
    have e : fitsR r = false := by
      simp only [fitsR, Bool.and_eq_false_iff, decide_eq_false_iff_not]
      omega
    rw [e]
  refine GC.skip ?_
  refine GC.seq ?_
  refine GC.seq ?_
  refine GC.reg ?_  -- region 3, zz_fits.go:28
  refine G.v (V.fa F23_1 rfl) rfl ?_
  refine G.v (V.ld Tryd.isAgg9 rfl (.head _) rfl) rfl ?_
  refine G.v (V.lenS Tryd.underlying9 rfl) rfl ?_
  refine G.v (V.gt rfl rfl) rfl ?_
  refine G.nil ?_
  refine GC.condD rfl (fun h10 => ?_) (fun h10 => ?_)
  · refine GC.seq ?_
    refine GC.reg ?_  -- region 4, zz_fits.go:29
    refine G.v (V.asg rfl) rfl ?_
    refine G.nil ?_
    refine GC.ret1 rfl rfl fun w' hw' => ⟨?_, hw'.sub (List.nil_sublist _)⟩
    have e : fitsR r = false := by
      simp only [fitsR, Bool.and_eq_false_iff, decide_eq_false_iff_not]
      omega
    rw [e]
  refine GC.skip ?_
  refine GC.seq ?_
  refine GC.seq ?_
  refine GC.reg ?_  -- region 5, zz_fits.go:31
  refine G.v (V.fa F23_2 rfl) rfl ?_
  refine G.v (V.ld Tryd.isAgg9 rfl (.head _) rfl) rfl ?_
  refine G.v (V.lenS Tryd.underlying9 rfl) rfl ?_
  refine G.v (V.gt rfl rfl) rfl ?_
  refine G.nil ?_
  refine GC.condD rfl (fun h14 => ?_) (fun h14 => ?_)
  · refine GC.seq ?_
    refine GC.reg ?_  -- region 6, zz_fits.go:32
    refine G.v (V.asg rfl) rfl ?_
    refine G.nil ?_
    refine GC.ret1 rfl rfl fun w' hw' => ⟨?_, hw'.sub (List.nil_sublist _)⟩
    have e : fitsR r = false := by
      simp only [fitsR, Bool.and_eq_false_iff, decide_eq_false_iff_not]
      omega
    rw [e]
  refine GC.skip ?_
  refine GC.seq ?_
  refine GC.reg ?_  -- region 7, zz_fits.go:34
  refine G.v (V.asg rfl) rfl ?_
  refine G.nil ?_
  refine GC.ret1 rfl rfl fun w' hw' => ⟨?_, hw'.sub (List.nil_sublist _)⟩
  have e : fitsR r = true := by
    simp only [fitsR, Bool.and_eq_true, decide_eq_true_eq]
    omega
  rw [e]

theorem f13_any (w : World) (ad : Option Addr) (cp : Nat) (xs : List (List UInt8)) (hx : TxAt w ad xs) : Calls Tryd.prog 13 #[.slice ad xs.length cp] w fun e w' => e = .returned (.bool (fitsT xs)) ∧ HF w (fun _ => False) [] w' := by
  refine enter (fun _ => False) [] Tryd.func13 rfl Tryd.ntmps13 rfl rfl (HF.start w _) fun c hc => ?_
  subst hc
  refine GC.seq ?_
  refine GC.reg ?_  -- region 0, zz_fits.go:38
  refine G.v (V.asg rfl) rfl ?_
  refine G.nil ?_
  refine GC.seq ?_
  refine GC.seq ?_
  refine GC.reg ?_  -- region 1, zz_fits.go:39
  refine G.v (V.mv rfl) rfl ?_
  refine G.v (V.lenL Tryd.underlying24 rfl) rfl ?_
  refine G.v (V.gt rfl rfl) rfl ?_
  refine G.nil ?_
  refine GC.condD rfl (fun h7 => ?_) (fun h7 => ?_)
  · refine GC.seq ?_
    refine GC.reg ?_  -- region 2, zz_fits.go:40
    refine G.v (V.asg rfl) rfl ?_
    refine G.nil ?_
    refine GC.ret1 rfl rfl fun w' hw' => ⟨?_, hw'⟩
    have e : fitsT xs = false := by
      simp only [fitsT, Bool.and_eq_false_iff, decide_eq_false_iff_not]
      exact .inl (by omega)
    rw [e]
  refine GC.skip ?_
  refine GC.seq ?_
  refine GC.seq ?_
  refine GC.reg ?_  -- region 3, zz_fits.go:42
  refine G.v (V.mv rfl) rfl ?_
  refine G.v (V.lenL Tryd.underlying24 rfl) rfl ?_
  refine G.v (V.mv rfl) rfl ?_
  refine G.nil ?_
  refine GC.block ?_
  refine GC.loopJ (fun N fr' H' => ∃ j, j + N = xs.length ∧ (∀ x ∈ xs.take j, x.length ≤ 2147483647) ∧ Sub [(8, .slice ad xs.length cp), (9, I (xs.length : Nat)), (10, I ((j : Nat) : Int))] fr' ∧ H' = []) xs.length
    ⟨0, by omega, by simp, .cons rfl (.cons rfl (.cons rfl .nil)), rfl⟩ ?_
  rintro N fr' H' ⟨j, hj, hall, hs, rfl⟩ ih
  refine GC.weak hs ?_
  clear hs
  refine GC.seq ?_
  refine GC.reg ?_  -- region 4, zz_fits.go:42
  refine G.v (V.lt rfl rfl) rfl ?_
  refine G.nil ?_
  refine GC.seq ?_
  refine GC.condD rfl (fun h11 => ?_) (fun h11 => ?_)
  · refine GC.skip ?_
    refine GC.seq ?_
    refine GC.block ?_
    refine GC.seq ?_
    have hlt : j < xs.length := by omega
    obtain ⟨x, hxj⟩ : ∃ x, xs[j]? = some x := ⟨_, List.getElem?_eq_getElem hlt⟩
    obtain ⟨ab, o, rfl, hcell⟩ := hx j x hxj
    refine GC.reg ?_  -- region 5, zz_fits.go:42
    refine G.v (V.ia (i := j) Tryd.underlying24 Tryd.sizeOf9 rfl rfl hlt) rfl ?_
    refine G.v (V.ldC (v := S x) Tryd.isAgg9 rfl (by rw [Nat.mul_one]; exact hcell) id) rfl ?_
    refine G.v (V.asg rfl) rfl ?_
    refine G.nil ?_
    refine GC.seq ?_
    refine GC.reg ?_  -- region 6, zz_fits.go:43
    refine G.v (V.mv rfl) rfl ?_
    refine G.v (V.lenS Tryd.underlying9 rfl) rfl ?_
    refine G.v (V.gt rfl rfl) rfl ?_
    refine G.nil ?_
    refine GC.condD rfl (fun h16 => ?_) (fun h16 => ?_)
    · refine GC.seq ?_
      refine GC.reg ?_  -- region 7, zz_fits.go:44
      refine G.v (V.asg rfl) rfl ?_
      refine G.nil ?_
      refine GC.ret1 rfl rfl fun w' hw' => ⟨?_, hw'⟩
      have e : fitsT xs = false := by
        simp only [fitsT, Bool.and_eq_false_iff]
        refine .inr (Bool.eq_false_iff.2 fun h => ?_)
        have := List.all_eq_true.1 h x (List.mem_of_getElem? hxj)
        simp only [decide_eq_true_eq] at this
        omega
      rw [e]
    refine GC.skip ?_
    refine GC.inBlock ?_
    refine GC.reg ?_  -- region 8, zz_fits.go:42
    refine G.v (V.addI rfl rfl rfl (by omega) (by omega)) rfl ?_
    refine G.v (V.mv rfl) rfl ?_
    refine G.nil ?_
    refine ih (N - 1) _ _ (by omega) ⟨j + 1, by omega, ?_, .cons rfl (.cons rfl (.cons rfl .nil)), rfl⟩
    intro y hy
    rw [List.take_add_one, hxj] at hy
    rcases List.mem_append.1 hy with hy | hy
    · exact hall y hy
    · simp only [Option.toList, List.mem_singleton] at hy
      subst hy; omega
  refine GC.exit rfl ?_
  refine GC.seq ?_
  refine GC.reg ?_  -- region 9, zz_fits.go:47
  refine G.v (V.asg rfl) rfl ?_
  refine G.nil ?_
  refine GC.ret1 rfl rfl fun w' hw' => ⟨?_, hw'⟩
  have e : fitsT xs = true := by
    simp only [fitsT, Bool.and_eq_true, decide_eq_true_eq, List.all_eq_true]
    refine ⟨by omega, fun x hx => hall x ?_⟩
    rw [List.take_of_length_le (by omega)]; exact hx
  rw [e]

theorem f23_any (w : World) (ad : Option Addr) (cp : Nat) (Rs : List RB) (hat : RtsAt w ad Rs) : Calls Tryd.prog 23 #[.slice ad Rs.length cp] w fun e w' => e = .returned (.bool (fitsRs Rs)) ∧ HF w (fun _ => False) [] w' := by
  refine enter (fun _ => False) [] Tryd.func23 rfl Tryd.ntmps23 rfl rfl (HF.start w _) fun c hc => ?_
  subst hc
  refine GC.seq ?_
  refine GC.reg ?_  -- region 0, zz_fits.go:11
  refine G.v (V.asg rfl) rfl ?_
  refine G.nil ?_
  refine GC.seq ?_
  refine GC.seq ?_
  refine GC.reg ?_  -- region 1, zz_fits.go:12
  refine G.v (V.mv rfl) rfl ?_
  refine G.v (V.lenL Tryd.underlying28 rfl) rfl ?_
  refine G.v (V.gt rfl rfl) rfl ?_
  refine G.nil ?_
  refine GC.condD rfl (fun h7 => ?_) (fun h7 => ?_)
  · refine GC.seq ?_
    refine GC.reg ?_  -- region 2, zz_fits.go:13
    refine G.v (V.asg rfl) rfl ?_
    refine G.nil ?_
    refine GC.ret1 rfl rfl fun w' hw' => ⟨?_, hw'.sub (List.nil_sublist _)⟩
    have e : fitsRs Rs = false := by
      simp only [fitsRs, Bool.and_eq_false_iff, decide_eq_false_iff_not]
      exact .inl (by omega)
    rw [e]
  refine GC.skip ?_
  refine GC.seq ?_
  refine GC.seq ?_
  refine GC.reg ?_  -- region 3, zz_fits.go:15
  refine G.v (V.mv rfl) rfl ?_
  refine G.v (V.lenL Tryd.underlying28 rfl) rfl ?_
  refine G.v (V.mv rfl) rfl ?_
  refine G.nil ?_
  refine GC.block ?_
  refine GC.loopJ (fun N fr' H' => ∃ j, j + N = Rs.length ∧ (∀ x ∈ Rs.take j, fitsR x = true) ∧ Sub [(8, .slice ad Rs.length cp), (9, I (Rs.length : Nat)), (10, I ((j : Nat) : Int))] fr' ∧ H' = []) Rs.length
    ⟨0, by omega, by simp, .cons rfl (.cons rfl (.cons rfl .nil)), rfl⟩ ?_
  rintro N fr' H' ⟨j, hj, hall, hs, rfl⟩ ih
  refine GC.weak hs ?_
  clear hs
  refine GC.seq ?_
  refine GC.reg ?_  -- region 4, zz_fits.go:15
  refine G.v (V.lt rfl rfl) rfl ?_
  refine G.nil ?_
  refine GC.seq ?_
  refine GC.condD rfl (fun h11 => ?_) (fun h11 => ?_)
  · refine GC.skip ?_
    refine GC.seq ?_
    refine GC.block ?_
    refine GC.seq ?_
    have hlt : j < Rs.length := by omega
    obtain ⟨r, hr⟩ : ∃ r, Rs[j]? = some r := ⟨_, List.getElem?_eq_getElem hlt⟩
    obtain ⟨ab, o, rfl, hcell⟩ := hat j r hr
    refine GC.reg ?_  -- region 5, zz_fits.go:15
    refine G.v (V.ia (i := j) Tryd.underlying28 Tryd.sizeOf23 rfl rfl hlt) rfl ?_
    refine G.v (V.ldAC (cs := r.cells) Tryd.isAgg23 Tryd.sizeOf23 rfl hcell rfl id) rfl ?_
    refine G.al Tryd.zeroValue23 rfl rfl (fun xb hxb => ?_)
    refine G.stA (cs := r.cells) Tryd.sizeOf23 rfl rfl (fun v hv => ?_) .z rfl ?_
    · simp only [RB.cells, List.mem_cons, List.not_mem_nil, or_false] at hv
      rcases hv with rfl | rfl | rfl <;> rfl
    refine G.nil ?_
    refine GC.seq ?_
    refine GC.reg ?_  -- region 6, zz_fits.go:16
    refine G.v (V.ldA (cs := r.cells) Tryd.isAgg23 Tryd.sizeOf23 rfl (.head _) rfl rfl) rfl ?_
    refine G.callP Tryd.call12 rfl rfl (fun w1 hw1 => f12_any w1 r) ?_
    refine G.v (V.not rfl) rfl ?_
    refine G.nil ?_
    refine GC.cond rfl (fun h16 => ?_) (fun h16 => ?_)
    · refine GC.seq ?_
      refine GC.reg ?_  -- region 7, zz_fits.go:17
      refine G.v (V.asg rfl) rfl ?_
      refine G.nil ?_
      refine GC.ret1 rfl rfl fun w' hw' => ⟨?_, hw'.sub (List.nil_sublist _)⟩
      have e : fitsRs Rs = false := by
        simp only [fitsRs, Bool.and_eq_false_iff]
        refine .inr (Bool.eq_false_iff.2 fun h => ?_)
        have := List.all_eq_true.1 h r (List.mem_of_getElem? hr)
        rw [this] at h16; cases h16
      rw [e]
    refine GC.skip ?_
    refine GC.inBlock ?_
    refine GC.reg ?_  -- region 8, zz_fits.go:15
    refine G.v (V.addI rfl rfl rfl (by omega) (by omega)) rfl ?_
    refine G.v (V.mv rfl) rfl ?_
    refine G.nil ?_
    refine GC.weakH (List.nil_sublist _) (ih (N - 1) _ _ (by omega) ⟨j + 1, by omega, ?_, .cons rfl (.cons rfl (.cons rfl .nil)), rfl⟩)
    intro y hy
    rw [List.take_add_one, hr] at hy
    rcases List.mem_append.1 hy with hy | hy
    · exact hall y hy
    · simp only [Option.toList, List.mem_singleton] at hy
      subst hy; simpa using h16
  refine GC.exit rfl ?_
  refine GC.seq ?_
  refine GC.reg ?_  -- region 9, zz_fits.go:20
  refine G.v (V.asg rfl) rfl ?_
  refine G.nil ?_
  refine GC.ret1 rfl rfl fun w' hw' => ⟨?_, hw'.sub (List.nil_sublist _)⟩
  have e : fitsRs Rs = true := by
    simp only [fitsRs, Bool.and_eq_true, decide_eq_true_eq, List.all_eq_true]
    refine ⟨by omega, fun x hx => hall x ?_⟩
    rw [List.take_of_length_le (by omega)]; exact hx
  rw [e]

theorem f17_any (w : World) (l : List UInt8) (b : UInt8) (hl : l.length ≤ 1000000000000) : Calls Tryd.prog 17 #[S l, .int .u8 (b.toNat : Int)] w fun e w' => e = .returned (.bool (decide (b ∈ l))) ∧ HF w (fun _ => False) [] w' := by
  refine enter (fun _ => False) [] Tryd.func17 rfl Tryd.ntmps17 rfl rfl (HF.start w _) fun c hc => ?_
  subst hc
  refine GC.seq ?_
  refine GC.reg ?_  -- region 0, echo.go:28
  refine G.v (V.asg rfl) rfl ?_
  refine G.nil ?_
  refine GC.seq ?_
  refine GC.seq ?_
  refine GC.reg ?_  -- region 1, echo.go:29
  refine G.v (V.mv rfl) rfl ?_
  refine G.v (V.lenS Tryd.underlying9 rfl) rfl ?_
  refine G.v (V.mv rfl) rfl ?_
  refine G.nil ?_
  refine GC.block ?_
  refine GC.loopJ (fun N fr' H' => ∃ j, j + N = l.length ∧ b ∉ l.take j ∧ Sub [(0, S l), (1, .int .u8 (b.toNat : Int)), (7, I (l.length : Nat)), (8, I ((j : Nat) : Int))] fr' ∧ H' = []) l.length
    ⟨0, by omega, by simp, .cons rfl (.cons rfl (.cons rfl (.cons rfl .nil))), rfl⟩ ?_
  rintro N fr' H' ⟨j, hj, hall, hs, rfl⟩ ih
  refine GC.weak hs ?_
  clear hs
  refine GC.seq ?_
  refine GC.reg ?_  -- region 2, echo.go:29
  refine G.v (V.lt rfl rfl) rfl ?_
  refine G.nil ?_
  refine GC.seq ?_
  refine GC.condD rfl (fun h9 => ?_) (fun h9 => ?_)
  · refine GC.skip ?_
    refine GC.seq ?_
    refine GC.block ?_
    refine GC.seq ?_
    refine GC.reg ?_  -- region 3, echo.go:29
    refine G.v (V.mv rfl) rfl ?_
    refine G.v (V.asg rfl) rfl ?_
    refine G.nil ?_
    refine GC.seq ?_
    have hlt : j < l.length := by omega
    obtain ⟨x, hxj⟩ : ∃ x, l[j]? = some x := ⟨_, List.getElem?_eq_getElem hlt⟩
    refine GC.reg ?_  -- region 4, echo.go:30
    refine G.v (V.mv rfl) rfl ?_
    refine G.v (V.mv rfl) rfl ?_
    refine G.v (V.idx Tryd.underlying9 rfl rfl hxj) rfl ?_
    refine G.v (V.mv rfl) rfl ?_
    refine G.v (V.eqI rfl rfl) rfl ?_
    refine G.nil ?_
    refine GC.condD rfl (fun h15 => ?_) (fun h15 => ?_)
    · refine GC.seq ?_
      refine GC.reg ?_  -- region 5, echo.go:31
      refine G.v (V.asg rfl) rfl ?_
      refine G.nil ?_
      refine GC.ret1 rfl rfl fun w' hw' => ⟨?_, hw'⟩
      have hx : x = b := UInt8.toNat_inj.1 (by omega)
      have e : b ∈ l := by rw [← hx]; exact List.mem_of_getElem? hxj
      rw [decide_eq_true e]
    refine GC.skip ?_
    refine GC.inBlock ?_
    refine GC.reg ?_  -- region 6, echo.go:29
    refine G.v (V.addI rfl rfl rfl (by omega) (by omega)) rfl ?_
    refine G.v (V.mv rfl) rfl ?_
    refine G.nil ?_
    refine ih (N - 1) _ _ (by omega) ⟨j + 1, by omega, ?_, .cons rfl (.cons rfl (.cons rfl (.cons rfl .nil))), rfl⟩
    intro hy
    rw [List.take_add_one, hxj] at hy
    rcases List.mem_append.1 hy with hy | hy
    · exact hall hy
    · simp only [Option.toList, List.mem_singleton] at hy
      subst hy; exact h15 rfl
  refine GC.exit rfl ?_
  refine GC.seq ?_
  refine GC.reg ?_  -- region 7, echo.go:34
  refine G.v (V.asg rfl) rfl ?_
  refine G.nil ?_
  refine GC.ret1 rfl rfl fun w' hw' => ⟨?_, hw'⟩
  have e : ¬ b ∈ l := by
    rw [List.take_of_length_le (by omega)] at hall; exact hall
  rw [decide_eq_false e]

theorem f21_any (w : World) (p : List UInt8) (hp : p.length ≤ 1000000000000) : Calls Tryd.prog 21 #[S p] w fun e w' => e = .returned (S (ePath p)) ∧ HF w (fun _ => False) [] w' := by
  refine enter (fun _ => False) [] Tryd.func21 rfl Tryd.ntmps21 rfl rfl (HF.start w _) fun c hc => ?_
  subst hc
  refine GC.seq ?_
  refine GC.reg ?_  -- region 0, echo.go:14
  refine G.v (V.asg rfl) rfl ?_
  refine G.nil ?_
  refine GC.seq ?_
  refine GC.seq ?_
  refine GC.reg ?_  -- region 1, echo.go:15
  refine G.v (V.mv rfl) rfl ?_
  refine G.v (V.eqS rfl rfl) rfl ?_
  refine G.v (V.mv rfl) rfl ?_
  refine G.bc 5 rfl (fun h5 => ?_) (fun h5 => ?_)
  · refine G.sg rfl rfl rfl rfl rfl rfl ?_
    refine G.sg rfl rfl rfl rfl rfl rfl ?_
    refine G.sg rfl rfl rfl rfl rfl rfl ?_
    refine G.v (V.pickT rfl rfl) rfl ?_
    refine G.nil ?_
    refine GC.condT rfl ?_
    refine GC.seq ?_
    refine GC.reg ?_  -- region 2, echo.go:16
    refine G.v (V.mv rfl) rfl ?_
    refine G.v (V.cat rfl rfl (by simp only [List.length_cons, List.length_nil] at *; omega)) rfl ?_
    refine G.v (V.asg rfl) rfl ?_
    refine G.nil ?_
    refine GC.ret1 rfl rfl fun w' hw' => ⟨?_, hw'⟩
    have e : p = [] := of_decide_eq_true h5
    subst e; rfl
  · refine G.vg rfl rfl (V.mv rfl) rfl ?_
    obtain ⟨x, l, rfl⟩ : ∃ x l, p = x :: l := by
      cases p with
      | nil => simp at h5
      | cons x l => exact ⟨x, l, rfl⟩
    refine G.vg rfl rfl (V.idx (i := 0) (b := x) Tryd.underlying9 rfl rfl rfl) rfl ?_
    refine G.vg rfl rfl (V.neI rfl rfl) rfl ?_
    refine G.v (V.pickF rfl rfl) rfl ?_
    refine G.nil ?_
    refine GC.cond rfl (fun h9 => ?_) (fun h9 => ?_)
    · refine GC.seq ?_
      refine GC.reg ?_  -- region 2, echo.go:16
      refine G.v (V.mv rfl) rfl ?_
      refine G.v (V.cat rfl rfl (by simp only [List.length_cons, List.length_nil] at *; omega)) rfl ?_
      refine G.v (V.asg rfl) rfl ?_
      refine G.nil ?_
      refine GC.ret1 rfl rfl fun w' hw' => ⟨?_, hw'⟩
      have e : ¬ x = 47 := fun h => by subst h; simp at h9
      have e2 : ePath (x :: l) = 47 :: x :: l := by unfold ePath; rw [if_neg]; simpa using e
      rw [e2]; rfl
    refine GC.skip ?_
    refine GC.seq ?_
    refine GC.reg ?_  -- region 3, echo.go:18
    refine G.v (V.mv rfl) rfl ?_
    refine G.v (V.asg rfl) rfl ?_
    refine G.nil ?_
    refine GC.ret1 rfl rfl fun w' hw' => ⟨?_, hw'⟩
    have e : x = 47 := UInt8.toNat_inj.1 (show x.toNat = 47 by simp at h9; omega)
    have e2 : ePath (x :: l) = x :: l := by unfold ePath; rw [if_pos]; rw [e]; rfl
    rw [e2]

theorem f19_any (w : World) (ad : Option Addr) (cp : Nat) (Rs : List RB) (hat : RtsAt w ad Rs) (hl : Rs.length ≤ 1000000) : Calls Tryd.prog 19 #[.slice ad Rs.length cp] w fun e w' => ∃ v Hs, e = .returned v ∧ Own 51 3 v Rs.length (Rs.flatMap RB.cells) Hs ∧ HF w (fun _ => False) Hs w' := by
  refine enter (fun _ => False) [] Tryd.func19 rfl Tryd.ntmps19 rfl rfl (HF.start w _) fun c hc => ?_
  subst hc
  refine GC.seq ?_
  refine GC.reg ?_  -- region 0, echo.go:12
  refine G.v (V.asg rfl) rfl ?_
  refine G.nil ?_
  refine GC.seq ?_
  refine GC.reg ?_  -- region 1, echo.go:13
  refine G.v (V.asg rfl) rfl ?_
  refine G.nil ?_
  refine GC.seq ?_
  refine GC.seq ?_
  refine GC.reg ?_  -- region 2, echo.go:14
  refine G.v (V.mv rfl) rfl ?_
  refine G.v (V.lenL Tryd.underlying28 rfl) rfl ?_
  refine G.v (V.mv rfl) rfl ?_
  refine G.nil ?_
  refine GC.block ?_
  refine GC.loopJ (fun N fr' H' => ∃ j v, j + N = Rs.length ∧ Own 51 3 v j ((Rs.take j).flatMap RB.cells) H' ∧ Sub [(3, v), (6, .slice ad Rs.length cp), (7, I (Rs.length : Nat)), (8, I ((j : Nat) : Int))] fr') Rs.length
    ⟨0, _, by omega, .nil, .cons rfl (.cons rfl (.cons rfl (.cons rfl .nil)))⟩ ?_
  rintro N fr' H' ⟨j, v, hj, hown, hs⟩ ih
  refine GC.weak hs ?_
  clear hs
  refine GC.seq ?_
  refine GC.reg ?_  -- region 3, echo.go:14
  refine G.v (V.lt rfl rfl) rfl ?_
  refine G.nil ?_
  refine GC.seq ?_
  refine GC.condD rfl (fun h9 => ?_) (fun h9 => ?_)
  · refine GC.skip ?_
    refine GC.seq ?_
    refine GC.block ?_
    refine GC.seq ?_
    have hlt : j < Rs.length := by omega
    obtain ⟨r, hr⟩ : ∃ r, Rs[j]? = some r := ⟨_, List.getElem?_eq_getElem hlt⟩
    obtain ⟨ab, o, rfl, hcell⟩ := hat j r hr
    refine GC.reg ?_  -- region 4, echo.go:14
    refine G.v (V.ia (i := j) Tryd.underlying28 Tryd.sizeOf23 rfl rfl hlt) rfl ?_
    refine G.v (V.ldAC (cs := r.cells) Tryd.isAgg23 Tryd.sizeOf23 rfl hcell rfl id) rfl ?_
    refine G.al Tryd.zeroValue23 rfl rfl (fun xb hxb => ?_)
    refine G.stA (cs := r.cells) Tryd.sizeOf23 rfl rfl (fun v hv => ?_) .z rfl ?_
    · simp only [RB.cells, List.mem_cons, List.not_mem_nil, or_false] at hv
      rcases hv with rfl | rfl | rfl <;> rfl
    refine G.nil ?_
    refine GC.reg ?_  -- region 5, echo.go:15
    refine G.v (V.mv rfl) rfl ?_
    refine G.v (V.ldA (cs := r.cells) Tryd.isAgg23 Tryd.sizeOf23 rfl (.head _) rfl rfl) rfl ?_
    refine G.bs (BS.three (a := S r.m) (b := S r.p) (c := S r.nm) Tryd.underlying35 Tryd.sizeOf51 Tryd.zeroValue51) rfl rfl (fun tb htb => ?_)
    refine G.app (i := Tryd.t51) (sz := 3) (by_ := 48) Tryd.underlying35 rfl rfl rfl rfl rfl rfl rfl hown (H' := [(⟨tb, true, .row r.cells 51 (0, 0)⟩ : Ent), ⟨xb, true, .row r.cells 23 (0, 0)⟩]) ?_ (src_row (vs := r.cells) (r := []) (.head _)) rfl (by simp [Value.oneCell', RB.cells]) (by omega) (by omega) (by omega) rfl (fun sv' Hs' hown' => ?_)
    · exact List.perm_append_comm (l₁ := [(⟨tb, true, .row r.cells 51 (0, 0)⟩ : Ent), ⟨xb, true, .row r.cells 23 (0, 0)⟩])
    refine G.v (V.asg rfl) rfl ?_
    refine G.nil ?_
    refine GC.inBlock ?_
    refine GC.reg ?_  -- region 6, echo.go:14
    refine G.v (V.addI rfl rfl rfl (by omega) (by omega)) rfl ?_
    refine G.v (V.mv rfl) rfl ?_
    refine G.nil ?_
    refine GC.weakH (H' := Hs') ((List.sublist_cons_self _ _).trans (List.sublist_cons_self _ _)) (ih (N - 1) _ _ (by omega) ⟨j + 1, sv', by omega, ?_, .cons rfl (.cons rfl (.cons rfl (.cons rfl .nil)))⟩)
    rw [List.take_add_one, hr]
    simpa using hown'
  refine GC.exit rfl ?_
  refine GC.seq ?_
  refine GC.reg ?_  -- region 7, echo.go:17
  refine G.v (V.mv rfl) rfl ?_
  refine G.v (V.asg rfl) rfl ?_
  refine G.nil ?_
  have hjn : j = Rs.length := by omega
  subst hjn
  rw [List.take_of_length_le (Nat.le_refl _)] at hown
  exact GC.ret1 rfl rfl fun w' hw' => ⟨v, _, rfl, hown, hw'⟩
end Go.Proofs

/- Rules: slicing a slice; one of three; parts of a route. No program in sight. -/
namespace Bw
open Go Go.Proofs

section
variable {P : Program} {c : Cx} {n : Nat} {k : List Item} {fr : SF} {H : SH} {ops : Array Oper} {ty t : TypeId} {pos : String} {aft : Array Edge} {S0 : World → Prop} {fuel : Nat} {listed : Array Bool}
theorem V.slT {e : TypeId} {x y : Operand} {ad : Option Addr} {len cp i : Nat} {kd : IntKind} (hU : P.underlying t = some (.slice e)) (hs : ∀ w, (Go.sizeOf e).run P w = .ok 1 w) (hx : ev fr x = some (.slice ad len cp)) (hy : ev fr y = some (.int kd (i : Int))) (hi : i ≤ len) (_hc : len ≤ cp) :
    Val P c n (.slice t x (some y) none none) ty fr H (.slice (if cp = i then ad else ad.map (·.add i)) (len - i) (cp - i)) := by
  intro a w ha hw dst pos aft g
  simp [execOp, ha.eval hx, ha.eval hy, Instr.sliceAt, Instr.slice, underlying, hU, Instr.sliceBounds, Instr.sliceBound, asIntOf, hi, hs]
theorem GA.three (i i2 i3 : Nat) {o o2 o3 : Oper} (hi : ops[i]? = some o) (hi2 : ops[i2]? = some o2) (hi3 : ops[i3]? = some o3) (hr : (match Region.ready .any ops listed with | [j, j2, j3] => Nat.beq j i && Nat.beq j2 i2 && Nat.beq j3 i3 | _ => false) = true)
    (h : GB P c n k ops S0 fuel (listed.setIfInBounds i true) o fr H) (h2 : GB P c n k ops S0 fuel (listed.setIfInBounds i2 true) o2 fr H) (h3 : GB P c n k ops S0 fuel (listed.setIfInBounds i3 true) o3 fr H) : GA P c n k ops S0 (fuel + 1) listed fr H := by
  have hr' : Region.ready .any ops listed = [i, i2, i3] := by
    split at hr
    · rename_i j j2 j3 e
      simp only [Bool.and_eq_true] at hr
      rw [e, Nat.eq_of_beq_eq_true hr.1.1, Nat.eq_of_beq_eq_true hr.1.2, Nat.eq_of_beq_eq_true hr.2]
    · cases hr
  refine GA.all hr' rfl (fun j hj o' ho => ?_) (fun j hj => ?_)
  · simp only [List.mem_cons, List.not_mem_nil, or_false] at hj
    rcases hj with rfl | rfl | rfl
    · rw [hi] at ho; cases ho; exact h
    · rw [hi2] at ho; cases ho; exact h2
    · rw [hi3] at ho; cases ho; exact h3
  · simp only [List.mem_cons, List.not_mem_nil, or_false] at hj
    rcases hj with rfl | rfl | rfl
    · rw [hi]; rfl
    · rw [hi2]; rfl
    · rw [hi3]; rfl
theorem GA.lst {l' : Array Bool} (h : listed = l') (hk : GA P c n k ops S0 fuel l' fr H) : GA P c n k ops S0 fuel listed fr H := h ▸ hk
end

theorem _root_.Go.Proofs.TxAt.tail {w : World} {ad : Option Addr} {x : List UInt8} {xs : List (List UInt8)} {cp : Nat} (h : TxAt w ad (x :: xs)) (hc : (x :: xs).length ≤ cp) : TxAt w (if cp = 1 then ad else ad.map (·.add 1)) xs := by
  intro j y hy
  have hlt := (List.getElem?_eq_some_iff.1 hy).1
  rw [if_neg (by simp only [List.length_cons] at hc; omega)]
  obtain ⟨b, o, rfl, h1⟩ := h (j + 1) y (by simpa using hy)
  refine ⟨b, o + 1, by simp [Addr.add], ?_⟩
  rw [show o + 1 + j = o + (j + 1) by omega]
  exact h1

/-- the parts of a route: texts, colons, stars -/
def txt (acc : List UInt8) : List (List UInt8) := if acc = [] then [] else [acc]
def grp : List UInt8 → List Tok → List (List UInt8)
  | acc, [] => txt acc
  | acc, .b c :: u => grp (acc ++ [c]) u
  | acc, .P :: u => txt acc ++ [58] :: grp [] u
  | acc, .A :: u => txt acc ++ [42] :: grp [] u
def parts (p : List UInt8) : List (List UInt8) := grp [] (prs p none).1

theorem prs_some_end {s acc : List UInt8} (h : s = [] ∨ s.head? = some 47) : prs s (some acc) = ((prs s none).1, acc :: (prs s none).2) := by
  cases s with
  | nil => rfl
  | cons c r =>
    rcases h with h | h
    · cases h
    · simp only [List.head?_cons, Option.some.injEq] at h
      subst h
      simp [prs]
theorem prs_some_step {s acc : List UInt8} {c : UInt8} (h : c ≠ 47) : prs (c :: s) (some acc) = prs s (some (acc ++ [c])) := by simp [prs, h]
theorem prs_P' (s : List UInt8) : prs (58 :: s) none = (.P :: (prs s (some [])).1, (prs s (some [])).2) := by simp [prs]
theorem prs_A' (s : List UInt8) : prs (42 :: s) none = (.A :: (prs s none).1, [42] :: (prs s none).2) := by simp [prs]
theorem prs_b' {c : UInt8} (s : List UInt8) (h : c ≠ 58) (h2 : c ≠ 42) : prs (c :: s) none = (.b c :: (prs s none).1, (prs s none).2) := by simp [prs, h, h2]

/-- EchoReverse: the first argument tells whether what is left of a parameter is passed over -/
def rv : Bool → List UInt8 → List (List UInt8) → List UInt8
  | _, [], _ => []
  | true, c :: r, ws => if c = 47 then c :: rv false r ws else rv true r ws
  | false, c :: r, [] => c :: rv false r []
  | false, c :: r, w :: ws => if c = 58 ∨ c = 42 then w ++ rv true r ws else c :: rv false r (w :: ws)

theorem drop_cons {α : Type} {l : List α} {i : Nat} {x : α} (h : l[i]? = some x) : l.drop i = x :: l.drop (i + 1) := by
  obtain ⟨h1, h2⟩ := List.getElem?_eq_some_iff.1 h
  rw [List.drop_eq_getElem_cons h1, h2]
theorem take_drop_succ {l : List UInt8} {i f : Nat} {x : UInt8} (h : l[i]? = some x) (hf : f ≤ i) : (l.take (i + 1)).drop f = (l.take i).drop f ++ [x] := by
  have h1 := (List.getElem?_eq_some_iff.1 h).1
  rw [List.take_add_one, h, Option.toList, List.drop_append_of_le_length (by rw [List.length_take]; omega)]
end Bw
namespace Bw
open Go Go.Proofs
/-- several ways to one place -/
theorem GA.via {P : Program} {c : Cx} {n : Nat} {k : List Item} {fr : SF} {H : SH} {ops : Array Oper} {S0 : World → Prop} {fuel : Nat} {listed : Array Bool} (J : SF → SH → Prop) (l' : Array Bool) (fuel' : Nat) (hk : ∀ fr' H', J fr' H' → GA P c n k ops S0 fuel' l' fr' H')
    (h : (∀ fr' H' l, l = l' → J fr' H' → GA P c n k ops S0 fuel' l fr' H') → GA P c n k ops S0 fuel listed fr H) : GA P c n k ops S0 fuel listed fr H :=
  h fun fr' H' _ e hj => e ▸ hk fr' H' hj
end Bw
namespace Bw
open Go Go.Proofs
/-- a guarded operation whose guard was passed over itself -/
theorem G.sgU {P : Program} {c : Cx} {n : Nat} {k : List Item} {fr : SF} {H : SH} {ops : Array Oper} {rest : List Oper} {o : Oper} {j t d : Nat} {want : Bool} (hg : o.guard = some (j, want)) (hdst : o.dst = some d) (hj : (ops[j]?).bind (·.dst) = some t) (hb : look t fr = some undef) (hd : Nat.blt d n = true)
    (hk : G P c n k ops rest ((d, undef) :: fr) H) : G P c n k ops (o :: rest) fr H := by
  intro hf a w ha hw
  refine wpList_step fun K hK => ?_
  have hy : yielded ops a.tmps j = none := by simp [yielded, hj, ha.at_ t _ hb, undef]
  have hwn : Region.wanted o (yielded ops a.tmps) = false := by simp [Region.wanted, hg, hy]
  simp only [hwn, hdst]
  exact hK _ _ (hk hf _ _ (ha.put hd undef) hw)
end Bw
