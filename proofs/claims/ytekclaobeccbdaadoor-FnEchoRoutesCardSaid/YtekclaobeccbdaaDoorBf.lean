/- The pieces of Router.Find. -/
import Derived.Test.YtekclaobeccbdaaDoorBe
/- Find: the head of its loop. Printed by wip/mk_f1.py. -/
namespace Go.Proofs
open Go Bw
set_option maxRecDepth 20000

def splitLoop : Code → List Item → Option (List Item)
  | .seq a b, k => match splitLoop a (.code b :: k) with
    | some r => some r
    | none => splitLoop b k
  | .block id (.loop x), k => some (.code x :: .inLoop x :: .inBlock id :: k)
  | _, _ => none
def sR : Code → Code
  | .seq _ b => b
  | c => c
def atScope (l : Nat) : List Item → Option (List Item)
  | .code (.block id (.scope y)) :: k => gotoIn l (.inScope y :: .inBlock id :: k)
  | _ => none
def strip : List Item → List Item
  | .code (.seq .skip r) :: k => .code r :: k
  | k => k
def midScope : List Item → List Item
  | .code (.block id (.scope y)) :: k => .code (sR (sR (sR (sR y)))) :: .inScope y :: .inBlock id :: k
  | k => k
/-- the loop's head, behind the text's match, Param, Any, behind the loop -/
noncomputable def K59 : List Item := (splitLoop ((Tryd.f59.body).getD .skip) []).getD []
noncomputable def K59m : List Item := midScope K59
noncomputable def K59p : List Item := strip ((atScope 0 K59).getD [])
noncomputable def K59a : List Item := strip ((atScope 1 K59).getD [])
noncomputable def K59e : List Item := K59.drop 3

theorem lcp_pre : ∀ (s p : List UInt8), lcp s p = p.length ↔ p <+: s
  | s, [] => by simp [lcp_nil_r]
  | [], b :: p => by simp [lcp]
  | a :: s, b :: p => by
    have := lcp_pre s p
    simp only [lcp, List.length_cons, List.cons_prefix_cons]
    split
    · rename_i e; simp [e, this]
    · rename_i e; constructor
      · intro h; omega
      · intro h; exact absurd h.1.symm e

/-- the closure's value -/
def cloV (B : LB) : Value := .func (.func 91) #[] #[Pt B.b9 0, Pt B.b13 0, Pt B.b14 0, Pt B.b15 0, Pt B.b6 0, Pt B.b12 0]
/-- the frame in the loop -/
def F59 (B : LB) (cb : Nat) (meth : List UInt8) (best : Option Nat) : SF :=
  [(1, S meth), (8, Pt cb 0), (9, Pt B.b9 0), (10, PO best), (11, PO none), (12, Pt B.b12 0), (13, Pt B.b13 0), (14, Pt B.b14 0), (15, Pt B.b15 0), (6, Pt B.b6 0), (16, cloV B)]
def H59 (B : LB) (path : List UInt8) (st : St) (cx : Ent) : SH := B.ents path (some st.n) st.si st.pi (path.drop st.si) st.vals ++ [cx]

theorem f59_top {R : Ending → World → Prop} {w : World} {D : Nat → Prop} {B : LB} {cb : Nat} {meth path : List UInt8} {st : St} {cx : Ent} {fr : SF} {r : NR} {E : SH} (hE : RF w D E) (hr : ∀ e ∈ r.ents, e ∈ E) (hn : r.n = st.n) (_hpl : path.length ≤ 1000000) (hprl : r.pre.length ≤ 1000000)
    (_hsi : st.si ≤ path.length) (_hpi1 : st.pi ≤ 1000000) (_hcxw : cx.w = true) (hs : Sub (F59 B cb meth st.best) fr) (hk : r.kd = 0 → r.pre <+: path.drop st.si)
    (h : ∀ fr', Sub ((18, I (((if r.kd = 0 then r.pre.length else 0) : Nat) : Int)) :: F59 B cb meth st.best) fr' → GC Tryd.prog ⟨59, Tryd.f59, R, w, D⟩ 316 K59m fr' (H59 B path st cx)) : GC Tryd.prog ⟨59, Tryd.f59, R, w, D⟩ 316 K59 fr (H59 B path st cx) := by
  have hrow : ∀ (i : Nat) (v : Value), nth r.row i = some v → w.cell? ⟨st.n, i, none⟩ = some v := fun i v hv => hn ▸ hE.cell (hr _ (.head _)) hv
  have hD : ¬ D st.n := hn ▸ hE.D (hr _ (.head _))
  refine GC.weak hs ?_
  refine GC.block ?_
  refine GC.scope ?_
  refine GC.seq ?_
  refine GC.reg ?_  -- region 10, router.go:584
  refine G.v (V.asg rfl) rfl ?_
  refine G.nil ?_
  refine GC.seq ?_
  refine GC.reg ?_  -- region 11, router.go:585
  refine G.v (V.asg rfl) rfl ?_
  refine G.nil ?_
  refine GC.seq ?_
  refine GC.seq ?_
  refine GC.reg ?_  -- region 12, router.go:587
  refine G.v (V.ld (v := Pt st.n 0) Tryd.isAgg136 rfl (.head _) rfl) rfl ?_
  refine G.v (V.nc rfl) rfl ?_
  refine G.v (V.fa F146_10 rfl) rfl ?_
  refine G.v (V.ldC Tryd.isAgg141 rfl (hrow 10 _ rfl) hD) rfl ?_
  refine G.v (V.eqI rfl rfl) rfl ?_
  refine G.nil ?_
  refine GC.join (fun fr' H' => Sub [(1, S meth), (8, Pt cb 0), (9, Pt B.b9 0), (10, PO st.best), (11, PO none), (12, Pt B.b12 0), (13, Pt B.b13 0), (14, Pt B.b14 0), (15, Pt B.b15 0), (6, Pt B.b6 0), (16, cloV B), (17, I (((if r.kd = 0 then r.pre.length else 0) : Nat) : Int)), (18, I (((if r.kd = 0 then r.pre.length else 0) : Nat) : Int))] fr' ∧ H' = H59 B path st cx) (fun J49 => ?_) ?_
  · refine GC.condD rfl (fun h49 => ?_) (fun h49 => ?_)
    · refine GC.seq ?_
      have hk0 : r.kd = 0 := by omega
      refine GC.reg ?_  -- region 13, router.go:588
      refine G.v (V.ld Tryd.isAgg9 rfl (.tail _ (.tail _ (.tail _ (.tail _ (.tail _ (.head _)))))) rfl) rfl ?_
      refine G.v (V.lenS Tryd.underlying9 rfl) rfl ?_
      refine G.v (V.asg rfl) rfl ?_
      refine G.nil ?_
      refine GC.seq ?_
      refine GC.reg ?_  -- region 14, router.go:589
      refine G.v (V.ld (v := Pt st.n 0) Tryd.isAgg136 rfl (.head _) rfl) rfl ?_
      refine G.v (V.nc rfl) rfl ?_
      refine G.v (V.fa F146_5 rfl) rfl ?_
      refine G.v (V.ldC Tryd.isAgg9 rfl (hrow 5 _ rfl) hD) rfl ?_
      refine G.v (V.lenS Tryd.underlying9 rfl) rfl ?_
      refine G.v (V.asg rfl) rfl ?_
      refine G.nil ?_
      refine GC.seq ?_
      refine GC.reg ?_  -- region 15, router.go:592
      refine G.v (V.mv rfl) rfl ?_
      refine G.v (V.asg rfl) rfl ?_
      refine G.nil ?_
      refine GC.seq ?_
      refine GC.seq ?_
      refine GC.reg ?_  -- region 16, router.go:593
      refine G.v (V.mv rfl) rfl ?_
      refine G.v (V.mv rfl) rfl ?_
      refine G.v (V.lt rfl rfl) rfl ?_
      refine G.nil ?_
      refine GC.join (fun fr' H' => Sub [(1, S meth), (8, Pt cb 0), (9, Pt B.b9 0), (10, PO st.best), (11, PO none), (12, Pt B.b12 0), (13, Pt B.b13 0), (14, Pt B.b14 0), (15, Pt B.b15 0), (6, Pt B.b6 0), (16, cloV B), (17, I (r.pre.length : Nat)), (18, I ((0 : Nat) : Int)), (20, I ((min r.pre.length (path.drop st.si).length : Nat) : Int))] fr' ∧ H' = H59 B path st cx) (fun J60 => ?_) ?_
      · refine GC.condD rfl (fun h60 => ?_) (fun h60 => ?_)
        · refine GC.reg ?_  -- region 17, router.go:594
          refine G.v (V.mv rfl) rfl ?_
          refine G.v (V.asg rfl) rfl ?_
          refine G.nil ?_
          refine J60 _ _ ⟨?_, rfl⟩
          rw [show (min r.pre.length (path.drop st.si).length) = (path.drop st.si).length by omega]
          exact .cons rfl (.cons rfl (.cons rfl (.cons rfl (.cons rfl (.cons rfl (.cons rfl (.cons rfl (.cons rfl (.cons rfl (.cons rfl (.cons rfl (.cons rfl (.cons rfl .nil)))))))))))))
        refine GC.skip ?_
        refine J60 _ _ ⟨?_, rfl⟩
        rw [show (min r.pre.length (path.drop st.si).length) = r.pre.length by omega]
        exact .cons rfl (.cons rfl (.cons rfl (.cons rfl (.cons rfl (.cons rfl (.cons rfl (.cons rfl (.cons rfl (.cons rfl (.cons rfl (.cons rfl (.cons rfl (.cons rfl .nil)))))))))))))
      rintro fr' H' ⟨hs2, rfl⟩
      refine GC.weak hs2 ?_
      clear hs2
      refine GC.join (fun fr' H' => Sub [(1, S meth), (8, Pt cb 0), (9, Pt B.b9 0), (10, PO st.best), (11, PO none), (12, Pt B.b12 0), (13, Pt B.b13 0), (14, Pt B.b14 0), (15, Pt B.b15 0), (6, Pt B.b6 0), (16, cloV B), (17, I (r.pre.length : Nat)), (18, I ((lcp (path.drop st.si) r.pre : Nat) : Int))] fr' ∧ H' = H59 B path st cx) (fun J2 => ?_) ?_
      · refine GC.block ?_
        refine GC.loopJ (fun N fr' H' => ∃ i, i + N = min r.pre.length (path.drop st.si).length ∧ i + lcp ((path.drop st.si).drop i) (r.pre.drop i) = lcp (path.drop st.si) r.pre ∧ Sub [(1, S meth), (8, Pt cb 0), (9, Pt B.b9 0), (10, PO st.best), (11, PO none), (12, Pt B.b12 0), (13, Pt B.b13 0), (14, Pt B.b14 0), (15, Pt B.b15 0), (6, Pt B.b6 0), (16, cloV B), (17, I (r.pre.length : Nat)), (18, I ((i : Nat) : Int)), (20, I ((min r.pre.length (path.drop st.si).length : Nat) : Int))] fr' ∧ H' = H59 B path st cx) (min r.pre.length (path.drop st.si).length)
          ⟨0, by omega, by simp, .cons rfl (.cons rfl (.cons rfl (.cons rfl (.cons rfl (.cons rfl (.cons rfl (.cons rfl (.cons rfl (.cons rfl (.cons rfl (.cons rfl (.cons rfl (.cons rfl .nil))))))))))))), rfl⟩ ?_
        rintro N2 fr' H' ⟨i, hi, hl, hs2, rfl⟩ ih2
        refine GC.weak hs2 ?_
        clear hs2
        refine GC.seq ?_
        refine GC.seq ?_
        refine GC.regQ mixed (by kernel_rfl) ?_  -- region 18, router.go:596
        refine GQ.v (V.mv rfl) rfl ?_
        refine GQ.v (V.mv rfl) rfl ?_
        refine GQ.v (V.lt rfl rfl) rfl ?_
        refine GQ.v (V.mv rfl) rfl ?_
        refine GQ.bc 65 rfl (fun h65 => ?_) (fun h65 => ?_)
        · have hlt := of_decide_eq_true h65
          have hst := lcp_step (path.drop st.si) r.pre i _ _ (getD_some (by omega)) (getD_some (by omega))
          refine GQ.vg rfl rfl (V.ld Tryd.isAgg9 rfl (.tail _ (.tail _ (.tail _ (.tail _ (.tail _ (.head _)))))) rfl) rfl ?_
          refine GQ.vg rfl rfl (V.mv rfl) rfl ?_
          refine GQ.vg rfl rfl (V.idx (i := i) (b := (path.drop st.si).getD i 0) Tryd.underlying9 rfl rfl (getD_some (by omega))) rfl ?_
          refine GQ.vg rfl rfl (V.ld (v := Pt st.n 0) Tryd.isAgg136 rfl (.head _) rfl) rfl ?_
          refine GQ.vg rfl rfl (V.nc rfl) rfl ?_
          refine GQ.vg rfl rfl (V.fa F146_5 rfl) rfl ?_
          refine GQ.vg rfl rfl (V.ldC Tryd.isAgg9 rfl (hrow 5 _ rfl) hD) rfl ?_
          refine GQ.vg rfl rfl (V.mv rfl) rfl ?_
          refine GQ.vg rfl rfl (V.idx (i := i) (b := r.pre.getD i 0) Tryd.underlying9 rfl rfl (getD_some (by omega))) rfl ?_
          refine GQ.vg rfl rfl (V.eqI rfl rfl) rfl ?_
          refine GQ.v (V.pickT rfl rfl) rfl ?_
          refine GQ.nil ?_
          refine GC.condD rfl (fun h76 => ?_) (fun h76 => ?_)
          · refine GC.skip ?_
            refine GC.seq ?_
            refine GC.block ?_
            refine GC.skip ?_
            refine GC.inBlock ?_
            refine GC.reg ?_  -- region 19, router.go:596
            refine G.v (V.mv rfl) rfl ?_
            refine G.v (V.addI rfl rfl rfl (by omega) (by omega)) rfl ?_
            refine G.v (V.asg rfl) rfl ?_
            refine G.nil ?_
            have e : (path.drop st.si).getD i 0 = r.pre.getD i 0 := UInt8.toNat_inj.1 (by omega)
            rw [if_pos e] at hst
            exact ih2 (N2 - 1) _ _ (by omega) ⟨i + 1, by omega, by omega, .cons rfl (.cons rfl (.cons rfl (.cons rfl (.cons rfl (.cons rfl (.cons rfl (.cons rfl (.cons rfl (.cons rfl (.cons rfl (.cons rfl (.cons rfl (.cons rfl .nil))))))))))))), rfl⟩
          refine GC.exit rfl ?_
          have e : ¬ (path.drop st.si).getD i 0 = r.pre.getD i 0 := fun e => h76 (by rw [e])
          rw [if_neg e] at hst
          refine J2 _ _ ⟨?_, rfl⟩
          rw [show lcp (path.drop st.si) r.pre = i by omega]
          exact .cons rfl (.cons rfl (.cons rfl (.cons rfl (.cons rfl (.cons rfl (.cons rfl (.cons rfl (.cons rfl (.cons rfl (.cons rfl (.cons rfl (.cons rfl .nil))))))))))))
        · refine GQ.sg rfl rfl rfl rfl rfl rfl ?_
          refine GQ.sg rfl rfl rfl rfl rfl rfl ?_
          refine GQ.sg rfl rfl rfl rfl rfl rfl ?_
          refine GQ.sg rfl rfl rfl rfl rfl rfl ?_
          refine GQ.sg rfl rfl rfl rfl rfl rfl ?_
          refine GQ.sg rfl rfl rfl rfl rfl rfl ?_
          refine GQ.sg rfl rfl rfl rfl rfl rfl ?_
          refine GQ.sg rfl rfl rfl rfl rfl rfl ?_
          refine GQ.sg rfl rfl rfl rfl rfl rfl ?_
          refine GQ.sg rfl rfl rfl rfl rfl rfl ?_
          refine GQ.v (V.pickF rfl rfl) rfl ?_
          refine GQ.nil ?_
          refine GC.condF rfl ?_
          refine GC.exit rfl ?_
          have hge := of_decide_eq_false h65
          have hst : lcp ((path.drop st.si).drop i) (r.pre.drop i) = 0 := by
            have h1 := lcp_le ((path.drop st.si).drop i) (r.pre.drop i)
            have e1 : ((path.drop st.si).drop i).length = (path.drop st.si).length - i := List.length_drop
            have e2 : (r.pre.drop i).length = r.pre.length - i := List.length_drop
            rw [e1, e2] at h1
            omega
          refine J2 _ _ ⟨?_, rfl⟩
          rw [show lcp (path.drop st.si) r.pre = i by omega]
          exact .cons rfl (.cons rfl (.cons rfl (.cons rfl (.cons rfl (.cons rfl (.cons rfl (.cons rfl (.cons rfl (.cons rfl (.cons rfl (.cons rfl (.cons rfl .nil))))))))))))
      rintro fr' H' ⟨hs2, rfl⟩
      refine GC.weak hs2 ?_
      clear hs2
      refine J49 _ _ ⟨?_, rfl⟩
      rw [if_pos hk0, ← (lcp_pre _ _).2 (hk hk0)]
      exact .cons rfl (.cons rfl (.cons rfl (.cons rfl (.cons rfl (.cons rfl (.cons rfl (.cons rfl (.cons rfl (.cons rfl (.cons rfl (.cons rfl (.cons rfl .nil))))))))))))
    refine GC.skip ?_
    have hk0 : ¬ r.kd = 0 := fun e => h49 (by rw [e]; rfl)
    refine J49 _ _ ⟨?_, rfl⟩
    rw [if_neg hk0]
    exact .cons rfl (.cons rfl (.cons rfl (.cons rfl (.cons rfl (.cons rfl (.cons rfl (.cons rfl (.cons rfl (.cons rfl (.cons rfl (.cons rfl (.cons rfl .nil))))))))))))
  rintro fr' H' ⟨hs2, rfl⟩
  refine GC.weak hs2 ?_
  clear hs2
  refine GC.seq ?_
  refine GC.seq ?_
  refine GC.reg ?_  -- region 20, router.go:600
  refine G.v (V.mv rfl) rfl ?_
  refine G.v (V.mv rfl) rfl ?_
  refine G.v (V.neI rfl rfl) rfl ?_
  refine G.nil ?_
  refine GC.cond rfl (fun h81 => absurd h81 (by simp)) (fun h81 => ?_)
  refine GC.skip ?_
  exact h _ (.cons rfl (.cons rfl (.cons rfl (.cons rfl (.cons rfl (.cons rfl (.cons rfl (.cons rfl (.cons rfl (.cons rfl (.cons rfl (.cons rfl .nil))))))))))))
theorem f59_off {R : Ending → World → Prop} {w : World} {D : Nat → Prop} {B : LB} {cb : Nat} {meth path : List UInt8} {st : St} {cx : Ent} {fr : SF} {r : NR} {E : SH} (hE : RF w D E) (hr : ∀ e ∈ r.ents, e ∈ E) (hn : r.n = st.n) (hpl : path.length ≤ 1000000) (hprl : r.pre.length ≤ 1000000)
    (hsi : st.si ≤ path.length) (hpi1 : st.pi ≤ 1000000) (_hcxw : cx.w = true) (hs : Sub (F59 B cb meth st.best) fr) (hk : r.kd = 0) (hno : ¬ r.pre <+: path.drop st.si) (h0 : r.par = none → ∀ w', HF w D (B.ents path none st.si st.pi (path.drop st.si) st.vals ++ [cx]) w' → R (.returned (.tuple #[])) w')
    (h1 : ∀ p fr', r.par = some p → Sub (F59 B cb meth st.best) fr' → GC Tryd.prog ⟨59, Tryd.f59, R, w, D⟩ 316 K59p fr' (H59 B path { st with n := p } cx)) : GC Tryd.prog ⟨59, Tryd.f59, R, w, D⟩ 316 K59 fr (H59 B path st cx) := by
  have hrow : ∀ (i : Nat) (v : Value), nth r.row i = some v → w.cell? ⟨st.n, i, none⟩ = some v := fun i v hv => hn ▸ hE.cell (hr _ (.head _)) hv
  have hD : ¬ D st.n := hn ▸ hE.D (hr _ (.head _))
  refine GC.weak hs ?_
  refine GC.block ?_
  refine GC.scope ?_
  refine GC.seq ?_
  refine GC.reg ?_  -- region 10, router.go:584
  refine G.v (V.asg rfl) rfl ?_
  refine G.nil ?_
  refine GC.seq ?_
  refine GC.reg ?_  -- region 11, router.go:585
  refine G.v (V.asg rfl) rfl ?_
  refine G.nil ?_
  refine GC.seq ?_
  refine GC.seq ?_
  refine GC.reg ?_  -- region 12, router.go:587
  refine G.v (V.ld (v := Pt st.n 0) Tryd.isAgg136 rfl (.head _) rfl) rfl ?_
  refine G.v (V.nc rfl) rfl ?_
  refine G.v (V.fa F146_10 rfl) rfl ?_
  refine G.v (V.ldC Tryd.isAgg141 rfl (hrow 10 _ rfl) hD) rfl ?_
  refine G.v (V.eqI rfl rfl) rfl ?_
  refine G.nil ?_
  refine GC.condD rfl (fun h49 => ?_) (fun h49 => absurd (by rw [hk]; rfl) h49)
  refine GC.seq ?_
  have hk0 : r.kd = 0 := by omega
  refine GC.reg ?_  -- region 13, router.go:588
  refine G.v (V.ld Tryd.isAgg9 rfl (.tail _ (.tail _ (.tail _ (.tail _ (.tail _ (.head _)))))) rfl) rfl ?_
  refine G.v (V.lenS Tryd.underlying9 rfl) rfl ?_
  refine G.v (V.asg rfl) rfl ?_
  refine G.nil ?_
  refine GC.seq ?_
  refine GC.reg ?_  -- region 14, router.go:589
  refine G.v (V.ld (v := Pt st.n 0) Tryd.isAgg136 rfl (.head _) rfl) rfl ?_
  refine G.v (V.nc rfl) rfl ?_
  refine G.v (V.fa F146_5 rfl) rfl ?_
  refine G.v (V.ldC Tryd.isAgg9 rfl (hrow 5 _ rfl) hD) rfl ?_
  refine G.v (V.lenS Tryd.underlying9 rfl) rfl ?_
  refine G.v (V.asg rfl) rfl ?_
  refine G.nil ?_
  refine GC.seq ?_
  refine GC.reg ?_  -- region 15, router.go:592
  refine G.v (V.mv rfl) rfl ?_
  refine G.v (V.asg rfl) rfl ?_
  refine G.nil ?_
  refine GC.seq ?_
  refine GC.seq ?_
  refine GC.reg ?_  -- region 16, router.go:593
  refine G.v (V.mv rfl) rfl ?_
  refine G.v (V.mv rfl) rfl ?_
  refine G.v (V.lt rfl rfl) rfl ?_
  refine G.nil ?_
  refine GC.join (fun fr' H' => Sub [(1, S meth), (8, Pt cb 0), (9, Pt B.b9 0), (10, PO st.best), (11, PO none), (12, Pt B.b12 0), (13, Pt B.b13 0), (14, Pt B.b14 0), (15, Pt B.b15 0), (6, Pt B.b6 0), (16, cloV B), (17, I (r.pre.length : Nat)), (18, I ((0 : Nat) : Int)), (20, I ((min r.pre.length (path.drop st.si).length : Nat) : Int))] fr' ∧ H' = H59 B path st cx) (fun J60 => ?_) ?_
  · refine GC.condD rfl (fun h60 => ?_) (fun h60 => ?_)
    · refine GC.reg ?_  -- region 17, router.go:594
      refine G.v (V.mv rfl) rfl ?_
      refine G.v (V.asg rfl) rfl ?_
      refine G.nil ?_
      refine J60 _ _ ⟨?_, rfl⟩
      rw [show (min r.pre.length (path.drop st.si).length) = (path.drop st.si).length by omega]
      exact .cons rfl (.cons rfl (.cons rfl (.cons rfl (.cons rfl (.cons rfl (.cons rfl (.cons rfl (.cons rfl (.cons rfl (.cons rfl (.cons rfl (.cons rfl (.cons rfl .nil)))))))))))))
    refine GC.skip ?_
    refine J60 _ _ ⟨?_, rfl⟩
    rw [show (min r.pre.length (path.drop st.si).length) = r.pre.length by omega]
    exact .cons rfl (.cons rfl (.cons rfl (.cons rfl (.cons rfl (.cons rfl (.cons rfl (.cons rfl (.cons rfl (.cons rfl (.cons rfl (.cons rfl (.cons rfl (.cons rfl .nil)))))))))))))
  rintro fr' H' ⟨hs2, rfl⟩
  refine GC.weak hs2 ?_
  clear hs2
  refine GC.join (fun fr' H' => Sub [(1, S meth), (8, Pt cb 0), (9, Pt B.b9 0), (10, PO st.best), (11, PO none), (12, Pt B.b12 0), (13, Pt B.b13 0), (14, Pt B.b14 0), (15, Pt B.b15 0), (6, Pt B.b6 0), (16, cloV B), (17, I (r.pre.length : Nat)), (18, I ((lcp (path.drop st.si) r.pre : Nat) : Int))] fr' ∧ H' = H59 B path st cx) (fun J2 => ?_) ?_
  · refine GC.block ?_
    refine GC.loopJ (fun N fr' H' => ∃ i, i + N = min r.pre.length (path.drop st.si).length ∧ i + lcp ((path.drop st.si).drop i) (r.pre.drop i) = lcp (path.drop st.si) r.pre ∧ Sub [(1, S meth), (8, Pt cb 0), (9, Pt B.b9 0), (10, PO st.best), (11, PO none), (12, Pt B.b12 0), (13, Pt B.b13 0), (14, Pt B.b14 0), (15, Pt B.b15 0), (6, Pt B.b6 0), (16, cloV B), (17, I (r.pre.length : Nat)), (18, I ((i : Nat) : Int)), (20, I ((min r.pre.length (path.drop st.si).length : Nat) : Int))] fr' ∧ H' = H59 B path st cx) (min r.pre.length (path.drop st.si).length)
      ⟨0, by omega, by simp, .cons rfl (.cons rfl (.cons rfl (.cons rfl (.cons rfl (.cons rfl (.cons rfl (.cons rfl (.cons rfl (.cons rfl (.cons rfl (.cons rfl (.cons rfl (.cons rfl .nil))))))))))))), rfl⟩ ?_
    rintro N2 fr' H' ⟨i, hi, hl, hs2, rfl⟩ ih2
    refine GC.weak hs2 ?_
    clear hs2
    refine GC.seq ?_
    refine GC.seq ?_
    refine GC.regQ mixed (by kernel_rfl) ?_  -- region 18, router.go:596
    refine GQ.v (V.mv rfl) rfl ?_
    refine GQ.v (V.mv rfl) rfl ?_
    refine GQ.v (V.lt rfl rfl) rfl ?_
    refine GQ.v (V.mv rfl) rfl ?_
    refine GQ.bc 65 rfl (fun h65 => ?_) (fun h65 => ?_)
    · have hlt := of_decide_eq_true h65
      have hst := lcp_step (path.drop st.si) r.pre i _ _ (getD_some (by omega)) (getD_some (by omega))
      refine GQ.vg rfl rfl (V.ld Tryd.isAgg9 rfl (.tail _ (.tail _ (.tail _ (.tail _ (.tail _ (.head _)))))) rfl) rfl ?_
      refine GQ.vg rfl rfl (V.mv rfl) rfl ?_
      refine GQ.vg rfl rfl (V.idx (i := i) (b := (path.drop st.si).getD i 0) Tryd.underlying9 rfl rfl (getD_some (by omega))) rfl ?_
      refine GQ.vg rfl rfl (V.ld (v := Pt st.n 0) Tryd.isAgg136 rfl (.head _) rfl) rfl ?_
      refine GQ.vg rfl rfl (V.nc rfl) rfl ?_
      refine GQ.vg rfl rfl (V.fa F146_5 rfl) rfl ?_
      refine GQ.vg rfl rfl (V.ldC Tryd.isAgg9 rfl (hrow 5 _ rfl) hD) rfl ?_
      refine GQ.vg rfl rfl (V.mv rfl) rfl ?_
      refine GQ.vg rfl rfl (V.idx (i := i) (b := r.pre.getD i 0) Tryd.underlying9 rfl rfl (getD_some (by omega))) rfl ?_
      refine GQ.vg rfl rfl (V.eqI rfl rfl) rfl ?_
      refine GQ.v (V.pickT rfl rfl) rfl ?_
      refine GQ.nil ?_
      refine GC.condD rfl (fun h76 => ?_) (fun h76 => ?_)
      · refine GC.skip ?_
        refine GC.seq ?_
        refine GC.block ?_
        refine GC.skip ?_
        refine GC.inBlock ?_
        refine GC.reg ?_  -- region 19, router.go:596
        refine G.v (V.mv rfl) rfl ?_
        refine G.v (V.addI rfl rfl rfl (by omega) (by omega)) rfl ?_
        refine G.v (V.asg rfl) rfl ?_
        refine G.nil ?_
        have e : (path.drop st.si).getD i 0 = r.pre.getD i 0 := UInt8.toNat_inj.1 (by omega)
        rw [if_pos e] at hst
        exact ih2 (N2 - 1) _ _ (by omega) ⟨i + 1, by omega, by omega, .cons rfl (.cons rfl (.cons rfl (.cons rfl (.cons rfl (.cons rfl (.cons rfl (.cons rfl (.cons rfl (.cons rfl (.cons rfl (.cons rfl (.cons rfl (.cons rfl .nil))))))))))))), rfl⟩
      refine GC.exit rfl ?_
      have e : ¬ (path.drop st.si).getD i 0 = r.pre.getD i 0 := fun e => h76 (by rw [e])
      rw [if_neg e] at hst
      refine J2 _ _ ⟨?_, rfl⟩
      rw [show lcp (path.drop st.si) r.pre = i by omega]
      exact .cons rfl (.cons rfl (.cons rfl (.cons rfl (.cons rfl (.cons rfl (.cons rfl (.cons rfl (.cons rfl (.cons rfl (.cons rfl (.cons rfl (.cons rfl .nil))))))))))))
    · refine GQ.sg rfl rfl rfl rfl rfl rfl ?_
      refine GQ.sg rfl rfl rfl rfl rfl rfl ?_
      refine GQ.sg rfl rfl rfl rfl rfl rfl ?_
      refine GQ.sg rfl rfl rfl rfl rfl rfl ?_
      refine GQ.sg rfl rfl rfl rfl rfl rfl ?_
      refine GQ.sg rfl rfl rfl rfl rfl rfl ?_
      refine GQ.sg rfl rfl rfl rfl rfl rfl ?_
      refine GQ.sg rfl rfl rfl rfl rfl rfl ?_
      refine GQ.sg rfl rfl rfl rfl rfl rfl ?_
      refine GQ.sg rfl rfl rfl rfl rfl rfl ?_
      refine GQ.v (V.pickF rfl rfl) rfl ?_
      refine GQ.nil ?_
      refine GC.condF rfl ?_
      refine GC.exit rfl ?_
      have hge := of_decide_eq_false h65
      have hst : lcp ((path.drop st.si).drop i) (r.pre.drop i) = 0 := by
        have h1 := lcp_le ((path.drop st.si).drop i) (r.pre.drop i)
        have e1 : ((path.drop st.si).drop i).length = (path.drop st.si).length - i := List.length_drop
        have e2 : (r.pre.drop i).length = r.pre.length - i := List.length_drop
        rw [e1, e2] at h1
        omega
      refine J2 _ _ ⟨?_, rfl⟩
      rw [show lcp (path.drop st.si) r.pre = i by omega]
      exact .cons rfl (.cons rfl (.cons rfl (.cons rfl (.cons rfl (.cons rfl (.cons rfl (.cons rfl (.cons rfl (.cons rfl (.cons rfl (.cons rfl (.cons rfl .nil))))))))))))
  rintro fr' H' ⟨hs2, rfl⟩
  refine GC.weak hs2 ?_
  clear hs2
  refine GC.seq ?_
  refine GC.seq ?_
  refine GC.reg ?_  -- region 20, router.go:600
  refine G.v (V.mv rfl) rfl ?_
  refine G.v (V.mv rfl) rfl ?_
  refine G.v (V.neI rfl rfl) rfl ?_
  refine G.nil ?_
  refine GC.cond rfl (fun h81 => ?_) (fun h81 => absurd ((lcp_pre _ _).1 (by simp at h81; omega)) hno)
  refine GC.seq ?_
  refine GC.reg ?_  -- region 21, router.go:602
  refine G.v (V.mv rfl) rfl ?_
  refine G.callVL (H1 := B.ents path (some st.n) st.si st.pi (path.drop st.si) st.vals) (Hk := [cx]) (fun v H1 => v = .tuple #[.int .u8 1, .bool r.par.isSome] ∧ H1 = B.ents path r.par st.si st.pi (path.drop st.si) st.vals) (.refl _) LB.w Tryd.call91 (x := .tmp 83) (xs := [.const (.int .u8 0)]) (vs := [.int .u8 0]) (cs := [Pt B.b9 0, Pt B.b13 0, Pt B.b14 0, Pt B.b15 0, Pt B.b6 0, Pt B.b12 0]) rfl rfl rfl (fun w1 hw0 hw1 => ?_) ?_
  · have hcl : ∀ (i : Nat) (v : Value), nth r.row i = some v → w1.cell? ⟨st.n, i, none⟩ = some v := fun i v hv => hw0.cellOld (hrow i v hv) hD
    refine (f91_s w1 _ B st.n r.par path r.pre (path.drop st.si) st.si st.pi st.vals hw1 (hcl 1 _ rfl) (hcl 5 _ rfl) (by rw [← hk]; exact hcl 10 _ rfl) ?_ hsi hpl hpi1).mono fun e w' ⟨h2, h3⟩ => ⟨_, _, h2, LB.w, h3, rfl, rfl⟩
    rintro ⟨e, he, heb⟩
    have hlt : st.n < w.heap.size := World.block_lt_of_cell? w ⟨st.n, 1, none⟩ (hrow 1 _ rfl)
    rcases hw0.wr e (List.mem_append_left _ he) (LB.w e he) with h2 | h2
    · exact hD (heb ▸ h2)
    · have h2 : w.heap.size ≤ e.b := h2
      omega
  rintro v H1 ⟨rfl, rfl⟩
  refine G.v (V.mv rfl) rfl ?_
  refine G.v (V.ex rfl rfl) rfl ?_
  refine G.v (V.ex rfl rfl) rfl ?_
  refine G.v (V.asg rfl) rfl ?_
  refine G.v (V.asg rfl) rfl ?_
  refine G.nil ?_
  refine GC.seq ?_
  refine GC.reg ?_  -- region 22, router.go:603
  refine G.v (V.mv rfl) rfl ?_
  refine G.v (V.not rfl) rfl ?_
  refine G.nil ?_
  refine GC.cond rfl (fun h88 => ?_) (fun h88 => ?_)
  · have hpn : r.par = none := by cases hpar : r.par with | none => rfl | some _ => rw [hpar] at h88; cases h88
    exact GC.ret0 rfl fun w' hw' => h0 hpn w' (hpn ▸ hw')
  refine GC.seq ?_
  refine GC.reg ?_  -- region 23, router.go:605
  refine G.v (V.mv rfl) rfl ?_
  refine G.v (V.eqI rfl rfl) rfl ?_
  refine G.nil ?_
  refine GC.condD rfl (fun h90 => ?_) (fun h90 => ?_)
  · refine GC.goto rfl ?_
    refine GC.seq ?_
    refine GC.skip ?_
    obtain ⟨p, hpar⟩ : ∃ p, r.par = some p := by cases hpar : r.par with | none => rw [hpar] at h88; cases h88 | some p => exact ⟨p, rfl⟩
    exact GC.turn (H' := H59 B path { st with n := p } cx) (fun w1 hw1 => by rw [hpar] at hw1; exact hw1) (h1 p _ hpar (.cons rfl (.cons rfl (.cons rfl (.cons rfl (.cons rfl (.cons rfl (.cons rfl (.cons rfl (.cons rfl (.cons rfl (.cons rfl .nil))))))))))))
  refine GC.exit rfl ?_
  exact absurd rfl h90
end Go.Proofs

/- Find: behind the match of a node's text. Printed by wip/mk_f2.py. -/
namespace Go.Proofs
open Go Bw
set_option maxRecDepth 20000

theorem kid_factsR {w1 : World} {T : List NR} {r : NR} {B : Nat} (hc : ∀ x ∈ T, ∀ b l t off v, (⟨b, true, .row l t (0, 0)⟩ : Ent) ∈ x.ents → nth l off = some v → w1.cell? ⟨b, off, none⟩ = some v) (hcl : Cl T) (hro : r.ok B) (hr : r ∈ T) :
    ∀ i p, (r.kids.map fun a => (a, lbl T a))[i]? = some p → ∃ a, r.ad = some ⟨a, 0, none⟩ ∧ w1.cell? ⟨a, i, none⟩ = some (Pt p.1 0) ∧ w1.cell? ⟨p.1, 9, none⟩ = some (.int .u8 (p.2.toNat : Int)) := by
  intro i p hp
  rw [List.getElem?_map] at hp
  cases hk : r.kids[i]? with
  | none => rw [hk] at hp; cases hp
  | some a =>
    rw [hk] at hp
    simp only [Option.map_some, Option.some.injEq] at hp
    subst hp
    have hi := (List.getElem?_eq_some_iff.1 hk).1
    obtain ⟨ab, spare, h1, h2⟩ := hro.arr hi
    obtain ⟨x, hx, rfl⟩ := hcl.kids r hr a (List.mem_of_getElem? hk)
    refine ⟨ab, h1, ?_, ?_⟩
    · refine hc r hr ab (r.kids.map (Pt · 0) ++ spare) 136 i _ (by simp [NR.ents, h2]) ?_
      rw [nth_eq, List.getElem?_append_left (by simpa using hi)]; simp [hk]
    · rw [show (lbl T x.n) = x.lab from lbl_of hcl.nd hx]
      exact hc x hx x.n x.row 146 9 _ (.head _) rfl

theorem mapAtR {w1 : World} {mp : Option Nat} {kv : AL} {Hm : SH} (h : MapH mp kv Hm) (hw : ∀ e ∈ Hm, w1.heap[e.b]? = some e.k.den) : MapAt w1 mp kv := by
  cases h with
  | nil => rfl
  | mk => exact hw _ (.head _)

theorem kidOf_eq (T : List NR) (r : NR) (l : UInt8) : ((r.kids.map fun a => (a, lbl T a)).find? fun p => p.2 == l).map (·.1) = kidOf T r l := by
  rw [List.find?_map, kidOf, Option.map_map]
  show Option.map id _ = _
  rw [Option.map_id]; rfl

theorem f59_hit {R : Ending → World → Prop} {w : World} {D : Nat → Prop} {B : LB} {cb Bd : Nat} {meth path : List UInt8} {st : St} {cx : Ent} {fr : SF} {r : NR} {E : SH} {T : List NR} (hE : RF w D E) (hTE : ∀ e ∈ ents T, e ∈ E) (hcl : Cl T) (hrT : r ∈ T) (hro : r.ok Bd) (_hBd : Bd ≤ 1000000) (hn : r.n = st.n) (hpl : path.length ≤ 1000000) (_hprl : r.pre.length ≤ 1000000)
    (hsi : adv r st.si ≤ path.length) (hs : Sub ((18, I (((if r.kd = 0 then r.pre.length else 0) : Nat) : Int)) :: F59 B cb meth st.best) fr) (he : path.drop (adv r st.si) = []) (hh : r.hdl = true) {h : Nat} (hg : getM r.f r.kv meth = some h)
    (k : ∀ fr', Sub [(1, S meth), (8, Pt cb 0), (9, Pt B.b9 0), (10, PO (best1 r path (adv r st.si) st.best)), (11, PO (some h))] fr' → GC Tryd.prog ⟨59, Tryd.f59, R, w, D⟩ 316 K59e fr' (H59 B path { st with si := adv r st.si } cx)) : GC Tryd.prog ⟨59, Tryd.f59, R, w, D⟩ 316 K59m fr (H59 B path st cx) := by
  have hr : ∀ e ∈ r.ents, e ∈ E := fun e he => hTE e (ents_mem hrT he)
  have hrow : ∀ (i : Nat) (v : Value), nth r.row i = some v → w.cell? ⟨st.n, i, none⟩ = some v := fun i v hv => hn ▸ hE.cell (hr _ (.head _)) hv
  have hmrow : ∀ (i : Nat) (v : Value), nth r.mr i = some v → w.cell? ⟨r.m, i, none⟩ = some v := fun i v hv => hE.cell (hr _ (.tail _ (.head _))) hv
  have hD : ¬ D st.n := hn ▸ hE.D (hr _ (.head _))
  have hDm : ¬ D r.m := hE.D (hr _ (.tail _ (.head _)))
  have hk18 : st.si + (if r.kd = 0 then r.pre.length else 0) = adv r st.si := by unfold adv; split <;> rfl
  have hmap : ∀ w1 H, HF w D H w1 → MapAt w1 r.mp r.kv := fun w1 H hw => mapAtR hro.hm fun e he => hw.old (hE e (hr e (.tail _ (.tail _ (List.mem_append_left _ he))))).1 (hE e (hr e (.tail _ (.tail _ (List.mem_append_left _ he))))).2
  have hkf : ∀ w1 H, HF w D H w1 → ∀ i p, (r.kids.map fun a => (a, lbl T a))[i]? = some p → ∃ a, r.ad = some ⟨a, 0, none⟩ ∧ w1.cell? ⟨a, i, none⟩ = some (Pt p.1 0) ∧ w1.cell? ⟨p.1, 9, none⟩ = some (.int .u8 (p.2.toNat : Int)) := fun w1 H hw =>
    kid_factsR (fun x hx b l t off v hm hv => hw.cellOld (hE.cell (hTE _ (ents_mem hx hm)) hv) (hE.D (hTE _ (ents_mem hx hm)))) hcl hro hrT
  refine GC.weak hs ?_
  refine GC.seq ?_
  refine GC.reg ?_  -- region 24, router.go:617
  refine G.v (V.ld Tryd.isAgg9 rfl (.tail _ (.tail _ (.tail _ (.tail _ (.tail _ (.head _)))))) rfl) rfl ?_
  refine G.v (V.mv rfl) rfl ?_
  refine G.v (V.slLe (l' := path.drop (adv r st.si)) Tryd.underlying9 rfl rfl (by rw [List.length_drop]; omega) (by rw [List.drop_drop, hk18])) rfl ?_
  refine G.st Tryd.sizeOf9 rfl rfl rfl (.s (.s (.s (.s (.s .z))))) rfl rfl ?_
  refine G.nil ?_
  refine GC.seq ?_
  refine GC.reg ?_  -- region 25, router.go:618
  refine G.v (V.ld Tryd.isAgg3 rfl (.tail _ (.head _)) rfl) rfl ?_
  refine G.v (V.mv rfl) rfl ?_
  refine G.v (V.addI (r := ((adv r st.si : Nat) : Int)) rfl rfl (by rw [← hk18]; omega) (by omega) (by omega)) rfl ?_
  refine G.st Tryd.sizeOf3 rfl rfl rfl (.s .z) rfl rfl ?_
  refine G.nil ?_
  refine GC.seq ?_
  refine GC.seq ?_
  refine GC.reg ?_  -- region 26, router.go:621
  refine G.v (V.ld Tryd.isAgg9 rfl (.tail _ (.tail _ (.tail _ (.tail _ (.tail _ (.head _)))))) rfl) rfl ?_
  refine G.v (V.eqS rfl rfl) rfl ?_
  refine G.nil ?_
  refine GC.condD rfl (fun h98 => ?_) (fun h98 => absurd he h98)
  refine GC.seq ?_
  refine GC.reg ?_  -- region 27, router.go:623
  refine G.v (V.ld (v := Pt st.n 0) Tryd.isAgg136 rfl (.head _) rfl) rfl ?_
  refine G.v (V.nc rfl) rfl ?_
  refine G.v (V.fa F146_12 rfl) rfl ?_
  refine G.v (V.ldC Tryd.isAgg4 rfl (hrow 12 _ rfl) hD) rfl ?_
  refine G.nil ?_
  refine GC.cond rfl (fun h102 => ?_) (fun h102 => by rw [hh] at h102; cases h102)
  refine GC.seq ?_
  refine GC.seq ?_
  refine GC.reg ?_  -- region 28, router.go:626
  refine G.v (V.mv rfl) rfl ?_
  refine G.v (V.eqO Tryd.underlying136 rfl) rfl ?_
  refine G.nil ?_
  refine GC.join (fun fr' H' => Sub [(1, S meth), (8, Pt cb 0), (9, Pt B.b9 0), (10, PO (best1 r path (adv r st.si) st.best)), (11, PO none), (12, Pt B.b12 0), (13, Pt B.b13 0), (14, Pt B.b14 0), (15, Pt B.b15 0), (6, Pt B.b6 0), (16, cloV B)] fr' ∧ H' = H59 B path { st with si := adv r st.si } cx) (fun J104 => ?_) ?_
  · refine GC.cond rfl (fun h104 => ?_) (fun h104 => ?_)
    · refine GC.reg ?_  -- region 29, router.go:627
      refine G.v (V.ld (v := Pt st.n 0) Tryd.isAgg136 rfl (.head _) rfl) rfl ?_
      refine G.v (V.asg rfl) rfl ?_
      refine G.nil ?_
      have hb : best1 r path (adv r st.si) st.best = some st.n := by rw [best1, if_pos ⟨he, h102, by cases hbb : st.best with | none => rfl | some _ => rw [hbb] at h104; cases h104⟩, hn]
      refine J104 _ _ ⟨?_, rfl⟩
      rw [hb]
      exact .cons rfl (.cons rfl (.cons rfl (.cons rfl (.cons rfl (.cons rfl (.cons rfl (.cons rfl (.cons rfl (.cons rfl (.cons rfl .nil))))))))))
    refine GC.skip ?_
    have hb : best1 r path (adv r st.si) st.best = st.best := by rw [best1, if_neg (fun h => by rw [h.2.2] at h104; cases h104)]
    refine J104 _ _ ⟨?_, rfl⟩
    rw [hb]
    exact .cons rfl (.cons rfl (.cons rfl (.cons rfl (.cons rfl (.cons rfl (.cons rfl (.cons rfl (.cons rfl (.cons rfl (.cons rfl .nil))))))))))
  rintro fr' H' ⟨hs2, rfl⟩
  refine GC.weak hs2 ?_
  clear hs2
  refine GC.seq ?_
  refine GC.reg ?_  -- region 30, router.go:629
  refine G.v (V.ld (v := Pt st.n 0) Tryd.isAgg136 rfl (.head _) rfl) rfl ?_
  refine G.v (V.mv rfl) rfl ?_
  refine G.callP Tryd.call92 rfl rfl (fun w1 hw1 => f92_any w1 st.n r.m r.f r.mp r.kv meth (hw1.cellOld (hrow 0 _ rfl) hD) (fun i hi => hw1.cellOld (hmrow i _ (mrow_nth hi)) hDm) (hw1.cellOld (hmrow 11 _ rfl) hDm) (hmap w1 _ hw1)) ?_
  refine G.v (V.asg rfl) rfl ?_
  refine G.nil ?_
  refine GC.seq ?_
  refine GC.reg ?_  -- region 31, router.go:629
  refine G.v (V.mv rfl) rfl ?_
  refine G.v (V.neO Tryd.underlying140 rfl) rfl ?_
  refine G.nil ?_
  refine GC.cond rfl (fun h110 => ?_) (fun h110 => by rw [hg] at h110; cases h110)
  refine GC.seq ?_
  refine GC.reg ?_  -- region 32, router.go:630
  refine G.v (V.mv rfl) rfl ?_
  refine G.v (V.asg rfl) rfl ?_
  refine G.nil ?_
  refine GC.exit rfl ?_
  refine k _ ?_
  rw [hg]
  exact .cons rfl (.cons rfl (.cons rfl (.cons rfl (.cons rfl .nil))))
theorem f59_nf {R : Ending → World → Prop} {w : World} {D : Nat → Prop} {B : LB} {cb Bd : Nat} {meth path : List UInt8} {st : St} {cx : Ent} {fr : SF} {r : NR} {E : SH} {T : List NR} (hE : RF w D E) (hTE : ∀ e ∈ ents T, e ∈ E) (hcl : Cl T) (hrT : r ∈ T) (hro : r.ok Bd) (_hBd : Bd ≤ 1000000) (hn : r.n = st.n) (hpl : path.length ≤ 1000000) (_hprl : r.pre.length ≤ 1000000)
    (hsi : adv r st.si ≤ path.length) (hs : Sub ((18, I (((if r.kd = 0 then r.pre.length else 0) : Nat) : Int)) :: F59 B cb meth st.best) fr) (he : path.drop (adv r st.si) = []) (hh : r.hdl = false) {h : Nat} (hg : r.nf = some h)
    (k : ∀ fr', Sub [(1, S meth), (8, Pt cb 0), (9, Pt B.b9 0), (10, PO st.best), (11, PO (some h))] fr' → GC Tryd.prog ⟨59, Tryd.f59, R, w, D⟩ 316 K59e fr' (H59 B path { st with si := adv r st.si } cx)) : GC Tryd.prog ⟨59, Tryd.f59, R, w, D⟩ 316 K59m fr (H59 B path st cx) := by
  have hr : ∀ e ∈ r.ents, e ∈ E := fun e he => hTE e (ents_mem hrT he)
  have hrow : ∀ (i : Nat) (v : Value), nth r.row i = some v → w.cell? ⟨st.n, i, none⟩ = some v := fun i v hv => hn ▸ hE.cell (hr _ (.head _)) hv
  have hmrow : ∀ (i : Nat) (v : Value), nth r.mr i = some v → w.cell? ⟨r.m, i, none⟩ = some v := fun i v hv => hE.cell (hr _ (.tail _ (.head _))) hv
  have hD : ¬ D st.n := hn ▸ hE.D (hr _ (.head _))
  have hDm : ¬ D r.m := hE.D (hr _ (.tail _ (.head _)))
  have hk18 : st.si + (if r.kd = 0 then r.pre.length else 0) = adv r st.si := by unfold adv; split <;> rfl
  have hmap : ∀ w1 H, HF w D H w1 → MapAt w1 r.mp r.kv := fun w1 H hw => mapAtR hro.hm fun e he => hw.old (hE e (hr e (.tail _ (.tail _ (List.mem_append_left _ he))))).1 (hE e (hr e (.tail _ (.tail _ (List.mem_append_left _ he))))).2
  have hkf : ∀ w1 H, HF w D H w1 → ∀ i p, (r.kids.map fun a => (a, lbl T a))[i]? = some p → ∃ a, r.ad = some ⟨a, 0, none⟩ ∧ w1.cell? ⟨a, i, none⟩ = some (Pt p.1 0) ∧ w1.cell? ⟨p.1, 9, none⟩ = some (.int .u8 (p.2.toNat : Int)) := fun w1 H hw =>
    kid_factsR (fun x hx b l t off v hm hv => hw.cellOld (hE.cell (hTE _ (ents_mem hx hm)) hv) (hE.D (hTE _ (ents_mem hx hm)))) hcl hro hrT
  refine GC.weak hs ?_
  refine GC.seq ?_
  refine GC.reg ?_  -- region 24, router.go:617
  refine G.v (V.ld Tryd.isAgg9 rfl (.tail _ (.tail _ (.tail _ (.tail _ (.tail _ (.head _)))))) rfl) rfl ?_
  refine G.v (V.mv rfl) rfl ?_
  refine G.v (V.slLe (l' := path.drop (adv r st.si)) Tryd.underlying9 rfl rfl (by rw [List.length_drop]; omega) (by rw [List.drop_drop, hk18])) rfl ?_
  refine G.st Tryd.sizeOf9 rfl rfl rfl (.s (.s (.s (.s (.s .z))))) rfl rfl ?_
  refine G.nil ?_
  refine GC.seq ?_
  refine GC.reg ?_  -- region 25, router.go:618
  refine G.v (V.ld Tryd.isAgg3 rfl (.tail _ (.head _)) rfl) rfl ?_
  refine G.v (V.mv rfl) rfl ?_
  refine G.v (V.addI (r := ((adv r st.si : Nat) : Int)) rfl rfl (by rw [← hk18]; omega) (by omega) (by omega)) rfl ?_
  refine G.st Tryd.sizeOf3 rfl rfl rfl (.s .z) rfl rfl ?_
  refine G.nil ?_
  refine GC.seq ?_
  refine GC.seq ?_
  refine GC.reg ?_  -- region 26, router.go:621
  refine G.v (V.ld Tryd.isAgg9 rfl (.tail _ (.tail _ (.tail _ (.tail _ (.tail _ (.head _)))))) rfl) rfl ?_
  refine G.v (V.eqS rfl rfl) rfl ?_
  refine G.nil ?_
  refine GC.condD rfl (fun h98 => ?_) (fun h98 => absurd he h98)
  refine GC.seq ?_
  refine GC.reg ?_  -- region 27, router.go:623
  refine G.v (V.ld (v := Pt st.n 0) Tryd.isAgg136 rfl (.head _) rfl) rfl ?_
  refine G.v (V.nc rfl) rfl ?_
  refine G.v (V.fa F146_12 rfl) rfl ?_
  refine G.v (V.ldC Tryd.isAgg4 rfl (hrow 12 _ rfl) hD) rfl ?_
  refine G.nil ?_
  refine GC.cond rfl (fun h102 => by rw [hh] at h102; cases h102) (fun h102 => ?_)
  refine GC.seq ?_
  refine GC.reg ?_  -- region 33, router.go:633
  refine G.v (V.ld (v := Pt st.n 0) Tryd.isAgg136 rfl (.head _) rfl) rfl ?_
  refine G.v (V.nc rfl) rfl ?_
  refine G.v (V.fa F146_4 rfl) rfl ?_
  refine G.v (V.ldC Tryd.isAgg140 rfl (hrow 4 _ rfl) hD) rfl ?_
  refine G.v (V.neO Tryd.underlying140 rfl) rfl ?_
  refine G.nil ?_
  refine GC.cond rfl (fun h116 => ?_) (fun h116 => by rw [hg] at h116; cases h116)
  refine GC.seq ?_
  refine GC.reg ?_  -- region 34, router.go:634
  refine G.v (V.ld (v := Pt st.n 0) Tryd.isAgg136 rfl (.head _) rfl) rfl ?_
  refine G.v (V.nc rfl) rfl ?_
  refine G.v (V.fa F146_4 rfl) rfl ?_
  refine G.v (V.ldC Tryd.isAgg140 rfl (hrow 4 _ rfl) hD) rfl ?_
  refine G.v (V.asg rfl) rfl ?_
  refine G.nil ?_
  refine GC.exit rfl ?_
  refine k _ ?_
  rw [hg]
  exact .cons rfl (.cons rfl (.cons rfl (.cons rfl (.cons rfl .nil))))
theorem f59_down {R : Ending → World → Prop} {w : World} {D : Nat → Prop} {B : LB} {cb Bd : Nat} {meth path : List UInt8} {st : St} {cx : Ent} {fr : SF} {r : NR} {E : SH} {T : List NR} (hE : RF w D E) (hTE : ∀ e ∈ ents T, e ∈ E) (hcl : Cl T) (hrT : r ∈ T) (hro : r.ok Bd) (hBd : Bd ≤ 1000000) (hn : r.n = st.n) (hpl : path.length ≤ 1000000) (_hprl : r.pre.length ≤ 1000000)
    (hsi : adv r st.si ≤ path.length) (hs : Sub ((18, I (((if r.kd = 0 then r.pre.length else 0) : Nat) : Int)) :: F59 B cb meth st.best) fr) (hne : path.drop (adv r st.si) ≠ []) {c : Nat} (hc : kidOf T r ((path.drop (adv r st.si)).headD 0) = some c)
    (k : ∀ fr', Sub (F59 B cb meth st.best) fr' → GC Tryd.prog ⟨59, Tryd.f59, R, w, D⟩ 316 K59 fr' (H59 B path { st with n := c, si := adv r st.si } cx)) : GC Tryd.prog ⟨59, Tryd.f59, R, w, D⟩ 316 K59m fr (H59 B path st cx) := by
  have hr : ∀ e ∈ r.ents, e ∈ E := fun e he => hTE e (ents_mem hrT he)
  have hrow : ∀ (i : Nat) (v : Value), nth r.row i = some v → w.cell? ⟨st.n, i, none⟩ = some v := fun i v hv => hn ▸ hE.cell (hr _ (.head _)) hv
  have hmrow : ∀ (i : Nat) (v : Value), nth r.mr i = some v → w.cell? ⟨r.m, i, none⟩ = some v := fun i v hv => hE.cell (hr _ (.tail _ (.head _))) hv
  have hD : ¬ D st.n := hn ▸ hE.D (hr _ (.head _))
  have hDm : ¬ D r.m := hE.D (hr _ (.tail _ (.head _)))
  have hk18 : st.si + (if r.kd = 0 then r.pre.length else 0) = adv r st.si := by unfold adv; split <;> rfl
  have hmap : ∀ w1 H, HF w D H w1 → MapAt w1 r.mp r.kv := fun w1 H hw => mapAtR hro.hm fun e he => hw.old (hE e (hr e (.tail _ (.tail _ (List.mem_append_left _ he))))).1 (hE e (hr e (.tail _ (.tail _ (List.mem_append_left _ he))))).2
  have hkf : ∀ w1 H, HF w D H w1 → ∀ i p, (r.kids.map fun a => (a, lbl T a))[i]? = some p → ∃ a, r.ad = some ⟨a, 0, none⟩ ∧ w1.cell? ⟨a, i, none⟩ = some (Pt p.1 0) ∧ w1.cell? ⟨p.1, 9, none⟩ = some (.int .u8 (p.2.toNat : Int)) := fun w1 H hw =>
    kid_factsR (fun x hx b l t off v hm hv => hw.cellOld (hE.cell (hTE _ (ents_mem hx hm)) hv) (hE.D (hTE _ (ents_mem hx hm)))) hcl hro hrT
  refine GC.weak hs ?_
  refine GC.seq ?_
  refine GC.reg ?_  -- region 24, router.go:617
  refine G.v (V.ld Tryd.isAgg9 rfl (.tail _ (.tail _ (.tail _ (.tail _ (.tail _ (.head _)))))) rfl) rfl ?_
  refine G.v (V.mv rfl) rfl ?_
  refine G.v (V.slLe (l' := path.drop (adv r st.si)) Tryd.underlying9 rfl rfl (by rw [List.length_drop]; omega) (by rw [List.drop_drop, hk18])) rfl ?_
  refine G.st Tryd.sizeOf9 rfl rfl rfl (.s (.s (.s (.s (.s .z))))) rfl rfl ?_
  refine G.nil ?_
  refine GC.seq ?_
  refine GC.reg ?_  -- region 25, router.go:618
  refine G.v (V.ld Tryd.isAgg3 rfl (.tail _ (.head _)) rfl) rfl ?_
  refine G.v (V.mv rfl) rfl ?_
  refine G.v (V.addI (r := ((adv r st.si : Nat) : Int)) rfl rfl (by rw [← hk18]; omega) (by omega) (by omega)) rfl ?_
  refine G.st Tryd.sizeOf3 rfl rfl rfl (.s .z) rfl rfl ?_
  refine G.nil ?_
  refine GC.seq ?_
  refine GC.seq ?_
  refine GC.reg ?_  -- region 26, router.go:621
  refine G.v (V.ld Tryd.isAgg9 rfl (.tail _ (.tail _ (.tail _ (.tail _ (.tail _ (.head _)))))) rfl) rfl ?_
  refine G.v (V.eqS rfl rfl) rfl ?_
  refine G.nil ?_
  refine GC.condD rfl (fun h98 => absurd h98 hne) (fun h98 => ?_)
  refine GC.skip ?_
  refine GC.seq ?_
  refine GC.seq ?_
  refine GC.reg ?_  -- region 35, router.go:640
  refine G.v (V.ld Tryd.isAgg9 rfl (.tail _ (.tail _ (.tail _ (.tail _ (.tail _ (.head _)))))) rfl) rfl ?_
  refine G.v (V.neS rfl rfl) rfl ?_
  refine G.nil ?_
  refine GC.cond rfl (fun h122 => ?_) (fun h122 => absurd hne (by simpa using h122))
  refine GC.seq ?_
  refine GC.regQ mixed (by kernel_rfl) ?_  -- region 36, router.go:641
  refine GQ.v (V.ld (v := Pt st.n 0) Tryd.isAgg136 rfl (.head _) rfl) rfl ?_
  refine GQ.v (V.ld Tryd.isAgg9 rfl (.tail _ (.tail _ (.tail _ (.tail _ (.tail _ (.head _)))))) rfl) rfl ?_
  refine GQ.v (V.idx (i := 0) (b := (path.drop (adv r st.si)).headD 0) Tryd.underlying9 rfl rfl (by cases hq : path.drop (adv r st.si) with | nil => exact absurd hq hne | cons => rfl)) rfl ?_
  refine GQ.callP (v := PO (kidOf T r ((path.drop (adv r st.si)).headD 0))) Tryd.call93 rfl rfl (fun w1 hw1 => (f93_any w1 st.n ((path.drop (adv r st.si)).headD 0) r.ad r.cp (r.kids.map fun a => (a, lbl T a)) (by rw [List.length_map]; exact hw1.cellOld (hrow 7 _ rfl) hD) (by rw [List.length_map]; have := hro.kidB; omega) (hkf w1 _ hw1)).mono fun e w2 h2 => ⟨by rw [h2.1, ← kidOf_eq], h2.2⟩) ?_
  refine GQ.v (V.asg rfl) rfl ?_
  refine GQ.nil ?_
  refine GC.seq ?_
  refine GC.reg ?_  -- region 37, router.go:641
  refine G.v (V.mv rfl) rfl ?_
  refine G.v (V.neO Tryd.underlying136 rfl) rfl ?_
  refine G.nil ?_
  refine GC.cond rfl (fun h128 => ?_) (fun h128 => by rw [hc] at h128; cases h128)
  refine GC.seq ?_
  refine GC.reg ?_  -- region 38, router.go:642
  refine G.v (V.mv rfl) rfl ?_
  refine G.st (v := PO (kidOf T r ((path.drop (adv r st.si)).headD 0))) Tryd.sizeOf136 rfl rfl (by cases kidOf T r ((path.drop (adv r st.si)).headD 0) <;> rfl) .z rfl rfl ?_
  refine G.nil ?_
  refine GC.exit rfl ?_
  refine GC.inLoop ?_
  refine GC.turn (H' := H59 B path { st with n := c, si := adv r st.si } cx) (fun w1 hw1 => by rw [hc] at hw1; exact hw1) (k _ ?_)
  exact .cons rfl (.cons rfl (.cons rfl (.cons rfl (.cons rfl (.cons rfl (.cons rfl (.cons rfl (.cons rfl (.cons rfl (.cons rfl .nil))))))))))
theorem f59_stay {R : Ending → World → Prop} {w : World} {D : Nat → Prop} {B : LB} {cb Bd : Nat} {meth path : List UInt8} {st : St} {cx : Ent} {fr : SF} {r : NR} {E : SH} {T : List NR} (hE : RF w D E) (hTE : ∀ e ∈ ents T, e ∈ E) (hcl : Cl T) (hrT : r ∈ T) (hro : r.ok Bd) (hBd : Bd ≤ 1000000) (hn : r.n = st.n) (hpl : path.length ≤ 1000000) (_hprl : r.pre.length ≤ 1000000)
    (hsi : adv r st.si ≤ path.length) (hs : Sub ((18, I (((if r.kd = 0 then r.pre.length else 0) : Nat) : Int)) :: F59 B cb meth st.best) fr) (he : path.drop (adv r st.si) = [] → (r.hdl = true → getM r.f r.kv meth = none) ∧ (r.hdl = false → r.nf = none)) (hc : path.drop (adv r st.si) ≠ [] → kidOf T r ((path.drop (adv r st.si)).headD 0) = none)
    (k : ∀ fr', Sub (F59 B cb meth (best1 r path (adv r st.si) st.best)) fr' → GC Tryd.prog ⟨59, Tryd.f59, R, w, D⟩ 316 K59p fr' (H59 B path { st with si := adv r st.si } cx)) : GC Tryd.prog ⟨59, Tryd.f59, R, w, D⟩ 316 K59m fr (H59 B path st cx) := by
  have hr : ∀ e ∈ r.ents, e ∈ E := fun e he => hTE e (ents_mem hrT he)
  have hrow : ∀ (i : Nat) (v : Value), nth r.row i = some v → w.cell? ⟨st.n, i, none⟩ = some v := fun i v hv => hn ▸ hE.cell (hr _ (.head _)) hv
  have hmrow : ∀ (i : Nat) (v : Value), nth r.mr i = some v → w.cell? ⟨r.m, i, none⟩ = some v := fun i v hv => hE.cell (hr _ (.tail _ (.head _))) hv
  have hD : ¬ D st.n := hn ▸ hE.D (hr _ (.head _))
  have hDm : ¬ D r.m := hE.D (hr _ (.tail _ (.head _)))
  have hk18 : st.si + (if r.kd = 0 then r.pre.length else 0) = adv r st.si := by unfold adv; split <;> rfl
  have hmap : ∀ w1 H, HF w D H w1 → MapAt w1 r.mp r.kv := fun w1 H hw => mapAtR hro.hm fun e he => hw.old (hE e (hr e (.tail _ (.tail _ (List.mem_append_left _ he))))).1 (hE e (hr e (.tail _ (.tail _ (List.mem_append_left _ he))))).2
  have hkf : ∀ w1 H, HF w D H w1 → ∀ i p, (r.kids.map fun a => (a, lbl T a))[i]? = some p → ∃ a, r.ad = some ⟨a, 0, none⟩ ∧ w1.cell? ⟨a, i, none⟩ = some (Pt p.1 0) ∧ w1.cell? ⟨p.1, 9, none⟩ = some (.int .u8 (p.2.toNat : Int)) := fun w1 H hw =>
    kid_factsR (fun x hx b l t off v hm hv => hw.cellOld (hE.cell (hTE _ (ents_mem hx hm)) hv) (hE.D (hTE _ (ents_mem hx hm)))) hcl hro hrT
  refine GC.weak hs ?_
  refine GC.seq ?_
  refine GC.reg ?_  -- region 24, router.go:617
  refine G.v (V.ld Tryd.isAgg9 rfl (.tail _ (.tail _ (.tail _ (.tail _ (.tail _ (.head _)))))) rfl) rfl ?_
  refine G.v (V.mv rfl) rfl ?_
  refine G.v (V.slLe (l' := path.drop (adv r st.si)) Tryd.underlying9 rfl rfl (by rw [List.length_drop]; omega) (by rw [List.drop_drop, hk18])) rfl ?_
  refine G.st Tryd.sizeOf9 rfl rfl rfl (.s (.s (.s (.s (.s .z))))) rfl rfl ?_
  refine G.nil ?_
  refine GC.seq ?_
  refine GC.reg ?_  -- region 25, router.go:618
  refine G.v (V.ld Tryd.isAgg3 rfl (.tail _ (.head _)) rfl) rfl ?_
  refine G.v (V.mv rfl) rfl ?_
  refine G.v (V.addI (r := ((adv r st.si : Nat) : Int)) rfl rfl (by rw [← hk18]; omega) (by omega) (by omega)) rfl ?_
  refine G.st Tryd.sizeOf3 rfl rfl rfl (.s .z) rfl rfl ?_
  refine G.nil ?_
  refine GC.seq ?_
  refine GC.seq ?_
  refine GC.reg ?_  -- region 26, router.go:621
  refine G.v (V.ld Tryd.isAgg9 rfl (.tail _ (.tail _ (.tail _ (.tail _ (.tail _ (.head _)))))) rfl) rfl ?_
  refine G.v (V.eqS rfl rfl) rfl ?_
  refine G.nil ?_
  refine GC.join (fun fr' H' => Sub [(1, S meth), (8, Pt cb 0), (9, Pt B.b9 0), (10, PO (best1 r path (adv r st.si) st.best)), (11, PO none), (12, Pt B.b12 0), (13, Pt B.b13 0), (14, Pt B.b14 0), (15, Pt B.b15 0), (6, Pt B.b6 0), (16, cloV B)] fr' ∧ H' = H59 B path { st with si := adv r st.si } cx) (fun J98 => ?_) ?_
  · refine GC.condD rfl (fun h98 => ?_) (fun h98 => ?_)
    · refine GC.seq ?_
      have he0 := he
      have he := h98
      refine GC.reg ?_  -- region 27, router.go:623
      refine G.v (V.ld (v := Pt st.n 0) Tryd.isAgg136 rfl (.head _) rfl) rfl ?_
      refine G.v (V.nc rfl) rfl ?_
      refine G.v (V.fa F146_12 rfl) rfl ?_
      refine G.v (V.ldC Tryd.isAgg4 rfl (hrow 12 _ rfl) hD) rfl ?_
      refine G.nil ?_
      refine GC.cond rfl (fun h102 => ?_) (fun h102 => ?_)
      · refine GC.seq ?_
        refine GC.seq ?_
        refine GC.reg ?_  -- region 28, router.go:626
        refine G.v (V.mv rfl) rfl ?_
        refine G.v (V.eqO Tryd.underlying136 rfl) rfl ?_
        refine G.nil ?_
        refine GC.join (fun fr' H' => Sub [(1, S meth), (8, Pt cb 0), (9, Pt B.b9 0), (10, PO (best1 r path (adv r st.si) st.best)), (11, PO none), (12, Pt B.b12 0), (13, Pt B.b13 0), (14, Pt B.b14 0), (15, Pt B.b15 0), (6, Pt B.b6 0), (16, cloV B)] fr' ∧ H' = H59 B path { st with si := adv r st.si } cx) (fun J104 => ?_) ?_
        · refine GC.cond rfl (fun h104 => ?_) (fun h104 => ?_)
          · refine GC.reg ?_  -- region 29, router.go:627
            refine G.v (V.ld (v := Pt st.n 0) Tryd.isAgg136 rfl (.head _) rfl) rfl ?_
            refine G.v (V.asg rfl) rfl ?_
            refine G.nil ?_
            have hb : best1 r path (adv r st.si) st.best = some st.n := by rw [best1, if_pos ⟨he, h102, by cases hbb : st.best with | none => rfl | some _ => rw [hbb] at h104; cases h104⟩, hn]
            refine J104 _ _ ⟨?_, rfl⟩
            rw [hb]
            exact .cons rfl (.cons rfl (.cons rfl (.cons rfl (.cons rfl (.cons rfl (.cons rfl (.cons rfl (.cons rfl (.cons rfl (.cons rfl .nil))))))))))
          refine GC.skip ?_
          have hb : best1 r path (adv r st.si) st.best = st.best := by rw [best1, if_neg (fun h => by rw [h.2.2] at h104; cases h104)]
          refine J104 _ _ ⟨?_, rfl⟩
          rw [hb]
          exact .cons rfl (.cons rfl (.cons rfl (.cons rfl (.cons rfl (.cons rfl (.cons rfl (.cons rfl (.cons rfl (.cons rfl (.cons rfl .nil))))))))))
        rintro fr' H' ⟨hs2, rfl⟩
        refine GC.weak hs2 ?_
        clear hs2
        refine GC.seq ?_
        refine GC.reg ?_  -- region 30, router.go:629
        refine G.v (V.ld (v := Pt st.n 0) Tryd.isAgg136 rfl (.head _) rfl) rfl ?_
        refine G.v (V.mv rfl) rfl ?_
        refine G.callP Tryd.call92 rfl rfl (fun w1 hw1 => f92_any w1 st.n r.m r.f r.mp r.kv meth (hw1.cellOld (hrow 0 _ rfl) hD) (fun i hi => hw1.cellOld (hmrow i _ (mrow_nth hi)) hDm) (hw1.cellOld (hmrow 11 _ rfl) hDm) (hmap w1 _ hw1)) ?_
        refine G.v (V.asg rfl) rfl ?_
        refine G.nil ?_
        refine GC.seq ?_
        refine GC.reg ?_  -- region 31, router.go:629
        refine G.v (V.mv rfl) rfl ?_
        refine G.v (V.neO Tryd.underlying140 rfl) rfl ?_
        refine G.nil ?_
        refine GC.cond rfl (fun h110 => by rw [(he0 h98).1 h102] at h110; cases h110) (fun h110 => ?_)
        refine GC.skip ?_
        exact J98 _ _ ⟨.cons rfl (.cons rfl (.cons rfl (.cons rfl (.cons rfl (.cons rfl (.cons rfl (.cons rfl (.cons rfl (.cons rfl (.cons rfl .nil)))))))))), rfl⟩
      refine GC.seq ?_
      refine GC.reg ?_  -- region 33, router.go:633
      refine G.v (V.ld (v := Pt st.n 0) Tryd.isAgg136 rfl (.head _) rfl) rfl ?_
      refine G.v (V.nc rfl) rfl ?_
      refine G.v (V.fa F146_4 rfl) rfl ?_
      refine G.v (V.ldC Tryd.isAgg140 rfl (hrow 4 _ rfl) hD) rfl ?_
      refine G.v (V.neO Tryd.underlying140 rfl) rfl ?_
      refine G.nil ?_
      refine GC.cond rfl (fun h116 => by rw [(he0 h98).2 h102] at h116; cases h116) (fun h116 => ?_)
      refine GC.skip ?_
      have hb : best1 r path (adv r st.si) st.best = st.best := by rw [best1, if_neg (fun h => by rw [h.2.1] at h102; cases h102)]
      refine J98 _ _ ⟨?_, rfl⟩
      rw [hb]
      exact .cons rfl (.cons rfl (.cons rfl (.cons rfl (.cons rfl (.cons rfl (.cons rfl (.cons rfl (.cons rfl (.cons rfl (.cons rfl .nil))))))))))
    refine GC.skip ?_
    have hb : best1 r path (adv r st.si) st.best = st.best := by rw [best1, if_neg (fun h => h98 h.1)]
    refine J98 _ _ ⟨?_, rfl⟩
    rw [hb]
    exact .cons rfl (.cons rfl (.cons rfl (.cons rfl (.cons rfl (.cons rfl (.cons rfl (.cons rfl (.cons rfl (.cons rfl (.cons rfl .nil))))))))))
  rintro fr' H' ⟨hs2, rfl⟩
  refine GC.weak hs2 ?_
  clear hs2
  refine GC.seq ?_
  refine GC.seq ?_
  refine GC.reg ?_  -- region 35, router.go:640
  refine G.v (V.ld Tryd.isAgg9 rfl (.tail _ (.tail _ (.tail _ (.tail _ (.tail _ (.head _)))))) rfl) rfl ?_
  refine G.v (V.neS rfl rfl) rfl ?_
  refine G.nil ?_
  refine GC.join (fun fr' H' => Sub [(1, S meth), (8, Pt cb 0), (9, Pt B.b9 0), (10, PO (best1 r path (adv r st.si) st.best)), (11, PO none), (12, Pt B.b12 0), (13, Pt B.b13 0), (14, Pt B.b14 0), (15, Pt B.b15 0), (6, Pt B.b6 0), (16, cloV B)] fr' ∧ H' = H59 B path { st with si := adv r st.si } cx) (fun J122 => ?_) ?_
  · refine GC.cond rfl (fun h122 => ?_) (fun h122 => ?_)
    · refine GC.seq ?_
      have hne : path.drop (adv r st.si) ≠ [] := by simpa using h122
      refine GC.regQ mixed (by kernel_rfl) ?_  -- region 36, router.go:641
      refine GQ.v (V.ld (v := Pt st.n 0) Tryd.isAgg136 rfl (.head _) rfl) rfl ?_
      refine GQ.v (V.ld Tryd.isAgg9 rfl (.tail _ (.tail _ (.tail _ (.tail _ (.tail _ (.head _)))))) rfl) rfl ?_
      refine GQ.v (V.idx (i := 0) (b := (path.drop (adv r st.si)).headD 0) Tryd.underlying9 rfl rfl (by cases hq : path.drop (adv r st.si) with | nil => exact absurd hq hne | cons => rfl)) rfl ?_
      refine GQ.callP (v := PO (kidOf T r ((path.drop (adv r st.si)).headD 0))) Tryd.call93 rfl rfl (fun w1 hw1 => (f93_any w1 st.n ((path.drop (adv r st.si)).headD 0) r.ad r.cp (r.kids.map fun a => (a, lbl T a)) (by rw [List.length_map]; exact hw1.cellOld (hrow 7 _ rfl) hD) (by rw [List.length_map]; have := hro.kidB; omega) (hkf w1 _ hw1)).mono fun e w2 h2 => ⟨by rw [h2.1, ← kidOf_eq], h2.2⟩) ?_
      refine GQ.v (V.asg rfl) rfl ?_
      refine GQ.nil ?_
      refine GC.seq ?_
      refine GC.reg ?_  -- region 37, router.go:641
      refine G.v (V.mv rfl) rfl ?_
      refine G.v (V.neO Tryd.underlying136 rfl) rfl ?_
      refine G.nil ?_
      refine GC.cond rfl (fun h128 => by rw [hc hne] at h128; cases h128) (fun h128 => ?_)
      refine GC.skip ?_
      exact J122 _ _ ⟨.cons rfl (.cons rfl (.cons rfl (.cons rfl (.cons rfl (.cons rfl (.cons rfl (.cons rfl (.cons rfl (.cons rfl (.cons rfl .nil)))))))))), rfl⟩
    refine GC.skip ?_
    exact J122 _ _ ⟨.cons rfl (.cons rfl (.cons rfl (.cons rfl (.cons rfl (.cons rfl (.cons rfl (.cons rfl (.cons rfl (.cons rfl (.cons rfl .nil)))))))))), rfl⟩
  rintro fr' H' ⟨hs2, rfl⟩
  refine GC.weak hs2 ?_
  clear hs2
  refine GC.seq ?_
  refine GC.label ?_
  exact k _ (.cons rfl (.cons rfl (.cons rfl (.cons rfl (.cons rfl (.cons rfl (.cons rfl (.cons rfl (.cons rfl (.cons rfl (.cons rfl .nil)))))))))))
end Go.Proofs

/- Find: Param. Printed by wip/mk_f3.py. -/
namespace Go.Proofs
open Go Bw
set_option maxRecDepth 20000

theorem upTo_le (s : List UInt8) : upTo s ≤ s.length := by
  unfold upTo
  have := congrArg List.length (List.takeWhile_append_dropWhile (p := fun c => c != 47) (l := s))
  rw [List.length_append] at this; omega
theorem upTo_step (s : List UInt8) (i : Nat) (h : i < s.length) : upTo (s.drop i) = if s.getD i 0 = 47 then 0 else upTo (s.drop (i + 1)) + 1 := by
  rw [List.drop_eq_getElem_cons h]
  have e : s.getD i 0 = s[i] := by simp [List.getD, List.getElem?_eq_getElem h]
  rw [e]
  unfold upTo
  by_cases h47 : s[i] = 47
  · rw [if_pos h47, List.takeWhile_cons, if_neg (by simp [h47])]; rfl
  · rw [if_neg h47, List.takeWhile_cons, if_pos (by simpa using h47)]; rfl
theorem set_row (vals : List (List UInt8)) (i : Nat) (s : List UInt8) : setL (vals.map S) (0 + i * 1) (S s) = (vals.set i s).map S := by rw [setL_set, Nat.zero_add, Nat.mul_one, List.map_set]
theorem set_some {vals : List (List UInt8)} {i : Nat} (h : i < vals.length) : (nth (vals.map S) (0 + i * 1)).isSome = true := by
  rw [nth_eq, Nat.zero_add, Nat.mul_one, List.getElem?_map, List.getElem?_eq_getElem h]; rfl

theorem f59_par {R : Ending → World → Prop} {w : World} {D : Nat → Prop} {B : LB} {cb : Nat} {meth path : List UInt8} {st : St} {cx : Ent} {fr : SF} {r : NR} {E : SH} {T : List NR} (hE : RF w D E) (hTE : ∀ e ∈ ents T, e ∈ E) (hrT : r ∈ T) (hn : r.n = st.n) (hpl : path.length ≤ 1000000)
    (hsi : st.si ≤ path.length) (hpi1 : st.pi ≤ 1000000) (hvz : st.vals.length = B.z) (hs : Sub (F59 B cb meth st.best) fr) {c : NR} (hp : r.pch = some c.n) (hc : c ∈ T) (hne : path.drop st.si ≠ []) (hv : st.pi < st.vals.length)
    (k : ∀ fr', Sub (F59 B cb meth st.best) fr' → GC Tryd.prog ⟨59, Tryd.f59, R, w, D⟩ 316 K59 fr' (H59 B path { st with n := c.n, si := st.si + (if c.leaf then (path.drop st.si).length else upTo (path.drop st.si)), pi := st.pi + 1, vals := st.vals.set st.pi ((path.drop st.si).take (if c.leaf then (path.drop st.si).length else upTo (path.drop st.si))) } cx)) : GC Tryd.prog ⟨59, Tryd.f59, R, w, D⟩ 316 K59p fr (H59 B path st cx) := by
  have hr : ∀ e ∈ r.ents, e ∈ E := fun e he => hTE e (ents_mem hrT he)
  have hrow : ∀ (i : Nat) (v : Value), nth r.row i = some v → w.cell? ⟨st.n, i, none⟩ = some v := fun i v hv => hn ▸ hE.cell (hr _ (.head _)) hv
  have hD : ¬ D st.n := hn ▸ hE.D (hr _ (.head _))
  refine GC.weak hs ?_
  have hcE : ∀ e ∈ c.ents, e ∈ E := fun e he => hTE e (ents_mem hc he)
  have hcrow : ∀ (i : Nat) (v : Value), nth c.row i = some v → w.cell? ⟨c.n, i, none⟩ = some v := fun i v hv => hE.cell (hcE _ (.head _)) hv
  have hDc : ¬ D c.n := hE.D (hcE _ (.head _))
  have hul := upTo_le (path.drop st.si)
  have hdl : (path.drop st.si).length = path.length - st.si := List.length_drop
  refine GC.seq ?_
  refine GC.seq ?_
  refine GC.reg ?_  -- region 39, router.go:649
  refine G.v (V.ld (v := Pt st.n 0) Tryd.isAgg136 rfl (.head _) rfl) rfl ?_
  refine G.v (V.nc rfl) rfl ?_
  refine G.v (V.fa F146_2 rfl) rfl ?_
  refine G.v (V.ldC (v := Pt c.n 0) Tryd.isAgg136 rfl (by rw [hrow 2 _ rfl, hp]; rfl) hD) rfl ?_
  refine G.v (V.asg rfl) rfl ?_
  refine G.nil ?_
  refine GC.seq ?_
  refine GC.reg ?_  -- region 40, router.go:649
  refine G.v (V.ld Tryd.isAgg9 rfl (.tail _ (.tail _ (.tail _ (.tail _ (.tail _ (.head _)))))) rfl) rfl ?_
  refine G.v (V.neS rfl rfl) rfl ?_
  refine G.v (V.mv rfl) rfl ?_
  refine G.bc 136 rfl (fun h136 => ?_) (fun h136 => ?_)
  · refine G.vg rfl rfl (V.mv rfl) rfl ?_
    refine G.vg rfl rfl (V.neO (p := some c.n) Tryd.underlying136 rfl) rfl ?_
    refine G.v (v := .bool true) (V.pickT rfl rfl) rfl ?_
    refine G.nil ?_
    refine GC.condT rfl ?_
    refine GC.seq ?_
    refine GC.reg ?_  -- region 41, router.go:650
    refine G.v (V.mv rfl) rfl ?_
    refine G.st (v := Pt c.n 0) Tryd.sizeOf136 rfl rfl rfl .z rfl rfl ?_
    refine G.nil ?_
    refine GC.seq ?_
    refine GC.reg ?_  -- region 42, router.go:651
    refine G.v (V.asg rfl) rfl ?_
    refine G.nil ?_
    refine GC.seq ?_
    refine GC.reg ?_  -- region 43, router.go:652
    refine G.v (V.ld (v := S (path.drop st.si)) Tryd.isAgg9 rfl (.tail _ (.tail _ (.tail _ (.tail _ (.tail _ (.head _)))))) rfl) rfl ?_
    refine G.v (V.lenS Tryd.underlying9 rfl) rfl ?_
    refine G.v (V.asg rfl) rfl ?_
    refine G.nil ?_
    refine GC.seq ?_
    refine GC.seq ?_
    refine GC.reg ?_  -- region 44, router.go:653
    refine G.v (V.ld (v := Pt c.n 0) Tryd.isAgg136 rfl (.head _) rfl) rfl ?_
    refine G.v (V.nc rfl) rfl ?_
    refine G.v (V.fa F146_11 rfl) rfl ?_
    refine G.v (V.ldC Tryd.isAgg4 rfl (hcrow 11 _ rfl) hDc) rfl ?_
    refine G.nil ?_
    refine GC.join (fun fr' H' => Sub [(1, S meth), (8, Pt cb 0), (9, Pt B.b9 0), (10, PO st.best), (11, PO none), (12, Pt B.b12 0), (13, Pt B.b13 0), (14, Pt B.b14 0), (15, Pt B.b15 0), (6, Pt B.b6 0), (16, cloV B), (26, I (((if c.leaf then (path.drop st.si).length else upTo (path.drop st.si)) : Nat) : Int))] fr' ∧ H' = H59 B path { st with n := c.n } cx) (fun J146 => ?_) ?_
    · refine GC.cond rfl (fun h146 => ?_) (fun h146 => ?_)
      · refine GC.reg ?_  -- region 45, router.go:656
        refine G.v (V.mv rfl) rfl ?_
        refine G.v (V.asg rfl) rfl ?_
        refine G.nil ?_
        refine J146 _ _ ⟨?_, rfl⟩
        rw [if_pos h146]
        exact .cons rfl (.cons rfl (.cons rfl (.cons rfl (.cons rfl (.cons rfl (.cons rfl (.cons rfl (.cons rfl (.cons rfl (.cons rfl (.cons rfl .nil)))))))))))
      refine GC.block ?_
      refine GC.loopJ (fun N fr' H' => ∃ i, i + N = (path.drop st.si).length ∧ i + upTo ((path.drop st.si).drop i) = upTo (path.drop st.si) ∧ Sub [(1, S meth), (8, Pt cb 0), (9, Pt B.b9 0), (10, PO st.best), (11, PO none), (12, Pt B.b12 0), (13, Pt B.b13 0), (14, Pt B.b14 0), (15, Pt B.b15 0), (6, Pt B.b6 0), (16, cloV B), (27, I ((path.drop st.si).length : Nat)), (26, I ((i : Nat) : Int))] fr' ∧ H' = H59 B path { st with n := c.n } cx) (path.drop st.si).length
        ⟨0, by omega, by simp, .cons rfl (.cons rfl (.cons rfl (.cons rfl (.cons rfl (.cons rfl (.cons rfl (.cons rfl (.cons rfl (.cons rfl (.cons rfl (.cons rfl (.cons rfl .nil)))))))))))), rfl⟩ ?_
      rintro N2 fr' H' ⟨i, hi, hl, hs2, rfl⟩ ih2
      refine GC.weak hs2 ?_
      clear hs2
      refine GC.seq ?_
      refine GC.seq ?_
      refine GC.reg ?_  -- region 46, router.go:658
      refine G.v (V.mv rfl) rfl ?_
      refine G.v (V.mv rfl) rfl ?_
      refine G.v (V.lt rfl rfl) rfl ?_
      refine G.v (V.mv rfl) rfl ?_
      refine G.bc 151 rfl (fun h151 => ?_) (fun h151 => ?_)
      · have hlt := of_decide_eq_true h151
        have hst := upTo_step (path.drop st.si) i (by omega)
        refine G.vg rfl rfl (V.ld (v := S (path.drop st.si)) Tryd.isAgg9 rfl (.tail _ (.tail _ (.tail _ (.tail _ (.tail _ (.head _)))))) rfl) rfl ?_
        refine G.vg rfl rfl (V.mv rfl) rfl ?_
        refine G.vg rfl rfl (V.idx (i := i) (b := (path.drop st.si).getD i 0) Tryd.underlying9 rfl rfl (getD_some (by omega))) rfl ?_
        refine G.vg rfl rfl (V.neI rfl rfl) rfl ?_
        refine G.v (V.pickT rfl rfl) rfl ?_
        refine G.nil ?_
        refine GC.cond rfl (fun h156 => ?_) (fun h156 => ?_)
        · refine GC.skip ?_
          refine GC.seq ?_
          refine GC.block ?_
          refine GC.skip ?_
          refine GC.inBlock ?_
          refine GC.reg ?_  -- region 47, router.go:658
          refine G.v (V.mv rfl) rfl ?_
          refine G.v (V.addI rfl rfl rfl (by omega) (by omega)) rfl ?_
          refine G.v (V.asg rfl) rfl ?_
          refine G.nil ?_
          have e : ¬ (path.drop st.si).getD i 0 = 47 := fun e => by rw [e] at h156; simp at h156
          rw [if_neg e] at hst
          exact ih2 (N2 - 1) _ _ (by omega) ⟨i + 1, by omega, by omega, .cons rfl (.cons rfl (.cons rfl (.cons rfl (.cons rfl (.cons rfl (.cons rfl (.cons rfl (.cons rfl (.cons rfl (.cons rfl (.cons rfl (.cons rfl .nil)))))))))))), rfl⟩
        refine GC.exit rfl ?_
        have e : (path.drop st.si).getD i 0 = 47 := by
          have h0 : (((path.drop st.si).getD i 0).toNat : Int) = 47 := by simpa using h156
          exact UInt8.toNat_inj.1 (show ((path.drop st.si).getD i 0).toNat = 47 by omega)
        rw [if_pos e] at hst
        refine J146 _ _ ⟨?_, rfl⟩
        rw [if_neg (by rw [h146]; exact Bool.false_ne_true), show upTo (path.drop st.si) = i by omega]
        exact .cons rfl (.cons rfl (.cons rfl (.cons rfl (.cons rfl (.cons rfl (.cons rfl (.cons rfl (.cons rfl (.cons rfl (.cons rfl (.cons rfl .nil)))))))))))
      · refine G.sg rfl rfl rfl rfl rfl rfl ?_
        refine G.sg rfl rfl rfl rfl rfl rfl ?_
        refine G.sg rfl rfl rfl rfl rfl rfl ?_
        refine G.sg rfl rfl rfl rfl rfl rfl ?_
        refine G.v (V.pickF rfl rfl) rfl ?_
        refine G.nil ?_
        refine GC.condF rfl ?_
        refine GC.exit rfl ?_
        have hge := of_decide_eq_false h151
        have hst : upTo ((path.drop st.si).drop i) = 0 := by
          have h1 := upTo_le ((path.drop st.si).drop i)
          have e1 : ((path.drop st.si).drop i).length = (path.drop st.si).length - i := List.length_drop
          omega
        refine J146 _ _ ⟨?_, rfl⟩
        rw [if_neg (by rw [h146]; exact Bool.false_ne_true), show upTo (path.drop st.si) = i by omega]
        exact .cons rfl (.cons rfl (.cons rfl (.cons rfl (.cons rfl (.cons rfl (.cons rfl (.cons rfl (.cons rfl (.cons rfl (.cons rfl (.cons rfl .nil)))))))))))
    rintro fr' H' ⟨hs2, rfl⟩
    refine GC.weak hs2 ?_
    clear hs2
    have hil : (if c.leaf then (path.drop st.si).length else upTo (path.drop st.si)) ≤ (path.drop st.si).length := by split <;> omega
    refine GC.seq ?_
    refine GC.regT 6 mixed (by kernel_rfl) rfl rfl ?_  -- region 48, router.go:662
    refine GS.v (V.ld Tryd.isAgg24 rfl (.tail _ (.tail _ (.tail _ (.head _)))) rfl) rfl ?_
    refine GS.v (V.ld (v := I ((st.pi : Nat) : Int)) Tryd.isAgg3 rfl (.tail _ (.tail _ (.head _))) rfl) rfl ?_
    refine GS.v (V.ld (v := S (path.drop st.si)) Tryd.isAgg9 rfl (.tail _ (.tail _ (.tail _ (.tail _ (.tail _ (.head _)))))) rfl) rfl ?_
    refine GS.v (V.mv rfl) rfl ?_
    refine GS.v (V.slH Tryd.underlying9 rfl rfl hil) rfl ?_
    refine GS.v (V.ia (i := st.pi) Tryd.underlying24 Tryd.sizeOf9 rfl rfl (by omega)) rfl ?_
    refine GS.nil ?_
    refine G.st Tryd.sizeOf9 rfl rfl rfl (.s (.s (.s (.s (.s (.s .z)))))) (set_some hv) rfl ?_
    refine G.nil ?_
    refine GC.seq ?_
    refine GC.reg ?_  -- region 49, router.go:663
    refine G.v (V.ld (v := I ((st.pi : Nat) : Int)) Tryd.isAgg3 rfl (.tail _ (.tail _ (.head _))) rfl) rfl ?_
    refine G.v (V.addI (r := ((st.pi + 1 : Nat) : Int)) rfl rfl (by omega) (by omega) (by omega)) rfl ?_
    refine G.st Tryd.sizeOf3 rfl rfl rfl (.s (.s .z)) rfl rfl ?_
    refine G.nil ?_
    refine GC.seq ?_
    refine GC.reg ?_  -- region 50, router.go:664
    refine G.v (V.ld (v := S (path.drop st.si)) Tryd.isAgg9 rfl (.tail _ (.tail _ (.tail _ (.tail _ (.tail _ (.head _)))))) rfl) rfl ?_
    refine G.v (V.mv rfl) rfl ?_
    refine G.v (V.slLe (l' := path.drop (st.si + (if c.leaf then (path.drop st.si).length else upTo (path.drop st.si)))) Tryd.underlying9 rfl rfl hil (by rw [List.drop_drop])) rfl ?_
    refine G.st Tryd.sizeOf9 rfl rfl rfl (.s (.s (.s (.s (.s .z))))) rfl rfl ?_
    refine G.nil ?_
    refine GC.seq ?_
    refine GC.reg ?_  -- region 51, router.go:665
    refine G.v (V.ld (v := I ((st.si : Nat) : Int)) Tryd.isAgg3 rfl (.tail _ (.head _)) rfl) rfl ?_
    refine G.v (V.mv rfl) rfl ?_
    refine G.v (V.addI (r := ((st.si + (if c.leaf then (path.drop st.si).length else upTo (path.drop st.si)) : Nat) : Int)) rfl rfl (by omega) (by omega) (by omega)) rfl ?_
    refine G.st Tryd.sizeOf3 rfl rfl rfl (.s .z) rfl rfl ?_
    refine G.nil ?_
    refine GC.exit rfl ?_
    refine GC.inLoop ?_
    refine GC.turn (H' := H59 B path { st with n := c.n, si := st.si + (if c.leaf then (path.drop st.si).length else upTo (path.drop st.si)), pi := st.pi + 1, vals := st.vals.set st.pi ((path.drop st.si).take (if c.leaf then (path.drop st.si).length else upTo (path.drop st.si))) } cx) (fun w1 hw1 => ?_) (k _ (.cons rfl (.cons rfl (.cons rfl (.cons rfl (.cons rfl (.cons rfl (.cons rfl (.cons rfl (.cons rfl (.cons rfl (.cons rfl .nil))))))))))))
    unfold H59 LB.ents
    rw [← set_row]
    exact hw1
  · exact absurd h136 (by simpa using hne)
theorem f59_npar {R : Ending → World → Prop} {w : World} {D : Nat → Prop} {B : LB} {cb : Nat} {meth path : List UInt8} {st : St} {cx : Ent} {fr : SF} {r : NR} {E : SH} {T : List NR} (hE : RF w D E) (hTE : ∀ e ∈ ents T, e ∈ E) (hrT : r ∈ T) (hn : r.n = st.n) (_hpl : path.length ≤ 1000000)
    (_hsi : st.si ≤ path.length) (_hpi1 : st.pi ≤ 1000000) (_hvz : st.vals.length = B.z) (hs : Sub (F59 B cb meth st.best) fr) (hp : r.pch = none ∨ path.drop st.si = [])
    (k : ∀ fr', Sub (F59 B cb meth st.best) fr' → GC Tryd.prog ⟨59, Tryd.f59, R, w, D⟩ 316 K59a fr' (H59 B path st cx)) : GC Tryd.prog ⟨59, Tryd.f59, R, w, D⟩ 316 K59p fr (H59 B path st cx) := by
  have hr : ∀ e ∈ r.ents, e ∈ E := fun e he => hTE e (ents_mem hrT he)
  have hrow : ∀ (i : Nat) (v : Value), nth r.row i = some v → w.cell? ⟨st.n, i, none⟩ = some v := fun i v hv => hn ▸ hE.cell (hr _ (.head _)) hv
  have hD : ¬ D st.n := hn ▸ hE.D (hr _ (.head _))
  refine GC.weak hs ?_
  refine GC.seq ?_
  refine GC.seq ?_
  refine GC.reg ?_  -- region 39, router.go:649
  refine G.v (V.ld (v := Pt st.n 0) Tryd.isAgg136 rfl (.head _) rfl) rfl ?_
  refine G.v (V.nc rfl) rfl ?_
  refine G.v (V.fa F146_2 rfl) rfl ?_
  refine G.v (V.ldC Tryd.isAgg136 rfl (hrow 2 _ rfl) hD) rfl ?_
  refine G.v (V.asg rfl) rfl ?_
  refine G.nil ?_
  refine GC.seq ?_
  refine GC.reg ?_  -- region 40, router.go:649
  refine G.v (V.ld Tryd.isAgg9 rfl (.tail _ (.tail _ (.tail _ (.tail _ (.tail _ (.head _)))))) rfl) rfl ?_
  refine G.v (V.neS rfl rfl) rfl ?_
  refine G.v (V.mv rfl) rfl ?_
  refine G.bc 136 rfl (fun h136 => ?_) (fun h136 => ?_)
  · refine G.vg rfl rfl (V.mv rfl) rfl ?_
    refine G.vg rfl rfl (V.neO Tryd.underlying136 rfl) rfl ?_
    refine G.v (V.pickT rfl rfl) rfl ?_
    refine G.nil ?_
    refine GC.cond rfl (fun h139 => ?_) (fun h139 => ?_)
    · refine GC.seq ?_
      have h0 : r.pch = none := hp.resolve_right (by simpa using h136)
      rw [h0] at h139
      cases h139
    refine GC.skip ?_
    refine GC.seq ?_
    refine GC.label ?_
    exact k _ (.cons rfl (.cons rfl (.cons rfl (.cons rfl (.cons rfl (.cons rfl (.cons rfl (.cons rfl (.cons rfl (.cons rfl (.cons rfl .nil)))))))))))
  · refine G.sg rfl rfl rfl rfl rfl rfl ?_
    refine G.sg rfl rfl rfl rfl rfl rfl ?_
    refine G.v (V.pickF rfl rfl) rfl ?_
    refine G.nil ?_
    refine GC.condF rfl ?_
    refine GC.skip ?_
    refine GC.seq ?_
    refine GC.label ?_
    exact k _ (.cons rfl (.cons rfl (.cons rfl (.cons rfl (.cons rfl (.cons rfl (.cons rfl (.cons rfl (.cons rfl (.cons rfl (.cons rfl .nil)))))))))))
end Go.Proofs

/- Find: Any. Printed by wip/mk_f4.py. -/
namespace Go.Proofs
open Go Bw
set_option maxRecDepth 20000

theorem f59_anyHit {R : Ending → World → Prop} {w : World} {D : Nat → Prop} {B : LB} {cb : Nat} {meth path : List UInt8} {st : St} {cx : Ent} {fr : SF} {r : NR} {E : SH} {T : List NR} (hE : RF w D E) (hTE : ∀ e ∈ ents T, e ∈ E) (hrT : r ∈ T) (hn : r.n = st.n) (hpl : path.length ≤ 1000000)
    (hsi : st.si ≤ path.length) (hpi1 : st.pi ≤ 999999) (hvz : st.vals.length = B.z) (hs : Sub (F59 B cb meth st.best) fr) {c : NR} {Bd : Nat} (ha : r.ach = some c.n) (hc : c ∈ T) (hco : c.ok Bd) (hpc : c.pc = st.pi + 1) (hv : st.pi < st.vals.length) {h : Nat} (hg : getM c.f c.kv meth = some h)
    (k : ∀ fr', Sub [(1, S meth), (8, Pt cb 0), (9, Pt B.b9 0), (10, PO st.best), (11, PO (some h))] fr' → GC Tryd.prog ⟨59, Tryd.f59, R, w, D⟩ 316 K59e fr' (B.ents path (some c.n) (st.si + (path.drop st.si).length) (st.pi + 1) [] (st.vals.set st.pi (path.drop st.si)) ++ [cx])) : GC Tryd.prog ⟨59, Tryd.f59, R, w, D⟩ 316 K59a fr (H59 B path st cx) := by
  have hr : ∀ e ∈ r.ents, e ∈ E := fun e he => hTE e (ents_mem hrT he)
  have hrow : ∀ (i : Nat) (v : Value), nth r.row i = some v → w.cell? ⟨st.n, i, none⟩ = some v := fun i v hv => hn ▸ hE.cell (hr _ (.head _)) hv
  have hD : ¬ D st.n := hn ▸ hE.D (hr _ (.head _))
  have hdl : (path.drop st.si).length = path.length - st.si := List.length_drop
  refine GC.weak hs ?_
  have hcE : ∀ e ∈ c.ents, e ∈ E := fun e he => hTE e (ents_mem hc he)
  have hcrow : ∀ (i : Nat) (v : Value), nth c.row i = some v → w.cell? ⟨c.n, i, none⟩ = some v := fun i v hv => hE.cell (hcE _ (.head _)) hv
  have hcm : ∀ (i : Nat) (v : Value), nth c.mr i = some v → w.cell? ⟨c.m, i, none⟩ = some v := fun i v hv => hE.cell (hcE _ (.tail _ (.head _))) hv
  have hDc : ¬ D c.n := hE.D (hcE _ (.head _))
  have hDm : ¬ D c.m := hE.D (hcE _ (.tail _ (.head _)))
  have hmap : ∀ w1 H, HF w D H w1 → MapAt w1 c.mp c.kv := fun w1 H hw => mapAtR hco.hm fun e he => hw.old (hE e (hcE e (.tail _ (.tail _ (List.mem_append_left _ he))))).1 (hE e (hcE e (.tail _ (.tail _ (List.mem_append_left _ he))))).2
  refine GC.seq ?_
  refine GC.seq ?_
  refine GC.reg ?_  -- region 52, router.go:671
  refine G.v (V.ld (v := Pt st.n 0) Tryd.isAgg136 rfl (.head _) rfl) rfl ?_
  refine G.v (V.nc rfl) rfl ?_
  refine G.v (V.fa F146_3 rfl) rfl ?_
  refine G.v (V.ldC (v := Pt c.n 0) Tryd.isAgg136 rfl (by rw [hrow 3 _ rfl, ha]; rfl) hD) rfl ?_
  refine G.v (V.asg rfl) rfl ?_
  refine G.nil ?_
  refine GC.seq ?_
  refine GC.reg ?_  -- region 53, router.go:671
  refine G.v (V.mv rfl) rfl ?_
  refine G.v (V.neO (p := some c.n) Tryd.underlying136 rfl) rfl ?_
  refine G.nil ?_
  refine GC.cond rfl (fun h178 => ?_) (fun h178 => by cases h178)
  refine GC.seq ?_
  refine GC.reg ?_  -- region 54, router.go:673
  refine G.v (V.mv rfl) rfl ?_
  refine G.st (v := Pt c.n 0) Tryd.sizeOf136 rfl rfl rfl .z rfl rfl ?_
  refine G.nil ?_
  refine GC.seq ?_
  refine GC.regT 8 mixed (by kernel_rfl) rfl rfl ?_  -- region 55, router.go:674
  refine GS.v (V.ld Tryd.isAgg24 rfl (.tail _ (.tail _ (.tail _ (.head _)))) rfl) rfl ?_
  refine GS.v (V.ld (v := Pt c.n 0) Tryd.isAgg136 rfl (.head _) rfl) rfl ?_
  refine GS.v (V.nc rfl) rfl ?_
  refine GS.v (V.fa F146_8 rfl) rfl ?_
  refine GS.v (V.ldC Tryd.isAgg3 rfl (hcrow 8 _ rfl) hDc) rfl ?_
  refine GS.v (V.subI (r := ((st.pi : Nat) : Int)) rfl rfl (by omega) (by omega) (by omega)) rfl ?_
  refine GS.v (V.ld (v := S (path.drop st.si)) Tryd.isAgg9 rfl (.tail _ (.tail _ (.tail _ (.tail _ (.tail _ (.head _)))))) rfl) rfl ?_
  refine GS.v (V.ia (i := st.pi) Tryd.underlying24 Tryd.sizeOf9 rfl rfl (by omega)) rfl ?_
  refine GS.nil ?_
  refine G.st Tryd.sizeOf9 rfl rfl rfl (.s (.s (.s (.s (.s (.s .z)))))) (set_some hv) rfl ?_
  refine G.nil ?_
  refine GC.seq ?_
  refine GC.reg ?_  -- region 56, router.go:677
  refine G.v (V.ld (v := I ((st.pi : Nat) : Int)) Tryd.isAgg3 rfl (.tail _ (.tail _ (.head _))) rfl) rfl ?_
  refine G.v (V.addI (r := ((st.pi + 1 : Nat) : Int)) rfl rfl (by omega) (by omega) (by omega)) rfl ?_
  refine G.st Tryd.sizeOf3 rfl rfl rfl (.s (.s .z)) rfl rfl ?_
  refine G.nil ?_
  refine GC.seq ?_
  refine GC.reg ?_  -- region 57, router.go:678
  refine G.v (V.ld (v := I ((st.si : Nat) : Int)) Tryd.isAgg3 rfl (.tail _ (.head _)) rfl) rfl ?_
  refine G.v (V.ld (v := S (path.drop st.si)) Tryd.isAgg9 rfl (.tail _ (.tail _ (.tail _ (.tail _ (.tail _ (.head _)))))) rfl) rfl ?_
  refine G.v (V.lenS Tryd.underlying9 rfl) rfl ?_
  refine G.v (V.addI (r := ((st.si + (path.drop st.si).length : Nat) : Int)) rfl rfl (by omega) (by omega) (by omega)) rfl ?_
  refine G.st Tryd.sizeOf3 rfl rfl rfl (.s .z) rfl rfl ?_
  refine G.nil ?_
  refine GC.seq ?_
  refine GC.reg ?_  -- region 58, router.go:679
  refine G.st (v := S []) Tryd.sizeOf9 rfl rfl rfl (.s (.s (.s (.s (.s .z))))) rfl rfl ?_
  refine G.nil ?_
  refine GC.seq ?_
  refine GC.seq ?_
  refine GC.turn (H' := B.ents path (some c.n) (st.si + (path.drop st.si).length) (st.pi + 1) [] (st.vals.set st.pi (path.drop st.si)) ++ [cx]) (fun w1 hw1 => ?_) ?_
  · unfold LB.ents
    rw [← set_row]
    exact hw1
  refine GC.reg ?_  -- region 59, router.go:681
  refine G.v (V.ld (v := Pt c.n 0) Tryd.isAgg136 rfl (.head _) rfl) rfl ?_
  refine G.v (V.mv rfl) rfl ?_
  refine G.callP Tryd.call92 rfl rfl (fun w1 hw1 => f92_any w1 c.n c.m c.f c.mp c.kv meth (hw1.cellOld (hcrow 0 _ rfl) hDc) (fun i hi => hw1.cellOld (hcm i _ (mrow_nth hi)) hDm) (hw1.cellOld (hcm 11 _ rfl) hDm) (hmap w1 _ hw1)) ?_
  refine G.v (V.asg rfl) rfl ?_
  refine G.nil ?_
  refine GC.seq ?_
  refine GC.reg ?_  -- region 60, router.go:681
  refine G.v (V.mv rfl) rfl ?_
  refine G.v (V.neO Tryd.underlying140 rfl) rfl ?_
  refine G.nil ?_
  refine GC.cond rfl (fun h198 => ?_) (fun h198 => by rw [hg] at h198; cases h198)
  refine GC.seq ?_
  refine GC.reg ?_  -- region 61, router.go:682
  refine G.v (V.mv rfl) rfl ?_
  refine G.v (V.asg rfl) rfl ?_
  refine G.nil ?_
  refine GC.exit rfl ?_
  refine k _ ?_
  rw [hg]
  exact .cons rfl (.cons rfl (.cons rfl (.cons rfl (.cons rfl .nil))))
theorem f59_anyNf {R : Ending → World → Prop} {w : World} {D : Nat → Prop} {B : LB} {cb : Nat} {meth path : List UInt8} {st : St} {cx : Ent} {fr : SF} {r : NR} {E : SH} {T : List NR} (hE : RF w D E) (hTE : ∀ e ∈ ents T, e ∈ E) (hrT : r ∈ T) (hn : r.n = st.n) (hpl : path.length ≤ 1000000)
    (hsi : st.si ≤ path.length) (hpi1 : st.pi ≤ 999999) (hvz : st.vals.length = B.z) (hs : Sub (F59 B cb meth st.best) fr) {c : NR} {Bd : Nat} (ha : r.ach = some c.n) (hc : c ∈ T) (hco : c.ok Bd) (hpc : c.pc = st.pi + 1) (hv : st.pi < st.vals.length) {h : Nat} (hg : getM c.f c.kv meth = none) (hf : c.nf = some h)
    (k : ∀ fr', Sub [(1, S meth), (8, Pt cb 0), (9, Pt B.b9 0), (10, PO (some (st.best.getD c.n))), (11, PO (some h))] fr' → GC Tryd.prog ⟨59, Tryd.f59, R, w, D⟩ 316 K59e fr' (B.ents path (some c.n) (st.si + (path.drop st.si).length) (st.pi + 1) [] (st.vals.set st.pi (path.drop st.si)) ++ [cx])) : GC Tryd.prog ⟨59, Tryd.f59, R, w, D⟩ 316 K59a fr (H59 B path st cx) := by
  have hr : ∀ e ∈ r.ents, e ∈ E := fun e he => hTE e (ents_mem hrT he)
  have hrow : ∀ (i : Nat) (v : Value), nth r.row i = some v → w.cell? ⟨st.n, i, none⟩ = some v := fun i v hv => hn ▸ hE.cell (hr _ (.head _)) hv
  have hD : ¬ D st.n := hn ▸ hE.D (hr _ (.head _))
  have hdl : (path.drop st.si).length = path.length - st.si := List.length_drop
  refine GC.weak hs ?_
  have hcE : ∀ e ∈ c.ents, e ∈ E := fun e he => hTE e (ents_mem hc he)
  have hcrow : ∀ (i : Nat) (v : Value), nth c.row i = some v → w.cell? ⟨c.n, i, none⟩ = some v := fun i v hv => hE.cell (hcE _ (.head _)) hv
  have hcm : ∀ (i : Nat) (v : Value), nth c.mr i = some v → w.cell? ⟨c.m, i, none⟩ = some v := fun i v hv => hE.cell (hcE _ (.tail _ (.head _))) hv
  have hDc : ¬ D c.n := hE.D (hcE _ (.head _))
  have hDm : ¬ D c.m := hE.D (hcE _ (.tail _ (.head _)))
  have hmap : ∀ w1 H, HF w D H w1 → MapAt w1 c.mp c.kv := fun w1 H hw => mapAtR hco.hm fun e he => hw.old (hE e (hcE e (.tail _ (.tail _ (List.mem_append_left _ he))))).1 (hE e (hcE e (.tail _ (.tail _ (List.mem_append_left _ he))))).2
  refine GC.seq ?_
  refine GC.seq ?_
  refine GC.reg ?_  -- region 52, router.go:671
  refine G.v (V.ld (v := Pt st.n 0) Tryd.isAgg136 rfl (.head _) rfl) rfl ?_
  refine G.v (V.nc rfl) rfl ?_
  refine G.v (V.fa F146_3 rfl) rfl ?_
  refine G.v (V.ldC (v := Pt c.n 0) Tryd.isAgg136 rfl (by rw [hrow 3 _ rfl, ha]; rfl) hD) rfl ?_
  refine G.v (V.asg rfl) rfl ?_
  refine G.nil ?_
  refine GC.seq ?_
  refine GC.reg ?_  -- region 53, router.go:671
  refine G.v (V.mv rfl) rfl ?_
  refine G.v (V.neO (p := some c.n) Tryd.underlying136 rfl) rfl ?_
  refine G.nil ?_
  refine GC.cond rfl (fun h178 => ?_) (fun h178 => by cases h178)
  refine GC.seq ?_
  refine GC.reg ?_  -- region 54, router.go:673
  refine G.v (V.mv rfl) rfl ?_
  refine G.st (v := Pt c.n 0) Tryd.sizeOf136 rfl rfl rfl .z rfl rfl ?_
  refine G.nil ?_
  refine GC.seq ?_
  refine GC.regT 8 mixed (by kernel_rfl) rfl rfl ?_  -- region 55, router.go:674
  refine GS.v (V.ld Tryd.isAgg24 rfl (.tail _ (.tail _ (.tail _ (.head _)))) rfl) rfl ?_
  refine GS.v (V.ld (v := Pt c.n 0) Tryd.isAgg136 rfl (.head _) rfl) rfl ?_
  refine GS.v (V.nc rfl) rfl ?_
  refine GS.v (V.fa F146_8 rfl) rfl ?_
  refine GS.v (V.ldC Tryd.isAgg3 rfl (hcrow 8 _ rfl) hDc) rfl ?_
  refine GS.v (V.subI (r := ((st.pi : Nat) : Int)) rfl rfl (by omega) (by omega) (by omega)) rfl ?_
  refine GS.v (V.ld (v := S (path.drop st.si)) Tryd.isAgg9 rfl (.tail _ (.tail _ (.tail _ (.tail _ (.tail _ (.head _)))))) rfl) rfl ?_
  refine GS.v (V.ia (i := st.pi) Tryd.underlying24 Tryd.sizeOf9 rfl rfl (by omega)) rfl ?_
  refine GS.nil ?_
  refine G.st Tryd.sizeOf9 rfl rfl rfl (.s (.s (.s (.s (.s (.s .z)))))) (set_some hv) rfl ?_
  refine G.nil ?_
  refine GC.seq ?_
  refine GC.reg ?_  -- region 56, router.go:677
  refine G.v (V.ld (v := I ((st.pi : Nat) : Int)) Tryd.isAgg3 rfl (.tail _ (.tail _ (.head _))) rfl) rfl ?_
  refine G.v (V.addI (r := ((st.pi + 1 : Nat) : Int)) rfl rfl (by omega) (by omega) (by omega)) rfl ?_
  refine G.st Tryd.sizeOf3 rfl rfl rfl (.s (.s .z)) rfl rfl ?_
  refine G.nil ?_
  refine GC.seq ?_
  refine GC.reg ?_  -- region 57, router.go:678
  refine G.v (V.ld (v := I ((st.si : Nat) : Int)) Tryd.isAgg3 rfl (.tail _ (.head _)) rfl) rfl ?_
  refine G.v (V.ld (v := S (path.drop st.si)) Tryd.isAgg9 rfl (.tail _ (.tail _ (.tail _ (.tail _ (.tail _ (.head _)))))) rfl) rfl ?_
  refine G.v (V.lenS Tryd.underlying9 rfl) rfl ?_
  refine G.v (V.addI (r := ((st.si + (path.drop st.si).length : Nat) : Int)) rfl rfl (by omega) (by omega) (by omega)) rfl ?_
  refine G.st Tryd.sizeOf3 rfl rfl rfl (.s .z) rfl rfl ?_
  refine G.nil ?_
  refine GC.seq ?_
  refine GC.reg ?_  -- region 58, router.go:679
  refine G.st (v := S []) Tryd.sizeOf9 rfl rfl rfl (.s (.s (.s (.s (.s .z))))) rfl rfl ?_
  refine G.nil ?_
  refine GC.seq ?_
  refine GC.seq ?_
  refine GC.turn (H' := B.ents path (some c.n) (st.si + (path.drop st.si).length) (st.pi + 1) [] (st.vals.set st.pi (path.drop st.si)) ++ [cx]) (fun w1 hw1 => ?_) ?_
  · unfold LB.ents
    rw [← set_row]
    exact hw1
  refine GC.reg ?_  -- region 59, router.go:681
  refine G.v (V.ld (v := Pt c.n 0) Tryd.isAgg136 rfl (.head _) rfl) rfl ?_
  refine G.v (V.mv rfl) rfl ?_
  refine G.callP Tryd.call92 rfl rfl (fun w1 hw1 => f92_any w1 c.n c.m c.f c.mp c.kv meth (hw1.cellOld (hcrow 0 _ rfl) hDc) (fun i hi => hw1.cellOld (hcm i _ (mrow_nth hi)) hDm) (hw1.cellOld (hcm 11 _ rfl) hDm) (hmap w1 _ hw1)) ?_
  refine G.v (V.asg rfl) rfl ?_
  refine G.nil ?_
  refine GC.seq ?_
  refine GC.reg ?_  -- region 60, router.go:681
  refine G.v (V.mv rfl) rfl ?_
  refine G.v (V.neO Tryd.underlying140 rfl) rfl ?_
  refine G.nil ?_
  refine GC.cond rfl (fun h198 => by rw [hg] at h198; cases h198) (fun h198 => ?_)
  refine GC.skip ?_
  refine GC.seq ?_
  refine GC.seq ?_
  refine GC.reg ?_  -- region 62, router.go:686
  refine G.v (V.mv rfl) rfl ?_
  refine G.v (V.eqO Tryd.underlying136 rfl) rfl ?_
  refine G.nil ?_
  refine GC.join (fun fr' H' => Sub [(1, S meth), (8, Pt cb 0), (9, Pt B.b9 0), (10, PO (some (st.best.getD c.n))), (11, PO none), (12, Pt B.b12 0), (13, Pt B.b13 0), (14, Pt B.b14 0), (15, Pt B.b15 0), (6, Pt B.b6 0), (16, cloV B)] fr' ∧ H' = B.ents path (some c.n) (st.si + (path.drop st.si).length) (st.pi + 1) [] (st.vals.set st.pi (path.drop st.si)) ++ [cx]) (fun J201 => ?_) ?_
  · refine GC.cond rfl (fun h201 => ?_) (fun h201 => ?_)
    · refine GC.reg ?_  -- region 63, router.go:687
      refine G.v (V.ld (v := Pt c.n 0) Tryd.isAgg136 rfl (.head _) rfl) rfl ?_
      refine G.v (V.asg rfl) rfl ?_
      refine G.nil ?_
      have hb : some (st.best.getD c.n) = some c.n := by cases hbb : st.best with | none => rfl | some _ => rw [hbb] at h201; cases h201
      refine J201 _ _ ⟨?_, rfl⟩
      rw [hb]
      exact .cons rfl (.cons rfl (.cons rfl (.cons rfl (.cons rfl (.cons rfl (.cons rfl (.cons rfl (.cons rfl (.cons rfl (.cons rfl .nil))))))))))
    refine GC.skip ?_
    have hb : some (st.best.getD c.n) = st.best := by cases hbb : st.best with | none => rw [hbb] at h201; cases h201 | some _ => rfl
    refine J201 _ _ ⟨?_, rfl⟩
    rw [hb]
    exact .cons rfl (.cons rfl (.cons rfl (.cons rfl (.cons rfl (.cons rfl (.cons rfl (.cons rfl (.cons rfl (.cons rfl (.cons rfl .nil))))))))))
  rintro fr' H' ⟨hs2, rfl⟩
  refine GC.weak hs2 ?_
  clear hs2
  refine GC.seq ?_
  refine GC.reg ?_  -- region 64, router.go:689
  refine G.v (V.ld (v := Pt c.n 0) Tryd.isAgg136 rfl (.head _) rfl) rfl ?_
  refine G.v (V.nc rfl) rfl ?_
  refine G.v (V.fa F146_4 rfl) rfl ?_
  refine G.v (V.ldC Tryd.isAgg140 rfl (hcrow 4 _ rfl) hDc) rfl ?_
  refine G.v (V.neO Tryd.underlying140 rfl) rfl ?_
  refine G.nil ?_
  refine GC.cond rfl (fun h207 => ?_) (fun h207 => by rw [hf] at h207; cases h207)
  refine GC.seq ?_
  refine GC.reg ?_  -- region 65, router.go:690
  refine G.v (V.ld (v := Pt c.n 0) Tryd.isAgg136 rfl (.head _) rfl) rfl ?_
  refine G.v (V.nc rfl) rfl ?_
  refine G.v (V.fa F146_4 rfl) rfl ?_
  refine G.v (V.ldC Tryd.isAgg140 rfl (hcrow 4 _ rfl) hDc) rfl ?_
  refine G.v (V.asg rfl) rfl ?_
  refine G.nil ?_
  refine GC.exit rfl ?_
  refine k _ ?_
  rw [hf]
  exact .cons rfl (.cons rfl (.cons rfl (.cons rfl (.cons rfl .nil))))
theorem f59_anyStop {R : Ending → World → Prop} {w : World} {D : Nat → Prop} {B : LB} {cb : Nat} {meth path : List UInt8} {st : St} {cx : Ent} {fr : SF} {r : NR} {E : SH} {T : List NR} (hE : RF w D E) (hTE : ∀ e ∈ ents T, e ∈ E) (hrT : r ∈ T) (hn : r.n = st.n) (hpl : path.length ≤ 1000000)
    (hsi : st.si ≤ path.length) (hpi1 : st.pi ≤ 999999) (hvz : st.vals.length = B.z) (hs : Sub (F59 B cb meth st.best) fr) {c : NR} {Bd : Nat} (ha : r.ach = some c.n) (hc : c ∈ T) (hco : c.ok Bd) (hpc : c.pc = st.pi + 1) (hv : st.pi < st.vals.length) (hk : c.kd = 2) (hg : getM c.f c.kv meth = none) (hf : c.nf = none)
    (k : ∀ fr', Sub [(1, S meth), (8, Pt cb 0), (9, Pt B.b9 0), (10, PO (some (st.best.getD c.n))), (11, PO none)] fr' → GC Tryd.prog ⟨59, Tryd.f59, R, w, D⟩ 316 K59e fr' (B.ents path c.par st.si st.pi (path.drop st.si) (st.vals.set st.pi []) ++ [cx])) : GC Tryd.prog ⟨59, Tryd.f59, R, w, D⟩ 316 K59a fr (H59 B path st cx) := by
  have hr : ∀ e ∈ r.ents, e ∈ E := fun e he => hTE e (ents_mem hrT he)
  have hrow : ∀ (i : Nat) (v : Value), nth r.row i = some v → w.cell? ⟨st.n, i, none⟩ = some v := fun i v hv => hn ▸ hE.cell (hr _ (.head _)) hv
  have hD : ¬ D st.n := hn ▸ hE.D (hr _ (.head _))
  have hdl : (path.drop st.si).length = path.length - st.si := List.length_drop
  refine GC.weak hs ?_
  have hcE : ∀ e ∈ c.ents, e ∈ E := fun e he => hTE e (ents_mem hc he)
  have hcrow : ∀ (i : Nat) (v : Value), nth c.row i = some v → w.cell? ⟨c.n, i, none⟩ = some v := fun i v hv => hE.cell (hcE _ (.head _)) hv
  have hcm : ∀ (i : Nat) (v : Value), nth c.mr i = some v → w.cell? ⟨c.m, i, none⟩ = some v := fun i v hv => hE.cell (hcE _ (.tail _ (.head _))) hv
  have hDc : ¬ D c.n := hE.D (hcE _ (.head _))
  have hDm : ¬ D c.m := hE.D (hcE _ (.tail _ (.head _)))
  have hmap : ∀ w1 H, HF w D H w1 → MapAt w1 c.mp c.kv := fun w1 H hw => mapAtR hco.hm fun e he => hw.old (hE e (hcE e (.tail _ (.tail _ (List.mem_append_left _ he))))).1 (hE e (hcE e (.tail _ (.tail _ (List.mem_append_left _ he))))).2
  have hfix : B.ents path c.par (st.si + (path.drop st.si).length - (path.drop st.si).length) (st.pi + 1 - 1) (path.drop (st.si + (path.drop st.si).length - (path.drop st.si).length)) ((st.vals.set st.pi (path.drop st.si)).set (st.pi + 1 - 1) []) = B.ents path c.par st.si st.pi (path.drop st.si) (st.vals.set st.pi []) := by
    rw [Nat.add_sub_cancel, Nat.add_sub_cancel, List.set_set]
  refine GC.seq ?_
  refine GC.seq ?_
  refine GC.reg ?_  -- region 52, router.go:671
  refine G.v (V.ld (v := Pt st.n 0) Tryd.isAgg136 rfl (.head _) rfl) rfl ?_
  refine G.v (V.nc rfl) rfl ?_
  refine G.v (V.fa F146_3 rfl) rfl ?_
  refine G.v (V.ldC (v := Pt c.n 0) Tryd.isAgg136 rfl (by rw [hrow 3 _ rfl, ha]; rfl) hD) rfl ?_
  refine G.v (V.asg rfl) rfl ?_
  refine G.nil ?_
  refine GC.seq ?_
  refine GC.reg ?_  -- region 53, router.go:671
  refine G.v (V.mv rfl) rfl ?_
  refine G.v (V.neO (p := some c.n) Tryd.underlying136 rfl) rfl ?_
  refine G.nil ?_
  refine GC.cond rfl (fun h178 => ?_) (fun h178 => by cases h178)
  refine GC.seq ?_
  refine GC.reg ?_  -- region 54, router.go:673
  refine G.v (V.mv rfl) rfl ?_
  refine G.st (v := Pt c.n 0) Tryd.sizeOf136 rfl rfl rfl .z rfl rfl ?_
  refine G.nil ?_
  refine GC.seq ?_
  refine GC.regT 8 mixed (by kernel_rfl) rfl rfl ?_  -- region 55, router.go:674
  refine GS.v (V.ld Tryd.isAgg24 rfl (.tail _ (.tail _ (.tail _ (.head _)))) rfl) rfl ?_
  refine GS.v (V.ld (v := Pt c.n 0) Tryd.isAgg136 rfl (.head _) rfl) rfl ?_
  refine GS.v (V.nc rfl) rfl ?_
  refine GS.v (V.fa F146_8 rfl) rfl ?_
  refine GS.v (V.ldC Tryd.isAgg3 rfl (hcrow 8 _ rfl) hDc) rfl ?_
  refine GS.v (V.subI (r := ((st.pi : Nat) : Int)) rfl rfl (by omega) (by omega) (by omega)) rfl ?_
  refine GS.v (V.ld (v := S (path.drop st.si)) Tryd.isAgg9 rfl (.tail _ (.tail _ (.tail _ (.tail _ (.tail _ (.head _)))))) rfl) rfl ?_
  refine GS.v (V.ia (i := st.pi) Tryd.underlying24 Tryd.sizeOf9 rfl rfl (by omega)) rfl ?_
  refine GS.nil ?_
  refine G.st Tryd.sizeOf9 rfl rfl rfl (.s (.s (.s (.s (.s (.s .z)))))) (set_some hv) rfl ?_
  refine G.nil ?_
  refine GC.seq ?_
  refine GC.reg ?_  -- region 56, router.go:677
  refine G.v (V.ld (v := I ((st.pi : Nat) : Int)) Tryd.isAgg3 rfl (.tail _ (.tail _ (.head _))) rfl) rfl ?_
  refine G.v (V.addI (r := ((st.pi + 1 : Nat) : Int)) rfl rfl (by omega) (by omega) (by omega)) rfl ?_
  refine G.st Tryd.sizeOf3 rfl rfl rfl (.s (.s .z)) rfl rfl ?_
  refine G.nil ?_
  refine GC.seq ?_
  refine GC.reg ?_  -- region 57, router.go:678
  refine G.v (V.ld (v := I ((st.si : Nat) : Int)) Tryd.isAgg3 rfl (.tail _ (.head _)) rfl) rfl ?_
  refine G.v (V.ld (v := S (path.drop st.si)) Tryd.isAgg9 rfl (.tail _ (.tail _ (.tail _ (.tail _ (.tail _ (.head _)))))) rfl) rfl ?_
  refine G.v (V.lenS Tryd.underlying9 rfl) rfl ?_
  refine G.v (V.addI (r := ((st.si + (path.drop st.si).length : Nat) : Int)) rfl rfl (by omega) (by omega) (by omega)) rfl ?_
  refine G.st Tryd.sizeOf3 rfl rfl rfl (.s .z) rfl rfl ?_
  refine G.nil ?_
  refine GC.seq ?_
  refine GC.reg ?_  -- region 58, router.go:679
  refine G.st (v := S []) Tryd.sizeOf9 rfl rfl rfl (.s (.s (.s (.s (.s .z))))) rfl rfl ?_
  refine G.nil ?_
  refine GC.seq ?_
  refine GC.seq ?_
  refine GC.turn (H' := B.ents path (some c.n) (st.si + (path.drop st.si).length) (st.pi + 1) [] (st.vals.set st.pi (path.drop st.si)) ++ [cx]) (fun w1 hw1 => ?_) ?_
  · unfold LB.ents
    rw [← set_row]
    exact hw1
  refine GC.reg ?_  -- region 59, router.go:681
  refine G.v (V.ld (v := Pt c.n 0) Tryd.isAgg136 rfl (.head _) rfl) rfl ?_
  refine G.v (V.mv rfl) rfl ?_
  refine G.callP Tryd.call92 rfl rfl (fun w1 hw1 => f92_any w1 c.n c.m c.f c.mp c.kv meth (hw1.cellOld (hcrow 0 _ rfl) hDc) (fun i hi => hw1.cellOld (hcm i _ (mrow_nth hi)) hDm) (hw1.cellOld (hcm 11 _ rfl) hDm) (hmap w1 _ hw1)) ?_
  refine G.v (V.asg rfl) rfl ?_
  refine G.nil ?_
  refine GC.seq ?_
  refine GC.reg ?_  -- region 60, router.go:681
  refine G.v (V.mv rfl) rfl ?_
  refine G.v (V.neO Tryd.underlying140 rfl) rfl ?_
  refine G.nil ?_
  refine GC.cond rfl (fun h198 => by rw [hg] at h198; cases h198) (fun h198 => ?_)
  refine GC.skip ?_
  refine GC.seq ?_
  refine GC.seq ?_
  refine GC.reg ?_  -- region 62, router.go:686
  refine G.v (V.mv rfl) rfl ?_
  refine G.v (V.eqO Tryd.underlying136 rfl) rfl ?_
  refine G.nil ?_
  refine GC.join (fun fr' H' => Sub [(1, S meth), (8, Pt cb 0), (9, Pt B.b9 0), (10, PO (some (st.best.getD c.n))), (11, PO none), (12, Pt B.b12 0), (13, Pt B.b13 0), (14, Pt B.b14 0), (15, Pt B.b15 0), (6, Pt B.b6 0), (16, cloV B)] fr' ∧ H' = B.ents path (some c.n) (st.si + (path.drop st.si).length) (st.pi + 1) [] (st.vals.set st.pi (path.drop st.si)) ++ [cx]) (fun J201 => ?_) ?_
  · refine GC.cond rfl (fun h201 => ?_) (fun h201 => ?_)
    · refine GC.reg ?_  -- region 63, router.go:687
      refine G.v (V.ld (v := Pt c.n 0) Tryd.isAgg136 rfl (.head _) rfl) rfl ?_
      refine G.v (V.asg rfl) rfl ?_
      refine G.nil ?_
      have hb : some (st.best.getD c.n) = some c.n := by cases hbb : st.best with | none => rfl | some _ => rw [hbb] at h201; cases h201
      refine J201 _ _ ⟨?_, rfl⟩
      rw [hb]
      exact .cons rfl (.cons rfl (.cons rfl (.cons rfl (.cons rfl (.cons rfl (.cons rfl (.cons rfl (.cons rfl (.cons rfl (.cons rfl .nil))))))))))
    refine GC.skip ?_
    have hb : some (st.best.getD c.n) = st.best := by cases hbb : st.best with | none => rw [hbb] at h201; cases h201 | some _ => rfl
    refine J201 _ _ ⟨?_, rfl⟩
    rw [hb]
    exact .cons rfl (.cons rfl (.cons rfl (.cons rfl (.cons rfl (.cons rfl (.cons rfl (.cons rfl (.cons rfl (.cons rfl (.cons rfl .nil))))))))))
  rintro fr' H' ⟨hs2, rfl⟩
  refine GC.weak hs2 ?_
  clear hs2
  refine GC.seq ?_
  refine GC.reg ?_  -- region 64, router.go:689
  refine G.v (V.ld (v := Pt c.n 0) Tryd.isAgg136 rfl (.head _) rfl) rfl ?_
  refine G.v (V.nc rfl) rfl ?_
  refine G.v (V.fa F146_4 rfl) rfl ?_
  refine G.v (V.ldC Tryd.isAgg140 rfl (hcrow 4 _ rfl) hDc) rfl ?_
  refine G.v (V.neO Tryd.underlying140 rfl) rfl ?_
  refine G.nil ?_
  refine GC.cond rfl (fun h207 => by rw [hf] at h207; cases h207) (fun h207 => ?_)
  refine GC.skip ?_
  refine GC.seq ?_
  refine GC.reg ?_  -- region 66, router.go:696
  refine G.v (V.mv rfl) rfl ?_
  refine G.callVL (H1 := B.ents path (some c.n) (st.si + (path.drop st.si).length) (st.pi + 1) [] (st.vals.set st.pi (path.drop st.si))) (Hk := [cx]) (fun vv H1 => vv = .tuple #[.int .u8 0, .bool c.par.isSome] ∧ H1 = B.ents path c.par st.si st.pi (path.drop st.si) (st.vals.set st.pi [])) (.refl _) LB.w Tryd.call91 (x := .tmp 213) (xs := [.const (.int .u8 2)]) (vs := [.int .u8 2]) (cs := [Pt B.b9 0, Pt B.b13 0, Pt B.b14 0, Pt B.b15 0, Pt B.b6 0, Pt B.b12 0]) rfl rfl rfl (fun w1 hw0 hw1 => ?_) ?_
  · have hcl : ∀ (i : Nat) (v : Value), nth c.row i = some v → w1.cell? ⟨c.n, i, none⟩ = some v := fun i v hv => hw0.cellOld (hcrow i v hv) hDc
    refine (f91_2 w1 _ B c.n c.par path c.pre [] (st.si + (path.drop st.si).length) (st.pi + 1) (st.vals.set st.pi (path.drop st.si)) (by omega) (path.drop st.si) (by simp [hv]) (by rw [List.length_set]; exact hvz) (by omega) hw1 (hcl 1 _ rfl) (hcl 5 _ rfl) (by rw [← hk]; exact hcl 10 _ rfl) ?_ (by omega) hpl (by omega)).mono fun e w' ⟨h2, h3⟩ => ⟨_, _, h2, LB.w, hfix ▸ h3, rfl, rfl⟩
    rintro ⟨e, he, heb⟩
    have hlt : c.n < w.heap.size := World.block_lt_of_cell? w ⟨c.n, 1, none⟩ (hcrow 1 _ rfl)
    rcases hw0.wr e (List.mem_append_left _ he) (LB.w e he) with h2 | h2
    · exact hDc (heb ▸ h2)
    · have h2 : w.heap.size ≤ e.b := h2
      omega
  rintro vv H1 ⟨rfl, rfl⟩
  refine G.v (V.mv rfl) rfl ?_
  refine G.v (V.ex rfl rfl) rfl ?_
  refine G.v (V.ex rfl rfl) rfl ?_
  refine G.v (V.asg rfl) rfl ?_
  refine G.v (V.asg rfl) rfl ?_
  refine G.nil ?_
  refine GC.seq ?_
  refine GC.reg ?_  -- region 67, router.go:697
  refine G.v (V.mv rfl) rfl ?_
  refine G.v (V.not rfl) rfl ?_
  refine G.nil ?_
  refine GC.cond rfl (fun h218 => ?_) (fun h218 => ?_)
  · refine GC.exit rfl ?_
    exact k _ (.cons rfl (.cons rfl (.cons rfl (.cons rfl (.cons rfl .nil)))))
  refine GC.seq ?_
  refine GC.reg ?_  -- region 68, router.go:699
  refine G.v (V.mv rfl) rfl ?_
  refine G.v (V.eqI rfl rfl) rfl ?_
  refine G.nil ?_
  refine GC.condD rfl (fun h220 => absurd h220 (by decide)) (fun h220 => ?_)
  refine GC.seq ?_
  refine GC.reg ?_  -- region 69, router.go:701
  refine G.v (V.mv rfl) rfl ?_
  refine G.v (V.eqI rfl rfl) rfl ?_
  refine G.nil ?_
  refine GC.condD rfl (fun h222 => absurd h222 (by decide)) (fun h222 => ?_)
  refine GC.exit rfl ?_
  exact k _ (.cons rfl (.cons rfl (.cons rfl (.cons rfl (.cons rfl .nil)))))
theorem f59_up0 {R : Ending → World → Prop} {w : World} {D : Nat → Prop} {B : LB} {cb : Nat} {meth path : List UInt8} {st : St} {cx : Ent} {fr : SF} {r : NR} {E : SH} {T : List NR} (hE : RF w D E) (hTE : ∀ e ∈ ents T, e ∈ E) (hrT : r ∈ T) (hn : r.n = st.n) (hpl : path.length ≤ 1000000)
    (hsi : st.si ≤ path.length) (hpi1 : st.pi ≤ 999999) (_hvz : st.vals.length = B.z) (hs : Sub (F59 B cb meth st.best) fr) (ha : r.ach = none) (hk : r.kd = 0) (hps : r.pre.length ≤ st.si)
    (k0 : r.par = none → ∀ fr', Sub [(1, S meth), (8, Pt cb 0), (9, Pt B.b9 0), (10, PO st.best), (11, PO none)] fr' → GC Tryd.prog ⟨59, Tryd.f59, R, w, D⟩ 316 K59e fr' (B.ents path none (st.si - r.pre.length) st.pi (path.drop (st.si - r.pre.length)) st.vals ++ [cx]))
    (k1 : ∀ p, r.par = some p → ∀ fr', Sub (F59 B cb meth st.best) fr' → GC Tryd.prog ⟨59, Tryd.f59, R, w, D⟩ 316 K59p fr' (H59 B path { st with n := p, si := st.si - r.pre.length } cx)) : GC Tryd.prog ⟨59, Tryd.f59, R, w, D⟩ 316 K59a fr (H59 B path st cx) := by
  have hr : ∀ e ∈ r.ents, e ∈ E := fun e he => hTE e (ents_mem hrT he)
  have hrow : ∀ (i : Nat) (v : Value), nth r.row i = some v → w.cell? ⟨st.n, i, none⟩ = some v := fun i v hv => hn ▸ hE.cell (hr _ (.head _)) hv
  have hD : ¬ D st.n := hn ▸ hE.D (hr _ (.head _))
  have hdl : (path.drop st.si).length = path.length - st.si := List.length_drop
  refine GC.weak hs ?_
  refine GC.seq ?_
  refine GC.seq ?_
  refine GC.reg ?_  -- region 52, router.go:671
  refine G.v (V.ld (v := Pt st.n 0) Tryd.isAgg136 rfl (.head _) rfl) rfl ?_
  refine G.v (V.nc rfl) rfl ?_
  refine G.v (V.fa F146_3 rfl) rfl ?_
  refine G.v (V.ldC Tryd.isAgg136 rfl (hrow 3 _ rfl) hD) rfl ?_
  refine G.v (V.asg rfl) rfl ?_
  refine G.nil ?_
  refine GC.seq ?_
  refine GC.reg ?_  -- region 53, router.go:671
  refine G.v (V.mv rfl) rfl ?_
  refine G.v (V.neO Tryd.underlying136 rfl) rfl ?_
  refine G.nil ?_
  refine GC.cond rfl (fun h178 => by rw [ha] at h178; cases h178) (fun h178 => ?_)
  refine GC.skip ?_
  refine GC.seq ?_
  refine GC.reg ?_  -- region 66, router.go:696
  refine G.v (V.mv rfl) rfl ?_
  refine G.callVL (H1 := B.ents path (some st.n) st.si st.pi (path.drop st.si) st.vals) (Hk := [cx]) (fun vv H1 => vv = .tuple #[.int .u8 1, .bool r.par.isSome] ∧ H1 = B.ents path r.par (st.si - r.pre.length) st.pi (path.drop (st.si - r.pre.length)) st.vals) (.refl _) LB.w Tryd.call91 (x := .tmp 213) (xs := [.const (.int .u8 2)]) (vs := [.int .u8 2]) (cs := [Pt B.b9 0, Pt B.b13 0, Pt B.b14 0, Pt B.b15 0, Pt B.b6 0, Pt B.b12 0]) rfl rfl rfl (fun w1 hw0 hw1 => ?_) ?_
  · have hcl : ∀ (i : Nat) (v : Value), nth r.row i = some v → w1.cell? ⟨st.n, i, none⟩ = some v := fun i v hv => hw0.cellOld (hrow i v hv) hD
    refine (f91_0 w1 _ B st.n r.par path r.pre (path.drop st.si) st.si st.pi st.vals hps hw1 (hcl 1 _ rfl) (hcl 5 _ rfl) (by rw [← hk]; exact hcl 10 _ rfl) ?_ hsi hpl (by omega)).mono fun e w' ⟨h2, h3⟩ => ⟨_, _, h2, LB.w, h3, rfl, rfl⟩
    rintro ⟨e, he, heb⟩
    have hlt : st.n < w.heap.size := World.block_lt_of_cell? w ⟨st.n, 1, none⟩ (hrow 1 _ rfl)
    rcases hw0.wr e (List.mem_append_left _ he) (LB.w e he) with h2 | h2
    · exact hD (heb ▸ h2)
    · have h2 : w.heap.size ≤ e.b := h2
      omega
  rintro vv H1 ⟨rfl, rfl⟩
  refine G.v (V.mv rfl) rfl ?_
  refine G.v (V.ex rfl rfl) rfl ?_
  refine G.v (V.ex rfl rfl) rfl ?_
  refine G.v (V.asg rfl) rfl ?_
  refine G.v (V.asg rfl) rfl ?_
  refine G.nil ?_
  refine GC.seq ?_
  refine GC.reg ?_  -- region 67, router.go:697
  refine G.v (V.mv rfl) rfl ?_
  refine G.v (V.not rfl) rfl ?_
  refine G.nil ?_
  refine GC.cond rfl (fun h218 => ?_) (fun h218 => ?_)
  · refine GC.exit rfl ?_
    have hpn : r.par = none := by cases hpar : r.par with | none => rfl | some _ => rw [hpar] at h218; cases h218
    exact GC.turn (fun w1 hw1 => by rw [hpn] at hw1; exact hw1) (k0 hpn _ (.cons rfl (.cons rfl (.cons rfl (.cons rfl (.cons rfl .nil))))))
  refine GC.seq ?_
  refine GC.reg ?_  -- region 68, router.go:699
  refine G.v (V.mv rfl) rfl ?_
  refine G.v (V.eqI rfl rfl) rfl ?_
  refine G.nil ?_
  refine GC.condD rfl (fun h220 => ?_) (fun h220 => absurd rfl h220)
  refine GC.goto rfl ?_
  refine GC.seq ?_
  refine GC.skip ?_
  obtain ⟨p, hpar⟩ : ∃ p, r.par = some p := by cases hpar : r.par with | none => rw [hpar] at h218; cases h218 | some p => exact ⟨p, rfl⟩
  exact GC.turn (H' := H59 B path { st with n := p, si := st.si - r.pre.length } cx) (fun w1 hw1 => by rw [hpar] at hw1; exact hw1) (k1 p hpar _ (.cons rfl (.cons rfl (.cons rfl (.cons rfl (.cons rfl (.cons rfl (.cons rfl (.cons rfl (.cons rfl (.cons rfl (.cons rfl .nil))))))))))))
theorem f59_up1 {R : Ending → World → Prop} {w : World} {D : Nat → Prop} {B : LB} {cb : Nat} {meth path : List UInt8} {st : St} {cx : Ent} {fr : SF} {r : NR} {E : SH} {T : List NR} (hE : RF w D E) (hTE : ∀ e ∈ ents T, e ∈ E) (hrT : r ∈ T) (hn : r.n = st.n) (hpl : path.length ≤ 1000000)
    (hsi : st.si ≤ path.length) (hpi1 : st.pi ≤ 999999) (hvz : st.vals.length = B.z) (hs : Sub (F59 B cb meth st.best) fr) (ha : r.ach = none) (hk : r.kd = 1) (hpi : 0 < st.pi) {v : List UInt8} (hvv : st.vals[st.pi - 1]? = some v) (hvs : v.length ≤ st.si) {p : Nat} (hpar : r.par = some p)
    (k1 : ∀ fr', Sub (F59 B cb meth st.best) fr' → GC Tryd.prog ⟨59, Tryd.f59, R, w, D⟩ 316 K59a fr' (H59 B path { st with n := p, si := st.si - v.length, pi := st.pi - 1, vals := st.vals.set (st.pi - 1) [] } cx)) : GC Tryd.prog ⟨59, Tryd.f59, R, w, D⟩ 316 K59a fr (H59 B path st cx) := by
  have hr : ∀ e ∈ r.ents, e ∈ E := fun e he => hTE e (ents_mem hrT he)
  have hrow : ∀ (i : Nat) (v : Value), nth r.row i = some v → w.cell? ⟨st.n, i, none⟩ = some v := fun i v hv => hn ▸ hE.cell (hr _ (.head _)) hv
  have hD : ¬ D st.n := hn ▸ hE.D (hr _ (.head _))
  have hdl : (path.drop st.si).length = path.length - st.si := List.length_drop
  refine GC.weak hs ?_
  refine GC.seq ?_
  refine GC.seq ?_
  refine GC.reg ?_  -- region 52, router.go:671
  refine G.v (V.ld (v := Pt st.n 0) Tryd.isAgg136 rfl (.head _) rfl) rfl ?_
  refine G.v (V.nc rfl) rfl ?_
  refine G.v (V.fa F146_3 rfl) rfl ?_
  refine G.v (V.ldC Tryd.isAgg136 rfl (hrow 3 _ rfl) hD) rfl ?_
  refine G.v (V.asg rfl) rfl ?_
  refine G.nil ?_
  refine GC.seq ?_
  refine GC.reg ?_  -- region 53, router.go:671
  refine G.v (V.mv rfl) rfl ?_
  refine G.v (V.neO Tryd.underlying136 rfl) rfl ?_
  refine G.nil ?_
  refine GC.cond rfl (fun h178 => by rw [ha] at h178; cases h178) (fun h178 => ?_)
  refine GC.skip ?_
  refine GC.seq ?_
  refine GC.reg ?_  -- region 66, router.go:696
  refine G.v (V.mv rfl) rfl ?_
  refine G.callVL (H1 := B.ents path (some st.n) st.si st.pi (path.drop st.si) st.vals) (Hk := [cx]) (fun vv H1 => vv = .tuple #[.int .u8 2, .bool r.par.isSome] ∧ H1 = B.ents path r.par (st.si - v.length) (st.pi - 1) (path.drop (st.si - v.length)) (st.vals.set (st.pi - 1) [])) (.refl _) LB.w Tryd.call91 (x := .tmp 213) (xs := [.const (.int .u8 2)]) (vs := [.int .u8 2]) (cs := [Pt B.b9 0, Pt B.b13 0, Pt B.b14 0, Pt B.b15 0, Pt B.b6 0, Pt B.b12 0]) rfl rfl rfl (fun w1 hw0 hw1 => ?_) ?_
  · have hcl : ∀ (i : Nat) (v : Value), nth r.row i = some v → w1.cell? ⟨st.n, i, none⟩ = some v := fun i v hv => hw0.cellOld (hrow i v hv) hD
    refine (f91_1 w1 _ B st.n r.par path r.pre (path.drop st.si) st.si st.pi st.vals hpi v hvv hvz hvs hw1 (hcl 1 _ rfl) (hcl 5 _ rfl) (by rw [← hk]; exact hcl 10 _ rfl) ?_ hsi hpl (by omega)).mono fun e w' ⟨h2, h3⟩ => ⟨_, _, h2, LB.w, h3, rfl, rfl⟩
    rintro ⟨e, he, heb⟩
    have hlt : st.n < w.heap.size := World.block_lt_of_cell? w ⟨st.n, 1, none⟩ (hrow 1 _ rfl)
    rcases hw0.wr e (List.mem_append_left _ he) (LB.w e he) with h2 | h2
    · exact hD (heb ▸ h2)
    · have h2 : w.heap.size ≤ e.b := h2
      omega
  rintro vv H1 ⟨rfl, rfl⟩
  refine G.v (V.mv rfl) rfl ?_
  refine G.v (V.ex rfl rfl) rfl ?_
  refine G.v (V.ex rfl rfl) rfl ?_
  refine G.v (V.asg rfl) rfl ?_
  refine G.v (V.asg rfl) rfl ?_
  refine G.nil ?_
  refine GC.seq ?_
  refine GC.reg ?_  -- region 67, router.go:697
  refine G.v (V.mv rfl) rfl ?_
  refine G.v (V.not rfl) rfl ?_
  refine G.nil ?_
  refine GC.cond rfl (fun h218 => by rw [hpar] at h218; cases h218) (fun h218 => ?_)
  refine GC.seq ?_
  refine GC.reg ?_  -- region 68, router.go:699
  refine G.v (V.mv rfl) rfl ?_
  refine G.v (V.eqI rfl rfl) rfl ?_
  refine G.nil ?_
  refine GC.condD rfl (fun h220 => absurd h220 (by decide)) (fun h220 => ?_)
  refine GC.seq ?_
  refine GC.reg ?_  -- region 69, router.go:701
  refine G.v (V.mv rfl) rfl ?_
  refine G.v (V.eqI rfl rfl) rfl ?_
  refine G.nil ?_
  refine GC.condD rfl (fun h222 => ?_) (fun h222 => absurd rfl h222)
  refine GC.goto rfl ?_
  refine GC.seq ?_
  refine GC.skip ?_
  exact GC.turn (H' := H59 B path { st with n := p, si := st.si - v.length, pi := st.pi - 1, vals := st.vals.set (st.pi - 1) [] } cx) (fun w1 hw1 => by rw [hpar] at hw1; exact hw1) (k1 _ (.cons rfl (.cons rfl (.cons rfl (.cons rfl (.cons rfl (.cons rfl (.cons rfl (.cons rfl (.cons rfl (.cons rfl (.cons rfl .nil))))))))))))
end Go.Proofs

/- Find: behind its loop. Printed by wip/mk_f5.py. -/
namespace Go.Proofs
open Go Bw
set_option maxRecDepth 20000

def cxE (cb : Nat) (sl pn hp : Value) (pa al : List UInt8) : Ent := ⟨cb, true, .row [sl, pn, hp, S pa, S al] 98 (0, 0)⟩
def F59e (B : LB) (cb : Nat) (meth : List UInt8) (best m : Option Nat) : SF := [(1, S meth), (8, Pt cb 0), (9, Pt B.b9 0), (10, PO best), (11, PO m)]
def optM : List UInt8 := [79, 80, 84, 73, 79, 78, 83]

theorem f59_end {R : Ending → World → Prop} {w : World} {D : Nat → Prop} {B : LB} {cb : Nat} {meth path : List UInt8} {si pi : Nat} {s : List UInt8} {vals : List (List UInt8)} {sl pn hp : Value} {pa al : List UInt8} {fr : SF} (hs : Sub (F59e B cb meth none none) fr) (k : ∀ w', HF w D (B.ents path none si pi s vals ++ [cxE cb sl pn hp pa al]) w' → R (.returned (.tuple #[])) w') : GC Tryd.prog ⟨59, Tryd.f59, R, w, D⟩ 316 K59e fr (B.ents path none si pi s vals ++ [cxE cb sl pn hp pa al]) := by
  refine GC.weak hs ?_
  refine GC.seq ?_
  refine GC.seq ?_
  refine GC.reg ?_  -- region 70, router.go:709
  refine G.v (V.ld Tryd.isAgg136 rfl (.head _) rfl) rfl ?_
  refine G.v (V.eqO (p := none) Tryd.underlying136 rfl) rfl ?_
  refine G.v (V.mv rfl) rfl ?_
  refine G.bc 225 rfl (fun h225 => ?_) (fun h225 => ?_)
  · refine G.vg rfl rfl (V.mv rfl) rfl ?_
    refine G.vg rfl rfl (V.eqO (p := none) Tryd.underlying136 rfl) rfl ?_
    refine G.v (v := .bool true) (V.pickT rfl rfl) rfl ?_
    refine G.nil ?_
    refine GC.condT rfl ?_
    exact GC.ret0 rfl fun w' hw' => k w' hw'
  · cases h225
theorem f59_ehit {R : Ending → World → Prop} {w : World} {D : Nat → Prop} {B : LB} {cb : Nat} {meth path : List UInt8} {si pi : Nat} {s : List UInt8} {vals : List (List UInt8)} {sl pn hp : Value} {pa al : List UInt8} {fr : SF} {E : SH} (hE : RF w D E) {n : Nat} {best : Option Nat} {h hh np pcp : Nat} {pp : List UInt8} {pad : Option Addr} (hm : rmE h (some hh) pp pad np pcp ∈ E) (hs : Sub (F59e B cb meth best (some h)) fr) (k : ∀ w', HF w D (B.ents path (some n) si pi s vals ++ [cxE cb sl (.slice pad np pcp) (Pt hh 0) pp al]) w' → R (.returned (.tuple #[])) w') :
    GC Tryd.prog ⟨59, Tryd.f59, R, w, D⟩ 316 K59e fr (B.ents path (some n) si pi s vals ++ [cxE cb sl pn hp pa al]) := by
  have hrow : ∀ (i : Nat) (v : Value), nth [PO (some hh), S pp, .slice pad np pcp] i = some v → w.cell? ⟨h, i, none⟩ = some v := fun i v hv => hE.cell hm hv
  have hD : ¬ D h := hE.D hm
  refine GC.weak hs ?_
  refine GC.seq ?_
  refine GC.seq ?_
  refine GC.reg ?_  -- region 70, router.go:709
  refine G.v (V.ld Tryd.isAgg136 rfl (.head _) rfl) rfl ?_
  refine G.v (V.eqO (p := some n) Tryd.underlying136 rfl) rfl ?_
  refine G.v (V.mv rfl) rfl ?_
  refine G.bc 225 rfl (fun h225 => ?_) (fun h225 => ?_)
  · cases h225
  · refine G.sg rfl rfl rfl rfl rfl rfl ?_
    refine G.sg rfl rfl rfl rfl rfl rfl ?_
    refine G.v (v := .bool false) (V.pickF rfl rfl) rfl ?_
    refine G.nil ?_
    refine GC.condF rfl ?_
    refine GC.skip ?_
    refine GC.seq ?_
    refine GC.reg ?_  -- region 71, router.go:715
    refine G.v (V.asg rfl) rfl ?_
    refine G.nil ?_
    refine GC.seq ?_
    refine GC.reg ?_  -- region 72, router.go:716
    refine G.v (V.asg rfl) rfl ?_
    refine G.nil ?_
    refine GC.seq ?_
    refine GC.seq ?_
    refine GC.reg ?_  -- region 73, router.go:717
    refine G.v (V.mv rfl) rfl ?_
    refine G.v (V.neO Tryd.underlying140 rfl) rfl ?_
    refine G.nil ?_
    refine GC.condT rfl ?_
    refine GC.seq ?_
    refine GC.reg ?_  -- region 74, router.go:718
    refine G.v (V.mv rfl) rfl ?_
    refine G.v (V.nc rfl) rfl ?_
    refine G.v (V.fa F152_1 rfl) rfl ?_
    refine G.v (V.ldC Tryd.isAgg9 rfl (hrow 1 _ rfl) hD) rfl ?_
    refine G.v (V.asg rfl) rfl ?_
    refine G.nil ?_
    refine GC.seq ?_
    refine GC.reg ?_  -- region 75, router.go:719
    refine G.v (V.mv rfl) rfl ?_
    refine G.v (V.nc rfl) rfl ?_
    refine G.v (V.fa F152_2 rfl) rfl ?_
    refine G.v (V.ldC Tryd.isAgg24 rfl (hrow 2 _ rfl) hD) rfl ?_
    refine G.v (V.asg rfl) rfl ?_
    refine G.nil ?_
    refine GC.reg ?_  -- region 76, router.go:720
    refine G.v (V.mv rfl) rfl ?_
    refine G.v (V.mv rfl) rfl ?_
    refine G.v (V.nc rfl) rfl ?_
    refine G.v (V.fa F152_0 rfl) rfl ?_
    refine G.v (V.ldC Tryd.isAgg95 rfl (hrow 0 _ rfl) hD) rfl ?_
    refine G.v (V.nc rfl) rfl ?_
    refine G.v (V.fa F98_2 rfl) rfl ?_
    refine G.st Tryd.sizeOf95 rfl rfl rfl (.s (.s (.s (.s (.s (.s (.s .z))))))) rfl rfl ?_
    refine G.nil ?_
    refine GC.seq ?_
    refine GC.reg ?_  -- region 90, router.go:741
    refine G.v (V.mv rfl) rfl ?_
    refine G.v (V.mv rfl) rfl ?_
    refine G.v (V.nc rfl) rfl ?_
    refine G.v (V.fa F98_3 rfl) rfl ?_
    refine G.st Tryd.sizeOf9 rfl rfl rfl (.s (.s (.s (.s (.s (.s (.s .z))))))) rfl rfl ?_
    refine G.nil ?_
    refine GC.reg ?_  -- region 91, router.go:742
    refine G.v (V.mv rfl) rfl ?_
    refine G.v (V.mv rfl) rfl ?_
    refine G.v (V.nc rfl) rfl ?_
    refine G.v (V.fa F98_1 rfl) rfl ?_
    refine G.st Tryd.sizeOf24 rfl rfl rfl (.s (.s (.s (.s (.s (.s (.s .z))))))) rfl rfl ?_
    refine G.nil ?_
    exact GC.end0 rfl fun w' hw' => k w' hw'
theorem f59_emiss0 {R : Ending → World → Prop} {w : World} {D : Nat → Prop} {B : LB} {cb : Nat} {meth path : List UInt8} {si pi : Nat} {s : List UInt8} {vals : List (List UInt8)} {sl pn hp : Value} {pa al : List UInt8} {fr : SF} {E : SH} (hE : RF w D E) {_n : Nat} {r : NR} (hr : ∀ e ∈ r.ents, e ∈ E) (hnf : r.nf = none) (hdl : r.hdl = true) (hs : Sub (F59e B cb meth (some r.n) none) fr)
    (k : ∀ hb w', HF w D (⟨hb, true, .row [I (if meth = optM then -3 else -2)] 3 (0, 0)⟩ :: (B.ents path (some r.n) si pi s vals ++ [cxE cb sl (.slice none 0 0) (Pt hb 0) r.orig r.hdr])) w' → R (.returned (.tuple #[])) w') :
    GC Tryd.prog ⟨59, Tryd.f59, R, w, D⟩ 316 K59e fr (B.ents path none si pi s vals ++ [cxE cb sl pn hp pa al]) := by
  have hrow : ∀ (i : Nat) (v : Value), nth r.row i = some v → w.cell? ⟨r.n, i, none⟩ = some v := fun i v hv => hE.cell (hr _ (.head _)) hv
  have hmrow : ∀ (i : Nat) (v : Value), nth r.mr i = some v → w.cell? ⟨r.m, i, none⟩ = some v := fun i v hv => hE.cell (hr _ (.tail _ (.head _))) hv
  have hD : ¬ D r.n := hE.D (hr _ (.head _))
  have hDm : ¬ D r.m := hE.D (hr _ (.tail _ (.head _)))
  refine GC.weak hs ?_
  refine GC.seq ?_
  refine GC.seq ?_
  refine GC.reg ?_  -- region 70, router.go:709
  refine G.v (V.ld Tryd.isAgg136 rfl (.head _) rfl) rfl ?_
  refine G.v (V.eqO (p := none) Tryd.underlying136 rfl) rfl ?_
  refine G.v (V.mv rfl) rfl ?_
  refine G.bc 225 rfl (fun h225 => ?_) (fun h225 => ?_)
  · refine G.vg rfl rfl (V.mv rfl) rfl ?_
    refine G.vg rfl rfl (V.eqO (p := some r.n) Tryd.underlying136 rfl) rfl ?_
    refine G.v (v := .bool false) (V.pickT rfl rfl) rfl ?_
    refine G.nil ?_
    refine GC.condF rfl ?_
    refine GC.skip ?_
    refine GC.seq ?_
    refine GC.weak (fr' := F59e B cb meth (some r.n) none) (.cons rfl (.cons rfl (.cons rfl (.cons rfl (.cons rfl .nil))))) ?_
    refine GC.reg ?_  -- region 71, router.go:715
    refine G.v (V.asg rfl) rfl ?_
    refine G.nil ?_
    refine GC.seq ?_
    refine GC.reg ?_  -- region 72, router.go:716
    refine G.v (V.asg rfl) rfl ?_
    refine G.nil ?_
    refine GC.seq ?_
    refine GC.seq ?_
    refine GC.reg ?_  -- region 73, router.go:717
    refine G.v (V.mv rfl) rfl ?_
    refine G.v (V.neO (p := none) Tryd.underlying140 rfl) rfl ?_
    refine G.nil ?_
    refine GC.condF rfl ?_
    refine GC.seq ?_
    refine GC.reg ?_  -- region 77, router.go:724
    refine G.v (V.mv rfl) rfl ?_
    refine G.st (v := Pt r.n 0) Tryd.sizeOf136 rfl rfl rfl .z rfl rfl ?_
    refine G.nil ?_
    refine GC.seq ?_
    refine GC.reg ?_  -- region 78, router.go:726
    refine G.v (V.ld (v := Pt r.n 0) Tryd.isAgg136 rfl (.head _) rfl) rfl ?_
    refine G.v (V.nc rfl) rfl ?_
    refine G.v (V.fa F146_6 rfl) rfl ?_
    refine G.v (V.ldC Tryd.isAgg9 rfl (hrow 6 _ rfl) hD) rfl ?_
    refine G.v (V.asg rfl) rfl ?_
    refine G.nil ?_
    refine GC.seq ?_
    refine GC.reg ?_  -- region 79, router.go:727
    refine G.v (V.asg rfl) rfl ?_
    refine G.nil ?_
    refine GC.seq ?_
    refine GC.reg ?_  -- region 80, router.go:728
    refine G.v (V.mv rfl) rfl ?_
    refine G.callN Tryd.call58 rfl rfl (fun w1 _ => f58_any w1 (-1)) (fun hb1 _ => ?_)
    refine G.v (V.nc rfl) rfl ?_
    refine G.v (V.fa F98_2 rfl) rfl ?_
    refine G.st Tryd.sizeOf95 rfl rfl rfl (.s (.s (.s (.s (.s (.s (.s (.s .z)))))))) rfl rfl ?_
    refine G.nil ?_
    refine GC.seq ?_
    refine GC.reg ?_  -- region 81, router.go:729
    refine G.v (V.ld (v := Pt r.n 0) Tryd.isAgg136 rfl (.tail _ (.head _)) rfl) rfl ?_
    refine G.v (V.nc rfl) rfl ?_
    refine G.v (V.fa F146_4 rfl) rfl ?_
    refine G.v (V.ldC Tryd.isAgg140 rfl (hrow 4 _ rfl) hD) rfl ?_
    refine G.v (V.neO Tryd.underlying140 rfl) rfl ?_
    refine G.nil ?_
    refine GC.cond rfl (fun h259 => by rw [hnf] at h259; cases h259) (fun h259 => ?_)
    refine GC.seq ?_
    refine GC.reg ?_  -- region 85, router.go:733
    refine G.v (V.ld (v := Pt r.n 0) Tryd.isAgg136 rfl (.tail _ (.head _)) rfl) rfl ?_
    refine G.v (V.nc rfl) rfl ?_
    refine G.v (V.fa F146_12 rfl) rfl ?_
    refine G.v (V.ldC Tryd.isAgg4 rfl (hrow 12 _ rfl) hD) rfl ?_
    refine G.nil ?_
    refine GC.cond rfl (fun h287 => ?_) (fun h287 => by rw [hdl] at h287; cases h287)
    refine GC.seq ?_
    refine GC.reg ?_  -- region 86, router.go:734
    refine G.v (V.mv rfl) rfl ?_
    refine G.v (V.ld (v := Pt r.n 0) Tryd.isAgg136 rfl (.tail _ (.head _)) rfl) rfl ?_
    refine G.v (V.nc rfl) rfl ?_
    refine G.v (V.fa F146_0 rfl) rfl ?_
    refine G.v (V.ldC Tryd.isAgg142 rfl (hrow 0 _ rfl) hD) rfl ?_
    refine G.v (V.nc rfl) rfl ?_
    refine G.v (V.fa F155_12 rfl) rfl ?_
    refine G.v (V.ldC Tryd.isAgg9 rfl (hmrow 12 _ rfl) hDm) rfl ?_
    refine G.v (V.nc rfl) rfl ?_
    refine G.v (V.fa F98_4 rfl) rfl ?_
    refine G.st Tryd.sizeOf9 rfl rfl rfl (.s (.s (.s (.s (.s (.s (.s (.s .z)))))))) rfl rfl ?_
    refine G.nil ?_
    refine GC.seq ?_
    refine GC.reg ?_  -- region 87, router.go:735
    refine G.v (V.mv rfl) rfl ?_
    refine G.callN Tryd.call58 rfl rfl (fun w1 _ => f58_any w1 (-2)) (fun hb2 _ => ?_)
    refine G.v (V.nc rfl) rfl ?_
    refine G.v (V.fa F98_2 rfl) rfl ?_
    refine G.st Tryd.sizeOf95 rfl rfl rfl (.s (.s (.s (.s (.s (.s (.s (.s (.s .z))))))))) rfl rfl ?_
    refine G.nil ?_
    refine GC.seq ?_
    refine GC.reg ?_  -- region 88, router.go:736
    refine G.v (V.mv rfl) rfl ?_
    refine G.v (V.eqS rfl rfl) rfl ?_
    refine G.nil ?_
    refine GC.join (fun fr' H' => Sub [(8, Pt cb 0), (32, S r.orig), (33, .slice none 0 0)] fr' ∧ ∃ hb, H' = ⟨hb, true, .row [I (if meth = optM then -3 else -2)] 3 (0, 0)⟩ :: (B.ents path (some r.n) si pi s vals ++ [cxE cb sl pn (Pt hb 0) pa r.hdr])) (fun J303 => ?_) ?_
    · refine GC.condD rfl (fun h303 => ?_) (fun h303 => ?_)
      · refine GC.reg ?_  -- region 89, router.go:737
        refine G.v (V.mv rfl) rfl ?_
        refine G.callN Tryd.call58 rfl rfl (fun w1 _ => f58_any w1 (-3)) (fun hb3 _ => ?_)
        refine G.v (V.nc rfl) rfl ?_
        refine G.v (V.fa F98_2 rfl) rfl ?_
        refine G.st Tryd.sizeOf95 rfl rfl rfl (.s (.s (.s (.s (.s (.s (.s (.s (.s (.s .z)))))))))) rfl rfl ?_
        refine G.nil ?_
        have hnum : (if meth = optM then (-3 : Int) else -2) = (-3) := if_pos h303
        refine GC.turn (H' := ⟨hb3, true, .row [I (-3)] 3 (0, 0)⟩ :: (B.ents path (some r.n) si pi s vals ++ [cxE cb sl pn (Pt hb3 0) pa r.hdr])) (fun w1 hw1 => HF.sub (H := ⟨hb3, true, .row [I (-3)] 3 (0, 0)⟩ :: ⟨hb2, true, .row [I (-2)] 3 (0, 0)⟩ :: ⟨hb1, true, .row [I (-1)] 3 (0, 0)⟩ :: (B.ents path (some r.n) si pi s vals ++ [cxE cb sl pn (Pt hb3 0) pa r.hdr])) hw1 (.cons_cons _ ((List.sublist_cons_self _ _).trans (List.sublist_cons_self _ _)))) (J303 _ _ ⟨.cons rfl (.cons rfl (.cons rfl .nil)), hb3, by rw [hnum]⟩)
      refine GC.skip ?_
      have hnum : (if meth = optM then (-3 : Int) else -2) = (-2) := if_neg h303
      refine GC.turn (H' := ⟨hb2, true, .row [I (-2)] 3 (0, 0)⟩ :: (B.ents path (some r.n) si pi s vals ++ [cxE cb sl pn (Pt hb2 0) pa r.hdr])) (fun w1 hw1 => HF.sub (H := ⟨hb2, true, .row [I (-2)] 3 (0, 0)⟩ :: ⟨hb1, true, .row [I (-1)] 3 (0, 0)⟩ :: (B.ents path (some r.n) si pi s vals ++ [cxE cb sl pn (Pt hb2 0) pa r.hdr])) hw1 (.cons_cons _ (List.sublist_cons_self _ _))) (J303 _ _ ⟨.cons rfl (.cons rfl (.cons rfl .nil)), hb2, by rw [hnum]⟩)
    rintro fr' H' ⟨hs2, hb, rfl⟩
    refine GC.weak hs2 ?_
    clear hs2
    refine GC.seq ?_
    refine GC.reg ?_  -- region 90, router.go:741
    refine G.v (V.mv rfl) rfl ?_
    refine G.v (V.mv rfl) rfl ?_
    refine G.v (V.nc rfl) rfl ?_
    refine G.v (V.fa F98_3 rfl) rfl ?_
    refine G.st Tryd.sizeOf9 rfl rfl rfl (.s (.s (.s (.s (.s (.s (.s (.s .z)))))))) rfl rfl ?_
    refine G.nil ?_
    refine GC.reg ?_  -- region 91, router.go:742
    refine G.v (V.mv rfl) rfl ?_
    refine G.v (V.mv rfl) rfl ?_
    refine G.v (V.nc rfl) rfl ?_
    refine G.v (V.fa F98_1 rfl) rfl ?_
    refine G.st Tryd.sizeOf24 rfl rfl rfl (.s (.s (.s (.s (.s (.s (.s (.s .z)))))))) rfl rfl ?_
    refine G.nil ?_
    exact GC.end0 rfl fun w' hw' => k hb w' hw'
  · cases h225
theorem f59_emiss1 {R : Ending → World → Prop} {w : World} {D : Nat → Prop} {B : LB} {cb : Nat} {meth path : List UInt8} {si pi : Nat} {s : List UInt8} {vals : List (List UInt8)} {sl pn hp : Value} {pa al : List UInt8} {fr : SF} {E : SH} (hE : RF w D E) {n : Nat} {r : NR} (hr : ∀ e ∈ r.ents, e ∈ E) (hnf : r.nf = none) (hdl : r.hdl = true) (hs : Sub (F59e B cb meth (some r.n) none) fr)
    (k : ∀ hb w', HF w D (⟨hb, true, .row [I (if meth = optM then -3 else -2)] 3 (0, 0)⟩ :: (B.ents path (some r.n) si pi s vals ++ [cxE cb sl (.slice none 0 0) (Pt hb 0) r.orig r.hdr])) w' → R (.returned (.tuple #[])) w') :
    GC Tryd.prog ⟨59, Tryd.f59, R, w, D⟩ 316 K59e fr (B.ents path (some n) si pi s vals ++ [cxE cb sl pn hp pa al]) := by
  have hrow : ∀ (i : Nat) (v : Value), nth r.row i = some v → w.cell? ⟨r.n, i, none⟩ = some v := fun i v hv => hE.cell (hr _ (.head _)) hv
  have hmrow : ∀ (i : Nat) (v : Value), nth r.mr i = some v → w.cell? ⟨r.m, i, none⟩ = some v := fun i v hv => hE.cell (hr _ (.tail _ (.head _))) hv
  have hD : ¬ D r.n := hE.D (hr _ (.head _))
  have hDm : ¬ D r.m := hE.D (hr _ (.tail _ (.head _)))
  refine GC.weak hs ?_
  refine GC.seq ?_
  refine GC.seq ?_
  refine GC.reg ?_  -- region 70, router.go:709
  refine G.v (V.ld Tryd.isAgg136 rfl (.head _) rfl) rfl ?_
  refine G.v (V.eqO (p := (some n)) Tryd.underlying136 rfl) rfl ?_
  refine G.v (V.mv rfl) rfl ?_
  refine G.bc 225 rfl (fun h225 => ?_) (fun h225 => ?_)
  · cases h225
  · refine G.sg rfl rfl rfl rfl rfl rfl ?_
    refine G.sg rfl rfl rfl rfl rfl rfl ?_
    refine G.v (v := .bool false) (V.pickF rfl rfl) rfl ?_
    refine G.nil ?_
    refine GC.condF rfl ?_
    refine GC.skip ?_
    refine GC.seq ?_
    refine GC.weak (fr' := F59e B cb meth (some r.n) none) (.cons rfl (.cons rfl (.cons rfl (.cons rfl (.cons rfl .nil))))) ?_
    refine GC.reg ?_  -- region 71, router.go:715
    refine G.v (V.asg rfl) rfl ?_
    refine G.nil ?_
    refine GC.seq ?_
    refine GC.reg ?_  -- region 72, router.go:716
    refine G.v (V.asg rfl) rfl ?_
    refine G.nil ?_
    refine GC.seq ?_
    refine GC.seq ?_
    refine GC.reg ?_  -- region 73, router.go:717
    refine G.v (V.mv rfl) rfl ?_
    refine G.v (V.neO (p := none) Tryd.underlying140 rfl) rfl ?_
    refine G.nil ?_
    refine GC.condF rfl ?_
    refine GC.seq ?_
    refine GC.reg ?_  -- region 77, router.go:724
    refine G.v (V.mv rfl) rfl ?_
    refine G.st (v := Pt r.n 0) Tryd.sizeOf136 rfl rfl rfl .z rfl rfl ?_
    refine G.nil ?_
    refine GC.seq ?_
    refine GC.reg ?_  -- region 78, router.go:726
    refine G.v (V.ld (v := Pt r.n 0) Tryd.isAgg136 rfl (.head _) rfl) rfl ?_
    refine G.v (V.nc rfl) rfl ?_
    refine G.v (V.fa F146_6 rfl) rfl ?_
    refine G.v (V.ldC Tryd.isAgg9 rfl (hrow 6 _ rfl) hD) rfl ?_
    refine G.v (V.asg rfl) rfl ?_
    refine G.nil ?_
    refine GC.seq ?_
    refine GC.reg ?_  -- region 79, router.go:727
    refine G.v (V.asg rfl) rfl ?_
    refine G.nil ?_
    refine GC.seq ?_
    refine GC.reg ?_  -- region 80, router.go:728
    refine G.v (V.mv rfl) rfl ?_
    refine G.callN Tryd.call58 rfl rfl (fun w1 _ => f58_any w1 (-1)) (fun hb1 _ => ?_)
    refine G.v (V.nc rfl) rfl ?_
    refine G.v (V.fa F98_2 rfl) rfl ?_
    refine G.st Tryd.sizeOf95 rfl rfl rfl (.s (.s (.s (.s (.s (.s (.s (.s .z)))))))) rfl rfl ?_
    refine G.nil ?_
    refine GC.seq ?_
    refine GC.reg ?_  -- region 81, router.go:729
    refine G.v (V.ld (v := Pt r.n 0) Tryd.isAgg136 rfl (.tail _ (.head _)) rfl) rfl ?_
    refine G.v (V.nc rfl) rfl ?_
    refine G.v (V.fa F146_4 rfl) rfl ?_
    refine G.v (V.ldC Tryd.isAgg140 rfl (hrow 4 _ rfl) hD) rfl ?_
    refine G.v (V.neO Tryd.underlying140 rfl) rfl ?_
    refine G.nil ?_
    refine GC.cond rfl (fun h259 => by rw [hnf] at h259; cases h259) (fun h259 => ?_)
    refine GC.seq ?_
    refine GC.reg ?_  -- region 85, router.go:733
    refine G.v (V.ld (v := Pt r.n 0) Tryd.isAgg136 rfl (.tail _ (.head _)) rfl) rfl ?_
    refine G.v (V.nc rfl) rfl ?_
    refine G.v (V.fa F146_12 rfl) rfl ?_
    refine G.v (V.ldC Tryd.isAgg4 rfl (hrow 12 _ rfl) hD) rfl ?_
    refine G.nil ?_
    refine GC.cond rfl (fun h287 => ?_) (fun h287 => by rw [hdl] at h287; cases h287)
    refine GC.seq ?_
    refine GC.reg ?_  -- region 86, router.go:734
    refine G.v (V.mv rfl) rfl ?_
    refine G.v (V.ld (v := Pt r.n 0) Tryd.isAgg136 rfl (.tail _ (.head _)) rfl) rfl ?_
    refine G.v (V.nc rfl) rfl ?_
    refine G.v (V.fa F146_0 rfl) rfl ?_
    refine G.v (V.ldC Tryd.isAgg142 rfl (hrow 0 _ rfl) hD) rfl ?_
    refine G.v (V.nc rfl) rfl ?_
    refine G.v (V.fa F155_12 rfl) rfl ?_
    refine G.v (V.ldC Tryd.isAgg9 rfl (hmrow 12 _ rfl) hDm) rfl ?_
    refine G.v (V.nc rfl) rfl ?_
    refine G.v (V.fa F98_4 rfl) rfl ?_
    refine G.st Tryd.sizeOf9 rfl rfl rfl (.s (.s (.s (.s (.s (.s (.s (.s .z)))))))) rfl rfl ?_
    refine G.nil ?_
    refine GC.seq ?_
    refine GC.reg ?_  -- region 87, router.go:735
    refine G.v (V.mv rfl) rfl ?_
    refine G.callN Tryd.call58 rfl rfl (fun w1 _ => f58_any w1 (-2)) (fun hb2 _ => ?_)
    refine G.v (V.nc rfl) rfl ?_
    refine G.v (V.fa F98_2 rfl) rfl ?_
    refine G.st Tryd.sizeOf95 rfl rfl rfl (.s (.s (.s (.s (.s (.s (.s (.s (.s .z))))))))) rfl rfl ?_
    refine G.nil ?_
    refine GC.seq ?_
    refine GC.reg ?_  -- region 88, router.go:736
    refine G.v (V.mv rfl) rfl ?_
    refine G.v (V.eqS rfl rfl) rfl ?_
    refine G.nil ?_
    refine GC.join (fun fr' H' => Sub [(8, Pt cb 0), (32, S r.orig), (33, .slice none 0 0)] fr' ∧ ∃ hb, H' = ⟨hb, true, .row [I (if meth = optM then -3 else -2)] 3 (0, 0)⟩ :: (B.ents path (some r.n) si pi s vals ++ [cxE cb sl pn (Pt hb 0) pa r.hdr])) (fun J303 => ?_) ?_
    · refine GC.condD rfl (fun h303 => ?_) (fun h303 => ?_)
      · refine GC.reg ?_  -- region 89, router.go:737
        refine G.v (V.mv rfl) rfl ?_
        refine G.callN Tryd.call58 rfl rfl (fun w1 _ => f58_any w1 (-3)) (fun hb3 _ => ?_)
        refine G.v (V.nc rfl) rfl ?_
        refine G.v (V.fa F98_2 rfl) rfl ?_
        refine G.st Tryd.sizeOf95 rfl rfl rfl (.s (.s (.s (.s (.s (.s (.s (.s (.s (.s .z)))))))))) rfl rfl ?_
        refine G.nil ?_
        have hnum : (if meth = optM then (-3 : Int) else -2) = (-3) := if_pos h303
        refine GC.turn (H' := ⟨hb3, true, .row [I (-3)] 3 (0, 0)⟩ :: (B.ents path (some r.n) si pi s vals ++ [cxE cb sl pn (Pt hb3 0) pa r.hdr])) (fun w1 hw1 => HF.sub (H := ⟨hb3, true, .row [I (-3)] 3 (0, 0)⟩ :: ⟨hb2, true, .row [I (-2)] 3 (0, 0)⟩ :: ⟨hb1, true, .row [I (-1)] 3 (0, 0)⟩ :: (B.ents path (some r.n) si pi s vals ++ [cxE cb sl pn (Pt hb3 0) pa r.hdr])) hw1 (.cons_cons _ ((List.sublist_cons_self _ _).trans (List.sublist_cons_self _ _)))) (J303 _ _ ⟨.cons rfl (.cons rfl (.cons rfl .nil)), hb3, by rw [hnum]⟩)
      refine GC.skip ?_
      have hnum : (if meth = optM then (-3 : Int) else -2) = (-2) := if_neg h303
      refine GC.turn (H' := ⟨hb2, true, .row [I (-2)] 3 (0, 0)⟩ :: (B.ents path (some r.n) si pi s vals ++ [cxE cb sl pn (Pt hb2 0) pa r.hdr])) (fun w1 hw1 => HF.sub (H := ⟨hb2, true, .row [I (-2)] 3 (0, 0)⟩ :: ⟨hb1, true, .row [I (-1)] 3 (0, 0)⟩ :: (B.ents path (some r.n) si pi s vals ++ [cxE cb sl pn (Pt hb2 0) pa r.hdr])) hw1 (.cons_cons _ (List.sublist_cons_self _ _))) (J303 _ _ ⟨.cons rfl (.cons rfl (.cons rfl .nil)), hb2, by rw [hnum]⟩)
    rintro fr' H' ⟨hs2, hb, rfl⟩
    refine GC.weak hs2 ?_
    clear hs2
    refine GC.seq ?_
    refine GC.reg ?_  -- region 90, router.go:741
    refine G.v (V.mv rfl) rfl ?_
    refine G.v (V.mv rfl) rfl ?_
    refine G.v (V.nc rfl) rfl ?_
    refine G.v (V.fa F98_3 rfl) rfl ?_
    refine G.st Tryd.sizeOf9 rfl rfl rfl (.s (.s (.s (.s (.s (.s (.s (.s .z)))))))) rfl rfl ?_
    refine G.nil ?_
    refine GC.reg ?_  -- region 91, router.go:742
    refine G.v (V.mv rfl) rfl ?_
    refine G.v (V.mv rfl) rfl ?_
    refine G.v (V.nc rfl) rfl ?_
    refine G.v (V.fa F98_1 rfl) rfl ?_
    refine G.st Tryd.sizeOf24 rfl rfl rfl (.s (.s (.s (.s (.s (.s (.s (.s .z)))))))) rfl rfl ?_
    refine G.nil ?_
    exact GC.end0 rfl fun w' hw' => k hb w' hw'
theorem f59_emissNf0 {R : Ending → World → Prop} {w : World} {D : Nat → Prop} {B : LB} {cb : Nat} {meth path : List UInt8} {si pi : Nat} {s : List UInt8} {vals : List (List UInt8)} {sl pn hp : Value} {pa al : List UInt8} {fr : SF} {E : SH} (hE : RF w D E) {_n : Nat} {r : NR} (hr : ∀ e ∈ r.ents, e ∈ E) {h hh np pcp : Nat} {pp : List UInt8} {pad : Option Addr} (hm : rmE h (some hh) pp pad np pcp ∈ E) (hnf : r.nf = some h) (hs : Sub (F59e B cb meth (some r.n) none) fr)
    (k : ∀ w', HF w D (B.ents path (some r.n) si pi s vals ++ [cxE cb sl (.slice pad np pcp) (Pt hh 0) pp al]) w' → R (.returned (.tuple #[])) w') :
    GC Tryd.prog ⟨59, Tryd.f59, R, w, D⟩ 316 K59e fr (B.ents path none si pi s vals ++ [cxE cb sl pn hp pa al]) := by
  have hrow : ∀ (i : Nat) (v : Value), nth r.row i = some v → w.cell? ⟨r.n, i, none⟩ = some v := fun i v hv => hE.cell (hr _ (.head _)) hv
  have hD : ¬ D r.n := hE.D (hr _ (.head _))
  have hrm : ∀ (i : Nat) (v : Value), nth [PO (some hh), S pp, .slice pad np pcp] i = some v → w.cell? ⟨h, i, none⟩ = some v := fun i v hv => hE.cell hm hv
  have hDh : ¬ D h := hE.D hm
  have hnf4 : w.cell? ⟨r.n, 4, none⟩ = some (Pt h 0) := by rw [hrow 4 _ rfl, hnf]; rfl
  refine GC.weak hs ?_
  refine GC.seq ?_
  refine GC.seq ?_
  refine GC.reg ?_  -- region 70, router.go:709
  refine G.v (V.ld Tryd.isAgg136 rfl (.head _) rfl) rfl ?_
  refine G.v (V.eqO (p := none) Tryd.underlying136 rfl) rfl ?_
  refine G.v (V.mv rfl) rfl ?_
  refine G.bc 225 rfl (fun h225 => ?_) (fun h225 => ?_)
  · refine G.vg rfl rfl (V.mv rfl) rfl ?_
    refine G.vg rfl rfl (V.eqO (p := some r.n) Tryd.underlying136 rfl) rfl ?_
    refine G.v (v := .bool false) (V.pickT rfl rfl) rfl ?_
    refine G.nil ?_
    refine GC.condF rfl ?_
    refine GC.skip ?_
    refine GC.seq ?_
    refine GC.weak (fr' := F59e B cb meth (some r.n) none) (.cons rfl (.cons rfl (.cons rfl (.cons rfl (.cons rfl .nil))))) ?_
    refine GC.reg ?_  -- region 71, router.go:715
    refine G.v (V.asg rfl) rfl ?_
    refine G.nil ?_
    refine GC.seq ?_
    refine GC.reg ?_  -- region 72, router.go:716
    refine G.v (V.asg rfl) rfl ?_
    refine G.nil ?_
    refine GC.seq ?_
    refine GC.seq ?_
    refine GC.reg ?_  -- region 73, router.go:717
    refine G.v (V.mv rfl) rfl ?_
    refine G.v (V.neO (p := none) Tryd.underlying140 rfl) rfl ?_
    refine G.nil ?_
    refine GC.condF rfl ?_
    refine GC.seq ?_
    refine GC.reg ?_  -- region 77, router.go:724
    refine G.v (V.mv rfl) rfl ?_
    refine G.st (v := Pt r.n 0) Tryd.sizeOf136 rfl rfl rfl .z rfl rfl ?_
    refine G.nil ?_
    refine GC.seq ?_
    refine GC.reg ?_  -- region 78, router.go:726
    refine G.v (V.ld (v := Pt r.n 0) Tryd.isAgg136 rfl (.head _) rfl) rfl ?_
    refine G.v (V.nc rfl) rfl ?_
    refine G.v (V.fa F146_6 rfl) rfl ?_
    refine G.v (V.ldC Tryd.isAgg9 rfl (hrow 6 _ rfl) hD) rfl ?_
    refine G.v (V.asg rfl) rfl ?_
    refine G.nil ?_
    refine GC.seq ?_
    refine GC.reg ?_  -- region 79, router.go:727
    refine G.v (V.asg rfl) rfl ?_
    refine G.nil ?_
    refine GC.seq ?_
    refine GC.reg ?_  -- region 80, router.go:728
    refine G.v (V.mv rfl) rfl ?_
    refine G.callN Tryd.call58 rfl rfl (fun w1 _ => f58_any w1 (-1)) (fun hb1 _ => ?_)
    refine G.v (V.nc rfl) rfl ?_
    refine G.v (V.fa F98_2 rfl) rfl ?_
    refine G.st Tryd.sizeOf95 rfl rfl rfl (.s (.s (.s (.s (.s (.s (.s (.s .z)))))))) rfl rfl ?_
    refine G.nil ?_
    refine GC.seq ?_
    refine GC.reg ?_  -- region 81, router.go:729
    refine G.v (V.ld (v := Pt r.n 0) Tryd.isAgg136 rfl (.tail _ (.head _)) rfl) rfl ?_
    refine G.v (V.nc rfl) rfl ?_
    refine G.v (V.fa F146_4 rfl) rfl ?_
    refine G.v (V.ldC Tryd.isAgg140 rfl hnf4 hD) rfl ?_
    refine G.v (V.neO (p := some h) Tryd.underlying140 rfl) rfl ?_
    refine G.nil ?_
    refine GC.cond rfl (fun h259 => ?_) (fun h259 => by cases h259)
    refine GC.seq ?_
    refine GC.reg ?_  -- region 82, router.go:730
    refine G.v (V.ld (v := Pt r.n 0) Tryd.isAgg136 rfl (.tail _ (.head _)) rfl) rfl ?_
    refine G.v (V.nc rfl) rfl ?_
    refine G.v (V.fa F146_4 rfl) rfl ?_
    refine G.v (V.ldC Tryd.isAgg140 rfl hnf4 hD) rfl ?_
    refine G.v (V.nc rfl) rfl ?_
    refine G.v (V.fa F152_1 rfl) rfl ?_
    refine G.v (V.ldC Tryd.isAgg9 rfl (hrm 1 _ rfl) hDh) rfl ?_
    refine G.v (V.asg rfl) rfl ?_
    refine G.nil ?_
    refine GC.seq ?_
    refine GC.reg ?_  -- region 83, router.go:731
    refine G.v (V.ld (v := Pt r.n 0) Tryd.isAgg136 rfl (.tail _ (.head _)) rfl) rfl ?_
    refine G.v (V.nc rfl) rfl ?_
    refine G.v (V.fa F146_4 rfl) rfl ?_
    refine G.v (V.ldC Tryd.isAgg140 rfl hnf4 hD) rfl ?_
    refine G.v (V.nc rfl) rfl ?_
    refine G.v (V.fa F152_2 rfl) rfl ?_
    refine G.v (V.ldC Tryd.isAgg24 rfl (hrm 2 _ rfl) hDh) rfl ?_
    refine G.v (V.asg rfl) rfl ?_
    refine G.nil ?_
    refine GC.reg ?_  -- region 84, router.go:732
    refine G.v (V.mv rfl) rfl ?_
    refine G.v (V.ld (v := Pt r.n 0) Tryd.isAgg136 rfl (.tail _ (.head _)) rfl) rfl ?_
    refine G.v (V.nc rfl) rfl ?_
    refine G.v (V.fa F146_4 rfl) rfl ?_
    refine G.v (V.ldC Tryd.isAgg140 rfl hnf4 hD) rfl ?_
    refine G.v (V.nc rfl) rfl ?_
    refine G.v (V.fa F152_0 rfl) rfl ?_
    refine G.v (V.ldC Tryd.isAgg95 rfl (hrm 0 _ rfl) hDh) rfl ?_
    refine G.v (V.nc rfl) rfl ?_
    refine G.v (V.fa F98_2 rfl) rfl ?_
    refine G.st Tryd.sizeOf95 rfl rfl rfl (.s (.s (.s (.s (.s (.s (.s (.s .z)))))))) rfl rfl ?_
    refine G.nil ?_
    refine GC.seq ?_
    refine GC.reg ?_  -- region 90, router.go:741
    refine G.v (V.mv rfl) rfl ?_
    refine G.v (V.mv rfl) rfl ?_
    refine G.v (V.nc rfl) rfl ?_
    refine G.v (V.fa F98_3 rfl) rfl ?_
    refine G.st Tryd.sizeOf9 rfl rfl rfl (.s (.s (.s (.s (.s (.s (.s (.s .z)))))))) rfl rfl ?_
    refine G.nil ?_
    refine GC.reg ?_  -- region 91, router.go:742
    refine G.v (V.mv rfl) rfl ?_
    refine G.v (V.mv rfl) rfl ?_
    refine G.v (V.nc rfl) rfl ?_
    refine G.v (V.fa F98_1 rfl) rfl ?_
    refine G.st Tryd.sizeOf24 rfl rfl rfl (.s (.s (.s (.s (.s (.s (.s (.s .z)))))))) rfl rfl ?_
    refine G.nil ?_
    exact GC.end0 rfl fun w' hw' => k w' (HF.sub (H := ⟨hb1, true, .row [I (-1)] 3 (0, 0)⟩ :: (B.ents path (some r.n) si pi s vals ++ [cxE cb sl (.slice pad np pcp) (Pt hh 0) pp al])) hw' (List.sublist_cons_self _ _))
  · cases h225
theorem f59_emissNf1 {R : Ending → World → Prop} {w : World} {D : Nat → Prop} {B : LB} {cb : Nat} {meth path : List UInt8} {si pi : Nat} {s : List UInt8} {vals : List (List UInt8)} {sl pn hp : Value} {pa al : List UInt8} {fr : SF} {E : SH} (hE : RF w D E) {n : Nat} {r : NR} (hr : ∀ e ∈ r.ents, e ∈ E) {h hh np pcp : Nat} {pp : List UInt8} {pad : Option Addr} (hm : rmE h (some hh) pp pad np pcp ∈ E) (hnf : r.nf = some h) (hs : Sub (F59e B cb meth (some r.n) none) fr)
    (k : ∀ w', HF w D (B.ents path (some r.n) si pi s vals ++ [cxE cb sl (.slice pad np pcp) (Pt hh 0) pp al]) w' → R (.returned (.tuple #[])) w') :
    GC Tryd.prog ⟨59, Tryd.f59, R, w, D⟩ 316 K59e fr (B.ents path (some n) si pi s vals ++ [cxE cb sl pn hp pa al]) := by
  have hrow : ∀ (i : Nat) (v : Value), nth r.row i = some v → w.cell? ⟨r.n, i, none⟩ = some v := fun i v hv => hE.cell (hr _ (.head _)) hv
  have hD : ¬ D r.n := hE.D (hr _ (.head _))
  have hrm : ∀ (i : Nat) (v : Value), nth [PO (some hh), S pp, .slice pad np pcp] i = some v → w.cell? ⟨h, i, none⟩ = some v := fun i v hv => hE.cell hm hv
  have hDh : ¬ D h := hE.D hm
  have hnf4 : w.cell? ⟨r.n, 4, none⟩ = some (Pt h 0) := by rw [hrow 4 _ rfl, hnf]; rfl
  refine GC.weak hs ?_
  refine GC.seq ?_
  refine GC.seq ?_
  refine GC.reg ?_  -- region 70, router.go:709
  refine G.v (V.ld Tryd.isAgg136 rfl (.head _) rfl) rfl ?_
  refine G.v (V.eqO (p := (some n)) Tryd.underlying136 rfl) rfl ?_
  refine G.v (V.mv rfl) rfl ?_
  refine G.bc 225 rfl (fun h225 => ?_) (fun h225 => ?_)
  · cases h225
  · refine G.sg rfl rfl rfl rfl rfl rfl ?_
    refine G.sg rfl rfl rfl rfl rfl rfl ?_
    refine G.v (v := .bool false) (V.pickF rfl rfl) rfl ?_
    refine G.nil ?_
    refine GC.condF rfl ?_
    refine GC.skip ?_
    refine GC.seq ?_
    refine GC.weak (fr' := F59e B cb meth (some r.n) none) (.cons rfl (.cons rfl (.cons rfl (.cons rfl (.cons rfl .nil))))) ?_
    refine GC.reg ?_  -- region 71, router.go:715
    refine G.v (V.asg rfl) rfl ?_
    refine G.nil ?_
    refine GC.seq ?_
    refine GC.reg ?_  -- region 72, router.go:716
    refine G.v (V.asg rfl) rfl ?_
    refine G.nil ?_
    refine GC.seq ?_
    refine GC.seq ?_
    refine GC.reg ?_  -- region 73, router.go:717
    refine G.v (V.mv rfl) rfl ?_
    refine G.v (V.neO (p := none) Tryd.underlying140 rfl) rfl ?_
    refine G.nil ?_
    refine GC.condF rfl ?_
    refine GC.seq ?_
    refine GC.reg ?_  -- region 77, router.go:724
    refine G.v (V.mv rfl) rfl ?_
    refine G.st (v := Pt r.n 0) Tryd.sizeOf136 rfl rfl rfl .z rfl rfl ?_
    refine G.nil ?_
    refine GC.seq ?_
    refine GC.reg ?_  -- region 78, router.go:726
    refine G.v (V.ld (v := Pt r.n 0) Tryd.isAgg136 rfl (.head _) rfl) rfl ?_
    refine G.v (V.nc rfl) rfl ?_
    refine G.v (V.fa F146_6 rfl) rfl ?_
    refine G.v (V.ldC Tryd.isAgg9 rfl (hrow 6 _ rfl) hD) rfl ?_
    refine G.v (V.asg rfl) rfl ?_
    refine G.nil ?_
    refine GC.seq ?_
    refine GC.reg ?_  -- region 79, router.go:727
    refine G.v (V.asg rfl) rfl ?_
    refine G.nil ?_
    refine GC.seq ?_
    refine GC.reg ?_  -- region 80, router.go:728
    refine G.v (V.mv rfl) rfl ?_
    refine G.callN Tryd.call58 rfl rfl (fun w1 _ => f58_any w1 (-1)) (fun hb1 _ => ?_)
    refine G.v (V.nc rfl) rfl ?_
    refine G.v (V.fa F98_2 rfl) rfl ?_
    refine G.st Tryd.sizeOf95 rfl rfl rfl (.s (.s (.s (.s (.s (.s (.s (.s .z)))))))) rfl rfl ?_
    refine G.nil ?_
    refine GC.seq ?_
    refine GC.reg ?_  -- region 81, router.go:729
    refine G.v (V.ld (v := Pt r.n 0) Tryd.isAgg136 rfl (.tail _ (.head _)) rfl) rfl ?_
    refine G.v (V.nc rfl) rfl ?_
    refine G.v (V.fa F146_4 rfl) rfl ?_
    refine G.v (V.ldC Tryd.isAgg140 rfl hnf4 hD) rfl ?_
    refine G.v (V.neO (p := some h) Tryd.underlying140 rfl) rfl ?_
    refine G.nil ?_
    refine GC.cond rfl (fun h259 => ?_) (fun h259 => by cases h259)
    refine GC.seq ?_
    refine GC.reg ?_  -- region 82, router.go:730
    refine G.v (V.ld (v := Pt r.n 0) Tryd.isAgg136 rfl (.tail _ (.head _)) rfl) rfl ?_
    refine G.v (V.nc rfl) rfl ?_
    refine G.v (V.fa F146_4 rfl) rfl ?_
    refine G.v (V.ldC Tryd.isAgg140 rfl hnf4 hD) rfl ?_
    refine G.v (V.nc rfl) rfl ?_
    refine G.v (V.fa F152_1 rfl) rfl ?_
    refine G.v (V.ldC Tryd.isAgg9 rfl (hrm 1 _ rfl) hDh) rfl ?_
    refine G.v (V.asg rfl) rfl ?_
    refine G.nil ?_
    refine GC.seq ?_
    refine GC.reg ?_  -- region 83, router.go:731
    refine G.v (V.ld (v := Pt r.n 0) Tryd.isAgg136 rfl (.tail _ (.head _)) rfl) rfl ?_
    refine G.v (V.nc rfl) rfl ?_
    refine G.v (V.fa F146_4 rfl) rfl ?_
    refine G.v (V.ldC Tryd.isAgg140 rfl hnf4 hD) rfl ?_
    refine G.v (V.nc rfl) rfl ?_
    refine G.v (V.fa F152_2 rfl) rfl ?_
    refine G.v (V.ldC Tryd.isAgg24 rfl (hrm 2 _ rfl) hDh) rfl ?_
    refine G.v (V.asg rfl) rfl ?_
    refine G.nil ?_
    refine GC.reg ?_  -- region 84, router.go:732
    refine G.v (V.mv rfl) rfl ?_
    refine G.v (V.ld (v := Pt r.n 0) Tryd.isAgg136 rfl (.tail _ (.head _)) rfl) rfl ?_
    refine G.v (V.nc rfl) rfl ?_
    refine G.v (V.fa F146_4 rfl) rfl ?_
    refine G.v (V.ldC Tryd.isAgg140 rfl hnf4 hD) rfl ?_
    refine G.v (V.nc rfl) rfl ?_
    refine G.v (V.fa F152_0 rfl) rfl ?_
    refine G.v (V.ldC Tryd.isAgg95 rfl (hrm 0 _ rfl) hDh) rfl ?_
    refine G.v (V.nc rfl) rfl ?_
    refine G.v (V.fa F98_2 rfl) rfl ?_
    refine G.st Tryd.sizeOf95 rfl rfl rfl (.s (.s (.s (.s (.s (.s (.s (.s .z)))))))) rfl rfl ?_
    refine G.nil ?_
    refine GC.seq ?_
    refine GC.reg ?_  -- region 90, router.go:741
    refine G.v (V.mv rfl) rfl ?_
    refine G.v (V.mv rfl) rfl ?_
    refine G.v (V.nc rfl) rfl ?_
    refine G.v (V.fa F98_3 rfl) rfl ?_
    refine G.st Tryd.sizeOf9 rfl rfl rfl (.s (.s (.s (.s (.s (.s (.s (.s .z)))))))) rfl rfl ?_
    refine G.nil ?_
    refine GC.reg ?_  -- region 91, router.go:742
    refine G.v (V.mv rfl) rfl ?_
    refine G.v (V.mv rfl) rfl ?_
    refine G.v (V.nc rfl) rfl ?_
    refine G.v (V.fa F98_1 rfl) rfl ?_
    refine G.st Tryd.sizeOf24 rfl rfl rfl (.s (.s (.s (.s (.s (.s (.s (.s .z)))))))) rfl rfl ?_
    refine G.nil ?_
    exact GC.end0 rfl fun w' hw' => k w' (HF.sub (H := ⟨hb1, true, .row [I (-1)] 3 (0, 0)⟩ :: (B.ents path (some r.n) si pi s vals ++ [cxE cb sl (.slice pad np pcp) (Pt hh 0) pp al])) hw' (List.sublist_cons_self _ _))
end Go.Proofs
