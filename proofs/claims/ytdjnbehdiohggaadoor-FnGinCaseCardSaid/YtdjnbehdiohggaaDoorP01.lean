/- Lemmas of the walk and plain facts (GsKit .. BwShort). -/
import Derived.Test.YtdjnbehdiohggaaDoorP00
import Derived.OrdersHeld
/- Rules of proof over the model that ask for no program: regions that draw, held and in any order; slices. -/
set_option maxRecDepth 20000
namespace Go.Proofs
end Go.Proofs
namespace Bw
open Go
variable {P : Program} {c : Cx} {n : Nat} {k : List Item} {fr : SF} {H : SH} {ops : Array Oper} {rest : List Oper} {ty : TypeId} {pos : String} {aft : Array Edge}
theorem HF.loc {w0 D w} {H H1 : SH} (h : HF w0 D H w) (hs : ∀ e ∈ H1, e ∈ H) (hn : H1.Pairwise (fun x y => x.b ≠ y.b)) : HF w (fun b => ∃ e ∈ H1, e.b = b) H1 w :=
  ⟨Nat.le_refl _, fun _ _ _ => rfl, fun e he => h.has e (hs e he), fun e he _ => .inl ⟨e, he, rfl⟩, hn, rfl, rfl, rfl⟩
theorem HF.back {w0 D w w'} {H H1 Hk H1' : SH} (h : HF w0 D H w) (hp : H.Perm (H1 ++ Hk)) (ha : ∀ e ∈ H1, e.w = true) (ha' : ∀ e ∈ H1', e.w = true) (h1 : HF w (fun b => ∃ e ∈ H1, e.b = b) H1' w') : HF w0 D (H1' ++ Hk) w' := by
  have hh := h.perm hp
  have hnd := List.pairwise_append.1 hh.nd
  refine hh.after h1 (List.sublist_append_right _ _) (fun b ⟨e, he, hb⟩ => hb ▸ hh.wr e (List.mem_append_left _ he) (ha e he)) (fun e he ⟨x, hx, hb⟩ => hnd.2.2 x hx e he hb) (fun e he x hx hb => ?_)
  rcases h1.wr e he (ha' e he) with ⟨y, hy, h2⟩ | h2
  · exact hnd.2.2 y hy x hx (h2.trans hb)
  · have := hh.lt (List.mem_append_right H1 hx); omega
/-- a call that turns the entries H1 and leaves the others -/
theorem G.callL {H1 Hk : SH} {g : FuncId} {xs : List Operand} {vs : List Value} {tys : Array TypeId} {d : Nat} (J : Value → SH → Prop) (hp : H.Perm (H1 ++ Hk)) (ha : ∀ e ∈ H1, e.w = true)
    (hg : ∀ (args : Array Value) w, (callFunc g args).run P w = .ok (.enter g args) w) (he : evs fr xs = some vs) (hd : Nat.blt d n = true)
    (hc : ∀ w, HF w (fun b => ∃ e ∈ H1, e.b = b) H1 w → (∀ e ∈ Hk, w.heap[e.b]? = some e.k.den ∧ ¬ ∃ x ∈ H1, x.b = e.b) →
      Calls P g vs.toArray w (fun e w' => ∃ v H1', e = .returned v ∧ (∀ x ∈ H1', x.w = true) ∧ HF w (fun b => ∃ e ∈ H1, e.b = b) H1' w' ∧ J v H1'))
    (hk : ∀ v H1', J v H1' → G P c n k ops rest ((d, v) :: fr) (H1' ++ Hk)) :
    G P c n k ops (⟨some d, .call ⟨.value (.func g), xs.toArray, tys⟩, ty, pos, aft, none⟩ :: rest) fr H := by
  refine G.callW (fun v H' => ∃ H1', J v H1' ∧ H' = H1' ++ Hk) hg he hd (fun w hw => ?_) (fun v H' ⟨H1', h1, h2⟩ => h2 ▸ hk v H1' h1)
  have hh := hw.perm hp
  have hnd := List.pairwise_append.1 hh.nd
  refine (hc w (hh.loc (fun e he => List.mem_append_left _ he) hnd.1) (fun e he => ⟨hh.has e (List.mem_append_right _ he), fun ⟨x, hx, hb⟩ => hnd.2.2 x hx e he hb⟩)).mono fun e w' ⟨v, H1', h1, h2, h3, h4⟩ => ?_
  exact ⟨v, _, h1, hw.back hp ha h2 h3, H1', h4, rfl⟩
theorem Own.w {e sz : Nat} {v : Value} {n : Nat} {xs : List Value} {H : SH} (h : Own e sz v n xs H) : ∀ x ∈ H, x.w = true := by
  cases h with
  | nil => intro e he; cases he
  | row _ _ _ => intro e he; simp only [List.mem_singleton] at he; subst he; rfl
theorem V.slLHe {P : Program} {t : TypeId} {x y z : Operand} {l l' : List UInt8} {i j : Nat} {kd kd' : IntKind} (hU : P.underlying t = some .string) (hx : ev fr x = some (S l)) (hy : ev fr y = some (.int kd (i : Int))) (hz : ev fr z = some (.int kd' (j : Int))) (hi : i ≤ j) (hj : j ≤ l.length)
    (e : (l.take j).drop i = l') : Val P c n (.slice t x (some y) (some z) none) ty fr H (S l') :=
  e ▸ V.slLH hU hx hy hz hi hj
theorem perm_idx {α : Type} (L : List (List α)) (i j : List Nat) (h : i.isPerm j = true) : ((i.map fun k => L.getD k []).flatten).Perm ((j.map fun k => L.getD k []).flatten) :=
  ((List.isPerm_iff.1 h).map _).flatten
end Bw
namespace Bw
open Go
variable {P : Program} {c : Cx} {n : Nat} {k : List Item} {fr : SF} {H : SH} {ops : Array Oper} {rest tail : List Oper} {ty : TypeId} {pos : String} {aft : Array Edge} {S : World → Prop}
def wpLH (P : Program) (ops : Array Oper) (Q : Exit → Act → World → Prop) (S : World → Prop) : List Oper → Act → World → Prop
  | [], a, w => Q .normal a w
  | o :: rest, a, w => if Region.wanted o (yielded ops a.tmps) then o.wp P a w (fun a' w' => S w' ∧ wpLH P ops Q S rest a' w') Q else S w ∧ wpLH P ops Q S rest (a.put o.dst undef) w
def wpHd (P : Program) (ops : Array Oper) (Q : Exit → Act → World → Prop) (S : World → Prop) (tail : List Oper) : List Oper → Act → World → Prop
  | [], a, w => wpLH P ops Q S tail a w
  | o :: rest, a, w => ∃ v, YieldsIf P ops S o v a ∧ wpHd P ops Q S tail rest (a.put o.dst v) w
def GH (P : Program) (c : Cx) (n : Nat) (k : List Item) (ops : Array Oper) (S : World → Prop) (l : List Oper) (fr : SF) (H : SH) : Prop :=
  P.funcs[c.f]? = some c.fn → ∀ a w, Fr n fr a → HF c.w0 c.D H w → wpLH P ops (Qk P c k) S l a w
def GI (P : Program) (c : Cx) (n : Nat) (k : List Item) (ops : Array Oper) (S : World → Prop) (tail l : List Oper) (fr : SF) (H : SH) : Prop :=
  P.funcs[c.f]? = some c.fn → ∀ a w, Fr n fr a → HF c.w0 c.D H w → wpHd P ops (Qk P c k) S tail l a w
theorem GI.nil (h : GH P c n k ops S tail fr H) : GI P c n k ops S tail [] fr H := fun hf a w ha hw => h hf a w ha hw
/-- an operation of the head: it yields v in every world that meets S -/
theorem GI.v {op : Op} {v : Value} {d : Nat} (hv : ∀ a w, Fr n fr a → S w → ∀ dst pos aft g, (execOp a.eval ⟨dst, op, ty, pos, aft, g⟩).run P w = .ok (.value v) w) (hd : Nat.blt d n = true) (hk : GI P c n k ops S tail rest ((d, v) :: fr) H) :
    GI P c n k ops S tail (⟨some d, op, ty, pos, aft, none⟩ :: rest) fr H := by
  intro hf a w ha hw
  exact ⟨v, .inl ⟨by simp [Region.wanted], fun w' hS => hv a w' ha hS _ _ _ _⟩, hk hf _ _ (ha.put hd v) hw⟩
/-- a value that asks nothing of the world -/
theorem GI.p {op : Op} {v : Value} {d : Nat} (hv : ∀ (w0 : World), Val P ⟨c.f, c.fn, c.R, w0, fun _ => False⟩ n op ty fr [] v) (hd : Nat.blt d n = true) (hk : GI P c n k ops S tail rest ((d, v) :: fr) H) :
    GI P c n k ops S tail (⟨some d, op, ty, pos, aft, none⟩ :: rest) fr H :=
  GI.v (fun a w ha _ dst pos aft g => hv w a w ha (HF.start w _) dst pos aft g) hd hk
/-- a load -/
theorem GI.ld {t : TypeId} {x : Operand} {d b off : Nat} {v : Value} (hA : ∀ w, (isAgg t).run P w = .ok false w) (h : ev fr x = some (Pt b off)) (hc : ∀ w, S w → w.cell? ⟨b, off, none⟩ = some v) (hd : Nat.blt d n = true)
    (hk : GI P c n k ops S tail rest ((d, v) :: fr) H) : GI P c n k ops S tail (⟨some d, .load t x, ty, pos, aft, none⟩ :: rest) fr H :=
  GI.v (fun a w ha hS dst pos aft g => by simp [execOp, ha.eval h, Instr.loadAt, Instr.sureAddr, loadVar, hA, run_load, hc w hS]) hd hk
theorem GH.nil (h : GC P c n k fr H) : GH P c n k ops S [] fr H := fun hf a w ha hw => h hf a w ha hw
theorem GH.v {op : Op} {v : Value} {d : Nat} (hS : ∀ w, HF c.w0 c.D H w → S w) (hv : Val P c n op ty fr H v) (hd : Nat.blt d n = true) (hk : GH P c n k ops S rest ((d, v) :: fr) H) : GH P c n k ops S (⟨some d, op, ty, pos, aft, none⟩ :: rest) fr H := by
  intro hf a w ha hw
  simp only [wpLH, Region.wanted, if_true, Oper.wp, hv a w ha hw, Oper.upon]
  exact ⟨hS w hw, hk hf _ _ (ha.put hd v) hw⟩
theorem GH.turn {H' : SH} {l : List Oper} (hs : ∀ w, HF c.w0 c.D H w → HF c.w0 c.D H' w) (h : GH P c n k ops S l fr H') : GH P c n k ops S l fr H :=
  fun hf a w ha hw => h hf a w ha (hs w hw)
theorem GH.callW {g : FuncId} {xs : List Operand} {vs : List Value} {tys : Array TypeId} {d : Nat} (J : Value → SH → Prop) (hg : ∀ (args : Array Value) w, (callFunc g args).run P w = .ok (.enter g args) w) (he : evs fr xs = some vs)
    (hd : Nat.blt d n = true) (hS : ∀ v H', J v H' → ∀ w, HF c.w0 c.D H' w → S w) (hc : ∀ w, HF c.w0 c.D H w → Calls P g vs.toArray w (fun e w' => ∃ v H', e = .returned v ∧ HF c.w0 c.D H' w' ∧ J v H'))
    (hk : ∀ v H', J v H' → GH P c n k ops S rest ((d, v) :: fr) H') :
    GH P c n k ops S (⟨some d, .call ⟨.value (.func g), xs.toArray, tys⟩, ty, pos, aft, none⟩ :: rest) fr H := by
  intro hf a w ha hw
  simp only [wpLH, Region.wanted, if_true, Oper.wp, run_callN ha hg he, Oper.upon]
  refine (hc w hw).mono fun e w' ⟨v, H', he', h1, h2⟩ => ?_
  subst he'
  exact ⟨hS v H' h2 _ h1, hk v H' h2 hf _ _ (ha.put hd v) h1⟩
theorem GH.callL {H1 Hk : SH} {g : FuncId} {xs : List Operand} {vs : List Value} {tys : Array TypeId} {d : Nat} (J : Value → SH → Prop) (hp : H.Perm (H1 ++ Hk)) (ha : ∀ e ∈ H1, e.w = true)
    (hg : ∀ (args : Array Value) w, (callFunc g args).run P w = .ok (.enter g args) w) (he : evs fr xs = some vs) (hd : Nat.blt d n = true) (hS : ∀ v H1', J v H1' → ∀ w, HF c.w0 c.D (H1' ++ Hk) w → S w)
    (hc : ∀ w, HF w (fun b => ∃ e ∈ H1, e.b = b) H1 w → (∀ e ∈ Hk, w.heap[e.b]? = some e.k.den ∧ ¬ ∃ x ∈ H1, x.b = e.b) →
      Calls P g vs.toArray w (fun e w' => ∃ v H1', e = .returned v ∧ (∀ x ∈ H1', x.w = true) ∧ HF w (fun b => ∃ e ∈ H1, e.b = b) H1' w' ∧ J v H1'))
    (hk : ∀ v H1', J v H1' → GH P c n k ops S rest ((d, v) :: fr) (H1' ++ Hk)) :
    GH P c n k ops S (⟨some d, .call ⟨.value (.func g), xs.toArray, tys⟩, ty, pos, aft, none⟩ :: rest) fr H := by
  refine GH.callW (fun v H' => ∃ H1', J v H1' ∧ H' = H1' ++ Hk) hg he hd (fun v H' ⟨H1', h1, h2⟩ => h2 ▸ hS v H1' h1) (fun w hw => ?_) (fun v H' ⟨H1', h1, h2⟩ => h2 ▸ hk v H1' h1)
  have hh := hw.perm hp
  have hnd := List.pairwise_append.1 hh.nd
  refine (hc w (hh.loc (fun e he => List.mem_append_left _ he) hnd.1) (fun e he => ⟨hh.has e (List.mem_append_right _ he), fun ⟨x, hx, hb⟩ => hnd.2.2 x hx e he hb⟩)).mono fun e w' ⟨v, H1', h1, h2, h3, h4⟩ => ?_
  exact ⟨v, _, h1, hw.back hp ha h2 h3, H1', h4, rfl⟩
end Bw
namespace Bw
open Go
variable {P : Program} {c : Cx} {n : Nat} {k : List Item} {fr : SF} {H : SH} {ops : Array Oper} {ty : TypeId} {pos : String} {aft : Array Edge} {S : World → Prop} {fuel : Nat} {listed : Array Bool}
def GA (P : Program) (c : Cx) (n : Nat) (k : List Item) (ops : Array Oper) (S : World → Prop) (fuel : Nat) (listed : Array Bool) (fr : SF) (H : SH) : Prop :=
  P.funcs[c.f]? = some c.fn → ∀ a w, Fr n fr a → HF c.w0 c.D H w → wpAnyH P .any ops (Qk P c k) S fuel listed a w
/-- operation o is carried out now -/
def GB (P : Program) (c : Cx) (n : Nat) (k : List Item) (ops : Array Oper) (S : World → Prop) (fuel : Nat) (listed : Array Bool) (o : Oper) (fr : SF) (H : SH) : Prop :=
  P.funcs[c.f]? = some c.fn → ∀ a w, Fr n fr a → HF c.w0 c.D H w → if Region.wanted o (yielded ops a.tmps) = true then o.wp P a w (fun a' w' => S w' ∧ wpAnyH P .any ops (Qk P c k) S fuel listed a' w') (Qk P c k) else S w ∧ wpAnyH P .any ops (Qk P c k) S fuel listed (a.put o.dst undef) w
theorem GC.regA {id : Nat} {l : List Oper} (S : World → Prop) (hm : P.follows .mixedOrders = true) (h : GA P c n k l.toArray S l.toArray.size (Array.replicate l.toArray.size false) fr H) : GC P c n (.code (.region id l.toArray true) :: k) fr H :=
  fun hf a _w ha hw => Runs.of_wp hf (wp_region_held (S := S) hm (h hf a _ ha (hw.drew _)))
theorem GA.take {i d : Nat} {op : Op} {v : Value} (hi : ops[i]? = some ⟨some d, op, ty, pos, aft, none⟩) (hB : (Region.noSelect ops && Region.free .any ops listed i && (Region.ready .any ops listed).contains i) = true)
    (hS : ∀ w, HF c.w0 c.D H w → S w) (hv : ∀ a w, Fr n fr a → S w → ∀ dst pos aft g, (execOp a.eval ⟨dst, op, ty, pos, aft, g⟩).run P w = .ok (.value v) w) (hd : Nat.blt d n = true)
    (h : GA P c n k ops S fuel (listed.setIfInBounds i true) ((d, v) :: fr) H) : GA P c n k ops S (fuel + 1) listed fr H := by
  intro hf a w ha hw
  simp only [Bool.and_eq_true] at hB
  exact wpAnyH_take hi hB.1.1 hB.1.2 hB.2 (fun ch a' w' hq => ⟨hq.1, hq.2⟩) (.inl ⟨by simp [Region.wanted], fun w' hS' => hv a w' ha hS' _ _ _ _⟩) (hS w hw) (h hf _ _ (ha.put hd v) hw)
/-- a value that asks nothing of the world -/
theorem GA.p (i : Nat) {d : Nat} {op : Op} {v : Value} (hi : ops[i]? = some ⟨some d, op, ty, pos, aft, none⟩) (hB : (Region.noSelect ops && Region.free .any ops listed i && (Region.ready .any ops listed).contains i) = true)
    (hS : ∀ w, HF c.w0 c.D H w → S w) (hv : ∀ (w0 : World), Val P ⟨c.f, c.fn, c.R, w0, fun _ => False⟩ n op ty fr [] v) (hd : Nat.blt d n = true)
    (h : GA P c n k ops S fuel (listed.setIfInBounds i true) ((d, v) :: fr) H) : GA P c n k ops S (fuel + 1) listed fr H :=
  GA.take hi hB hS (fun a w ha _ dst pos aft g => hv w a w ha (HF.start w _) dst pos aft g) hd h
theorem GA.ld (i : Nat) {d : Nat} {t : TypeId} {x : Operand} {b off : Nat} {v : Value} (hi : ops[i]? = some ⟨some d, .load t x, ty, pos, aft, none⟩) (hB : (Region.noSelect ops && Region.free .any ops listed i && (Region.ready .any ops listed).contains i) = true)
    (hS : ∀ w, HF c.w0 c.D H w → S w) (hA : ∀ w, (isAgg t).run P w = .ok false w) (hx : ev fr x = some (Pt b off)) (hc : ∀ w, S w → w.cell? ⟨b, off, none⟩ = some v) (hd : Nat.blt d n = true)
    (h : GA P c n k ops S fuel (listed.setIfInBounds i true) ((d, v) :: fr) H) : GA P c n k ops S (fuel + 1) listed fr H :=
  GA.take hi hB hS (fun a w ha hS dst pos aft g => by simp [execOp, ha.eval hx, Instr.loadAt, Instr.sureAddr, loadVar, hA, run_load, hc w hS]) hd h
/-- the one that may come up -/
theorem GA.one (i : Nat) {o : Oper} (hi : ops[i]? = some o) (hr : (match Region.ready .any ops listed with | [j] => Nat.beq j i | _ => false) = true) (h : GB P c n k ops S fuel (listed.setIfInBounds i true) o fr H) : GA P c n k ops S (fuel + 1) listed fr H := by
  have hr' : Region.ready .any ops listed = [i] := by
    split at hr
    · rename_i j e; rw [e, Nat.eq_of_beq_eq_true hr]
    · cases hr
  intro hf a w ha hw
  refine wpAnyH_all hr' (by simp) fun j hj => ?_
  rw [List.mem_singleton.1 hj]
  have := h hf a w ha hw
  unfold wpOp
  simp only [hi]
  split
  · rename_i hw'; rw [if_pos hw'] at this; exact .inl this
  · rename_i hw'; rw [if_neg hw'] at this; exact this
/-- one of two -/
theorem GA.two (i i2 : Nat) {o o2 : Oper} (hi : ops[i]? = some o) (hi2 : ops[i2]? = some o2) (hr : (match Region.ready .any ops listed with | [j, j2] => Nat.beq j i && Nat.beq j2 i2 | _ => false) = true)
    (h : GB P c n k ops S fuel (listed.setIfInBounds i true) o fr H) (h2 : GB P c n k ops S fuel (listed.setIfInBounds i2 true) o2 fr H) : GA P c n k ops S (fuel + 1) listed fr H := by
  have hr' : Region.ready .any ops listed = [i, i2] := by
    split at hr
    · rename_i j j2 e
      simp only [Bool.and_eq_true] at hr
      rw [e, Nat.eq_of_beq_eq_true hr.1, Nat.eq_of_beq_eq_true hr.2]
    · cases hr
  intro hf a w ha hw
  refine wpAnyH_all hr' (by simp) fun j hj => ?_
  have key : ∀ (j : Nat) (o : Oper), ops[j]? = some o → GB P c n k ops S fuel (listed.setIfInBounds j true) o fr H → wpOp P ops (Qk P c k) j (fun a' w' => S w' ∧ wpAnyH P .any ops (Qk P c k) S fuel (listed.setIfInBounds j true) a' w') a w := by
    intro j o ho hb
    have := hb hf a w ha hw
    unfold wpOp
    simp only [ho]
    split
    · rename_i hw'; rw [if_pos hw'] at this; exact .inl this
    · rename_i hw'; rw [if_neg hw'] at this; exact this
  rcases List.mem_cons.1 hj with rfl | hj
  · exact key _ _ hi h
  · rw [List.mem_singleton.1 hj]; exact key _ _ hi2 h2
theorem GA.all {rs : List Nat} (hr : Region.ready .any ops listed = rs) (hne : rs.isEmpty = false) (h : ∀ i ∈ rs, ∀ o, ops[i]? = some o → GB P c n k ops S fuel (listed.setIfInBounds i true) o fr H) (hb : ∀ i ∈ rs, (ops[i]?).isSome = true) : GA P c n k ops S (fuel + 1) listed fr H := by
  intro hf a w ha hw
  refine wpAnyH_all hr (fun e => by rw [e] at hne; cases hne) fun i hi => ?_
  obtain ⟨o, ho⟩ := Option.isSome_iff_exists.1 (hb i hi)
  have := h i hi o ho hf a w ha hw
  unfold wpOp
  simp only [ho]
  split
  · rename_i hw'; rw [if_pos hw'] at this; exact .inl this
  · rename_i hw'; rw [if_neg hw'] at this; exact this
theorem GA.done (hr : Region.ready .any ops listed = []) (h : GC P c n k fr H) : GA P c n k ops S fuel listed fr H := fun hf a w ha hw => wpAnyH_done hr (h hf a w ha hw) fuel
theorem GA.weak {fr' : SF} (hs : Sub fr' fr) (h : GA P c n k ops S fuel listed fr' H) : GA P c n k ops S fuel listed fr H := fun hf a w ha hw => h hf a w (ha.sub hs) hw
theorem GA.turn {H' : SH} (hs : ∀ w, HF c.w0 c.D H w → HF c.w0 c.D H' w) (h : GA P c n k ops S fuel listed fr H') : GA P c n k ops S fuel listed fr H := fun hf a w ha hw => h hf a w ha (hs w hw)
/-- an operation that yields a value and turns the world -/
theorem GB.eff {op : Op} {d : Nat} {A : Type} {H' : A → SH} {v : A → Value} (hr : ∀ a w, Fr n fr a → HF c.w0 c.D H w → ∃ x w', (execOp a.eval ⟨some d, op, ty, pos, aft, none⟩).run P w = .ok (.value (v x)) w' ∧ HF c.w0 c.D (H' x) w') (hS : ∀ x w, HF c.w0 c.D (H' x) w → S w)
    (hd : Nat.blt d n = true) (hk : ∀ x, GA P c n k ops S fuel listed ((d, v x) :: fr) (H' x)) : GB P c n k ops S fuel listed ⟨some d, op, ty, pos, aft, none⟩ fr H := by
  intro hf a w ha hw
  obtain ⟨x, w', h1, h2⟩ := hr a w ha hw
  simp only [Region.wanted, if_true, Oper.wp, h1, Oper.upon]
  exact ⟨hS x _ h2, hk x hf _ _ (ha.put hd _) h2⟩
theorem GB.v {op : Op} {v : Value} {d : Nat} (hv : Val P c n op ty fr H v) (hS : ∀ w, HF c.w0 c.D H w → S w) (hd : Nat.blt d n = true) (hk : GA P c n k ops S fuel listed ((d, v) :: fr) H) : GB P c n k ops S fuel listed ⟨some d, op, ty, pos, aft, none⟩ fr H :=
  GB.eff (A := Unit) (H' := fun _ => H) (v := fun _ => v) (fun a w ha hw => ⟨(), w, hv a w ha hw _ _ _ _, hw⟩) (fun _ => hS) hd (fun _ => hk)
/-- .. over a new block -/
theorem GB.new {op : Op} {d : Nat} {kb : Blk} {v : Nat → Value} (hr : ∀ a w, Fr n fr a → HF c.w0 c.D H w → (execOp a.eval ⟨some d, op, ty, pos, aft, none⟩).run P w = .ok (.value (v w.heap.size)) { w with heap := w.heap.push kb.den })
    (hS : ∀ w, HF c.w0 c.D H w → S w) (hd : Nat.blt d n = true) (hk : ∀ b, GA P c n k ops S fuel listed ((d, v b) :: fr) (⟨b, true, kb⟩ :: H)) : GB P c n k ops S fuel listed ⟨some d, op, ty, pos, aft, none⟩ fr H :=
  GB.eff (A := Nat) (H' := fun b => ⟨b, true, kb⟩ :: H) (v := v) (fun a w ha hw => ⟨_, _, hr a w ha hw, hw.push kb⟩) (fun _b w hw => hS w (hw.sub (List.sublist_cons_self _ _))) hd hk
/-- .. with a post of one's own -/
theorem GB.callW {g : FuncId} {xs : List Operand} {vs : List Value} {tys : Array TypeId} {d : Nat} (J : Value → SH → Prop) (hg : ∀ (args : Array Value) w, (callFunc g args).run P w = .ok (.enter g args) w) (he : evs fr xs = some vs) (hd : Nat.blt d n = true)
    (hS : ∀ v H', J v H' → ∀ w, HF c.w0 c.D H' w → S w) (hc : ∀ w, HF c.w0 c.D H w → Calls P g vs.toArray w (fun e w' => ∃ v H', e = .returned v ∧ HF c.w0 c.D H' w' ∧ J v H'))
    (hk : ∀ v H', J v H' → GA P c n k ops S fuel listed ((d, v) :: fr) H') :
    GB P c n k ops S fuel listed ⟨some d, .call ⟨.value (.func g), xs.toArray, tys⟩, ty, pos, aft, none⟩ fr H := by
  intro hf a w ha hw
  simp only [Region.wanted, if_true, Oper.wp, run_callN ha hg he, Oper.upon]
  refine (hc w hw).mono fun e w' ⟨v, H', he', h1, h2⟩ => ?_
  subst he'
  exact ⟨hS v H' h2 _ h1, hk v H' h2 hf _ _ (ha.put hd v) h1⟩
end Bw
namespace Bw
open Go
variable {P : Program} {c : Cx} {n : Nat} {k : List Item} {fr : SF} {H : SH} {ops : Array Oper} {ty : TypeId} {pos : String} {aft : Array Edge} {S : World → Prop} {fuel : Nat} {listed : Array Bool}
theorem app_run {T e sz by_ : Nat} {i : TypeInfo} {z : Value} {x y : Operand} {sv : Value} {n0 : Nat} {xs vs : List Value} {Hs H' : SH} {ad : Addr} {m mc d : Nat}
    (hT : P.underlying T = some (.slice e)) (hi : P.info? e = some i) (hz : i.zero = some z) (hsz : i.size = sz) (hby : i.bytes = by_) (hzs : z.cells.size = sz)
    (hx : ev fr x = some sv) (hy : ev fr y = some (.slice (some ad) m mc)) (hown : Own e sz sv n0 xs Hs) (hperm : H.Perm (Hs ++ H'))
    (hsrc : ∀ w, HF c.w0 c.D H w → ∀ j u, vs[j]? = some u → w.cell? (ad.add j) = some u) (hvl : vs.length = m * sz) (h1 : ∀ u ∈ vs, u.oneCell' = true) (hm : 0 < m) (hbd : (n0 + m) * by_ ≤ 140737488355328) (h63 : n0 + m ≤ 9223372036854775807)
    (a : Act) (w : World) (ha : Fr n fr a) (hw : HF c.w0 c.D H w) :
    ∃ sv' Hs' w', Own e sz sv' (n0 + m) (xs ++ vs) Hs' ∧ (execOp a.eval ⟨some d, .call ⟨.builtin .append, #[x, y], #[T, T]⟩, ty, pos, aft, none⟩).run P w = .ok (.value sv') w' ∧ HF c.w0 c.D (H' ++ Hs') w' := by
  subst hsz
  subst hby
  have hex : ∀ v w', (Builtin.append_ #[T, T] ty #[sv, .slice (some ad) m mc]).run P w = .ok v w' → (execOp a.eval ⟨some d, .call ⟨.builtin .append, #[x, y], #[T, T]⟩, ty, pos, aft, none⟩).run P w = .ok (.value v) w' := by
    intro v w' hr
    simp [execOp, resolve, invoke, builtin, ha.eval hx, ha.eval hy, hr]
  cases hown with
  | nil =>
    have hn0 : 0 + m = m := Nat.zero_add m
    have hr := run_append_nil (P := P) w T ty e i z hT hi hz ad m mc vs hvl (hsrc w hw) hm (by omega) (by rw [hn0] at hbd; omega)
    have hH : HF c.w0 c.D H' w := hw.perm (by simpa using hperm)
    have hp := ((hH.drew (w.drawn + 1)).push (.row (vs ++ (Builtin.zeroCells z.cells (grownCap w m 0 e - m)).toList) e (0, 0)))
    refine ⟨.slice (some ⟨w.heap.size, 0, none⟩) m (grownCap w m 0 e), [⟨w.heap.size, true, .row (vs ++ (Builtin.zeroCells z.cells (grownCap w m 0 e - m)).toList) e (0, 0)⟩], _, ?_, hex _ _ hr, HF.perm ?_ (List.perm_append_singleton _ _).symm⟩
    · rw [hn0, List.nil_append]
      have hle : m ≤ grownCap w m 0 e := by simp [grownCap, Question.cut]
      refine .row hvl ?_ hle
      simp [zeroCells_length, hzs, hvl, ← Nat.add_mul]
      rw [Nat.add_sub_cancel' hle]
    · have e3 : (vs ++ (Builtin.zeroCells z.cells (grownCap w m 0 e - m)).toList).toArray = vs.toArray ++ Builtin.zeroCells z.cells (grownCap w m 0 e - m) := by simp
      simp only [Blk.den, e3] at hp
      exact hp
  | row hn hc hle =>
    rename_i b cap spare
    have hw1 : HF c.w0 c.D (⟨b, true, .row (xs ++ spare) e (0, 0)⟩ :: H') w := hw.perm hperm
    have hb := hw1.has _ (.head _)
    simp only [Blk.den] at hb
    by_cases hroom : n0 + m ≤ cap
    · have hfit : n0 * i.size + vs.length ≤ (xs ++ spare).toArray.size := by
        rw [List.size_toArray, hc, hvl, ← Nat.add_mul]
        exact Nat.mul_le_mul_right _ hroom
      have hr := run_append_room (P := P) w T ty e i hT hi b n0 cap (xs ++ spare).toArray hb ad m mc vs hvl (hsrc w hw) h1 hroom hfit
      have e1 : (xs ++ spare).take (n0 * i.size) = xs := by rw [← hn]; simp
      have e2 : ((xs ++ spare).toArray.toList.take (n0 * i.size) ++ vs ++ (xs ++ spare).toArray.toList.drop (n0 * i.size + vs.length)) = (xs ++ vs) ++ (xs ++ spare).drop (n0 * i.size + vs.length) := by
        simp only [e1]
      rw [e2] at hr
      refine ⟨.slice (some ⟨b, 0, none⟩) (n0 + m) cap, [⟨b, true, .row ((xs ++ vs) ++ (xs ++ spare).drop (n0 * i.size + vs.length)) e (0, 0)⟩], _, ?_, hex _ _ hr, HF.perm (setRow_HF hw1) (List.perm_append_singleton _ _).symm⟩
      refine .row ?_ ?_ hroom
      · simp [hn, hvl, Nat.add_mul]
      · have : (xs ++ spare).length = cap * i.size := hc
        have h3 : n0 * i.size + vs.length ≤ (xs ++ spare).length := by simpa using hfit
        simp only [List.length_append, List.length_drop] at *
        omega
    · have hr := run_append_grow (P := P) w T ty e i z hT hi hz ⟨b, 0, none⟩ n0 cap xs hn (fun j v hj => by
          have := cell_row hw1 (off := j) (v := v) (.head _) (by rw [nth_eq, List.getElem?_append_left (List.getElem?_eq_some_iff.1 hj).1]; exact hj)
          by_cases h0 : j = 0
          · subst h0; simpa [Addr.add] using this
          · simpa [Addr.add, h0] using this) ad m mc vs hvl (hsrc w hw) (by omega) (by omega) (growslice_fits (by omega) hbd)
      have hH : HF c.w0 c.D H' w := hw1.sub (List.sublist_cons_self _ _)
      have hp := ((hH.drew (w.drawn + 1)).push (.row ((xs ++ vs) ++ (Builtin.zeroCells z.cells (grownCap w (n0 + m) cap e - (n0 + m))).toList) e (0, 0)))
      refine ⟨.slice (some ⟨w.heap.size, 0, none⟩) (n0 + m) (grownCap w (n0 + m) cap e), [⟨w.heap.size, true, .row ((xs ++ vs) ++ (Builtin.zeroCells z.cells (grownCap w (n0 + m) cap e - (n0 + m))).toList) e (0, 0)⟩], _, ?_, hex _ _ hr, HF.perm ?_ (List.perm_append_singleton _ _).symm⟩
      · have hle2 : n0 + m ≤ grownCap w (n0 + m) cap e := by simp [grownCap, Question.cut]
        refine .row (by simp [hn, hvl, Nat.add_mul]) ?_ hle2
        simp only [List.length_append, Array.length_toList, zeroCells_length, hzs, hn, hvl]
        rw [← Nat.add_mul, ← Nat.add_mul, Nat.add_sub_cancel' hle2]
      · have e3 : ((xs ++ vs) ++ (Builtin.zeroCells z.cells (grownCap w (n0 + m) cap e - (n0 + m))).toList).toArray = xs.toArray ++ vs.toArray ++ Builtin.zeroCells z.cells (grownCap w (n0 + m) cap e - (n0 + m)) := by simp
        simp only [Blk.den, e3] at hp
        exact hp
theorem GB.app {T e sz by_ : Nat} {i : TypeInfo} {z : Value} {x y : Operand} {sv : Value} {n0 : Nat} {xs vs : List Value} {Hs H' : SH} {ad : Addr} {m mc d : Nat}
    (hT : P.underlying T = some (.slice e)) (hi : P.info? e = some i) (hz : i.zero = some z) (hsz : i.size = sz) (hby : i.bytes = by_) (hzs : z.cells.size = sz)
    (hx : ev fr x = some sv) (hy : ev fr y = some (.slice (some ad) m mc)) (hown : Own e sz sv n0 xs Hs) (hperm : H.Perm (Hs ++ H'))
    (hsrc : ∀ w, HF c.w0 c.D H w → ∀ j u, vs[j]? = some u → w.cell? (ad.add j) = some u) (hvl : vs.length = m * sz) (h1 : ∀ u ∈ vs, u.oneCell' = true) (hm : 0 < m) (hbd : (n0 + m) * by_ ≤ 140737488355328) (h63 : n0 + m ≤ 9223372036854775807)
    (hS : ∀ w, HF c.w0 c.D H' w → S w) (hd : Nat.blt d n = true)
    (hk : ∀ sv' Hs', Own e sz sv' (n0 + m) (xs ++ vs) Hs' → GA P c n k ops S fuel listed ((d, sv') :: fr) (H' ++ Hs')) :
    GB P c n k ops S fuel listed ⟨some d, .call ⟨.builtin .append, #[x, y], #[T, T]⟩, ty, pos, aft, none⟩ fr H := by
  refine GB.eff (A := { p : Value × SH // Own e sz p.1 (n0 + m) (xs ++ vs) p.2 }) (H' := fun p => H' ++ p.1.2) (v := fun p => p.1.1) (fun a w ha hw => ?_) (fun p w hw => hS w (hw.sub (List.sublist_append_left _ _))) hd (fun p => hk _ _ p.2)
  obtain ⟨sv', Hs', w', g1, g2, g3⟩ := app_run (d := d) (ty := ty) (pos := pos) (aft := aft) hT hi hz hsz hby hzs hx hy hown hperm hsrc hvl h1 hm hbd h63 a w ha hw
  exact ⟨⟨(sv', Hs'), g1⟩, w', g2, g3⟩
theorem GB.effN {op : Op} {H' : SH} (hr : ∀ a w, Fr n fr a → HF c.w0 c.D H w → ∃ w', (execOp a.eval ⟨none, op, ty, pos, aft, none⟩).run P w = .ok .skip w' ∧ HF c.w0 c.D H' w') (hS : ∀ w, HF c.w0 c.D H' w → S w)
    (hk : GA P c n k ops S fuel listed fr H') : GB P c n k ops S fuel listed ⟨none, op, ty, pos, aft, none⟩ fr H := by
  intro hf a w ha hw
  obtain ⟨w', h1, h2⟩ := hr a w ha hw
  simp only [Region.wanted, if_true, Oper.wp, h1, Oper.upon]
  exact ⟨hS _ h2, hk hf _ _ ha h2⟩
theorem GB.st {t : TypeId} {x y : Operand} {v : Value} {b off i : Nat} {l : List Value} {T : TypeId} {fz : Nat × Nat} (hs : ∀ w, (Go.sizeOf t).run P w = .ok 1 w) (hx : ev fr x = some (Pt b off)) (hy : ev fr y = some v)
    (h1 : v.oneCell' = true) (hi : At i ⟨b, true, .row l T fz⟩ H) (hc : (nth l off).isSome = true) (hf : (Nat.ble fz.1 off && Nat.blt off fz.2) = false) (hS : ∀ w, HF c.w0 c.D (putE (.row (setL l off v) T fz) i H) w → S w)
    (hk : GA P c n k ops S fuel listed fr (putE (.row (setL l off v) T fz) i H)) : GB P c n k ops S fuel listed ⟨none, .store t x y, ty, pos, aft, none⟩ fr H := by
  refine GB.effN (fun a w ha hw => ⟨w.setCell ⟨b, off, none⟩ v, ?_, hw.setCell hi v⟩) hS hk
  obtain ⟨u, hu⟩ := Option.isSome_iff_exists.1 hc
  have hcell := cell_row hw hi.mem hu
  have hfz := frozen_row hw hi.mem (off := off)
  rw [bool_of_frz hf] at hfz
  have hcs : v.cells = #[v] := by cases v <;> first | rfl | (simp [Value.oneCell'] at h1)
  have hst := run_store P w ⟨b, off, none⟩ v .plain h1
  simp only [hcell, hfz] at hst
  simp [execOp, ha.eval hx, ha.eval hy, Instr.storeAt, Instr.sureAddr, storeVar, hcs, hs, storeCells, Addr.add, hst]
theorem GB.stA {t : TypeId} {x y : Operand} {b i : Nat} {l cs : List Value} {T : TypeId} (hs : ∀ w, (Go.sizeOf t).run P w = .ok cs.length w) (hx : ev fr x = some (Pt b 0)) (hy : ev fr y = some (.agg cs.toArray)) (h1 : ∀ v ∈ cs, v.oneCell' = true)
    (hi : At i ⟨b, true, .row l T (0, 0)⟩ H) (hl : l.length = cs.length) (hS : ∀ w, HF c.w0 c.D (putE (.row cs T (0, 0)) i H) w → S w) (hk : GA P c n k ops S fuel listed fr (putE (.row cs T (0, 0)) i H)) : GB P c n k ops S fuel listed ⟨none, .store t x y, ty, pos, aft, none⟩ fr H := by
  refine GB.effN (fun a w ha hw => ⟨w.setRow b cs.toArray, ?_, hw.setRow hi⟩) hS hk
  have hb := hw.has _ hi.mem
  simp only [Blk.den] at hb
  have hr := run_storeCells_from (P := P) b T cs 0 l.toArray w hb (by simp [hl]) h1
  simp only [List.take_zero, List.nil_append] at hr
  simp [execOp, ha.eval hx, ha.eval hy, Instr.storeAt, Instr.sureAddr, storeVar, hs, Value.cells, hr]
theorem GB.bs {T e d : Nat} {x : Operand} {v : Value} {vs : List Value} (hb : BS P T e v vs) (hx : ev fr x = some v) (hS : ∀ w, HF c.w0 c.D H w → S w) (hd : Nat.blt d n = true)
    (hk : ∀ b, GA P c n k ops S fuel listed ((d, .slice (some ⟨b, 0, none⟩) 1 1) :: fr) (⟨b, true, .row vs e (0, 0)⟩ :: H)) : GB P c n k ops S fuel listed ⟨some d, .buildSlice T 1 #[(0, x)], ty, pos, aft, none⟩ fr H := by
  refine GB.new (kb := .row vs e (0, 0)) (v := fun b => .slice (some ⟨b, 0, none⟩) 1 1) (fun a w ha hw => ?_) hS hd hk
  simp [execOp, ha.eval hx, hb w, Blk.den]
theorem GB.al {t : TypeId} {z : Value} {d : Nat} {l : List Value} (hz : ∀ w, (zeroValue t).run P w = .ok z w) (hl : z.cells.toList = l) (hS : ∀ w, HF c.w0 c.D H w → S w) (hd : Nat.blt d n = true)
    (hk : ∀ b, GA P c n k ops S fuel listed ((d, Pt b 0) :: fr) (⟨b, true, .row l t (0, 0)⟩ :: H)) : GB P c n k ops S fuel listed ⟨some d, .alloc t, ty, pos, aft, none⟩ fr H := by
  refine GB.new (kb := .row l t (0, 0)) (v := fun b => Pt b 0) (fun a w ha hw => ?_) hS hd hk
  subst hl
  simp [execOp, Instr.alloc, hz, newVar, newRow, Blk.den]
end Bw
namespace Bw
open Go
variable {P : Program} {c : Cx} {n : Nat} {k : List Item} {fr : SF} {H : SH} {ops : Array Oper} {ty : TypeId} {pos : String} {aft : Array Edge} {S : World → Prop} {fuel : Nat} {listed : Array Bool}
theorem GB.gd {op : Op} {d : Option Tmp} {j t : Nat} {b : Bool} (hj : (ops[j]?).bind (·.dst) = some t) (hb : look t fr = some (.bool b)) (h : GB P c n k ops S fuel listed ⟨d, op, ty, pos, aft, none⟩ fr H) : GB P c n k ops S fuel listed ⟨d, op, ty, pos, aft, some (j, b)⟩ fr H := by
  intro hf a w ha hw
  have h1 := h hf a w ha hw
  have hy : yielded ops a.tmps j = some b := by simp [yielded, hj, ha.at_ t _ hb]
  have w1 : Region.wanted ⟨d, op, ty, pos, aft, some (j, b)⟩ (yielded ops a.tmps) = true := by simp [Region.wanted, hy]
  have w0 : Region.wanted ⟨d, op, ty, pos, aft, none⟩ (yielded ops a.tmps) = true := rfl
  rw [if_pos w0] at h1
  rw [if_pos w1]
  exact h1
end Bw
namespace Bw
open Go Go.Proofs
theorem GQ.gd {P : Program} {c : Cx} {n : Nat} {k : List Item} {fr : SF} {H : SH} {ops : Array Oper} {rest : List Oper} {op : Op} {ty : TypeId} {d : Option Tmp} {j t : Nat} {b : Bool} {pos : String} {aft : Array Edge} (hj : (ops[j]?).bind (·.dst) = some t) (hb : look t fr = some (.bool b))
    (h : GQ P c n k ops (⟨d, op, ty, pos, aft, none⟩ :: rest) fr H) : GQ P c n k ops (⟨d, op, ty, pos, aft, some (j, b)⟩ :: rest) fr H := by
  intro hf a ha
  have h1 := h hf a ha
  have hy : yielded ops a.tmps j = some b := by simp [yielded, hj, ha.at_ t _ hb]
  have w1 : Region.wanted ⟨d, op, ty, pos, aft, some (j, b)⟩ (yielded ops a.tmps) = true := by simp [Region.wanted, hy]
  have w0 : Region.wanted ⟨d, op, ty, pos, aft, none⟩ (yielded ops a.tmps) = true := rfl
  unfold wpQuiet at h1 ⊢
  rw [if_pos w0] at h1
  rw [if_pos w1]
  exact h1
theorem GQ.sgU {P : Program} {c : Cx} {n : Nat} {k : List Item} {fr : SF} {H : SH} {ops : Array Oper} {rest : List Oper} {o : Oper} {j t d : Nat} {want : Bool} (hg : o.guard = some (j, want)) (hdst : o.dst = some d) (hj : (ops[j]?).bind (·.dst) = some t) (hb : look t fr = some undef) (hd : Nat.blt d n = true)
    (hk : GQ P c n k ops rest ((d, undef) :: fr) H) : GQ P c n k ops (o :: rest) fr H := by
  intro hf a ha
  refine wpQuiet_step fun K hK => ?_
  have hy : yielded ops a.tmps j = none := by simp [yielded, hj, ha.at_ t _ hb, undef]
  have hwn : Region.wanted o (yielded ops a.tmps) = false := by simp [Region.wanted, hg, hy]
  simp only [hwn, hdst]
  exact hK _ (hk hf _ (ha.put hd undef))
theorem V.slTH {P : Program} {c : Cx} {n : Nat} {fr : SF} {H : SH} {ty t e : TypeId} {x y : Operand} {ad : Option Addr} {len cp i s : Nat} {kd : IntKind} (hU : P.underlying t = some (.slice e)) (hs : ∀ w, (Go.sizeOf e).run P w = .ok s w) (hx : ev fr x = some (.slice ad len cp)) (hy : ev fr y = some (.int kd (i : Int))) (hi : i ≤ cp) :
    Val P c n (.slice t x none (some y) none) ty fr H (.slice ad i cp) := by
  intro a w ha hw dst pos aft g
  simp [execOp, ha.eval hx, ha.eval hy, Instr.sliceAt, Instr.slice, underlying, hU, Instr.sliceBounds, Instr.sliceBound, asIntOf, hi, hs]
  intro _; cases ad <;> simp [Addr.add]
end Bw
namespace Bw
open Go
variable {P : Program} {c : Cx} {n : Nat} {k : List Item} {fr : SF} {H : SH} {ops : Array Oper} {rest : List Oper} {ty t : TypeId} {pos : String} {aft : Array Edge} {S0 : World → Prop} {fuel : Nat} {listed : Array Bool}
theorem GA.three (i i2 i3 : Nat) {o o2 o3 : Oper} (hi : ops[i]? = some o) (hi2 : ops[i2]? = some o2) (hi3 : ops[i3]? = some o3) (hr : (match Region.ready .any ops listed with | [j, j2, j3] => Nat.beq j i && Nat.beq j2 i2 && Nat.beq j3 i3 | _ => false) = true)
    (h : GB P c n k ops S0 fuel (listed.setIfInBounds i true) o fr H) (h2 : GB P c n k ops S0 fuel (listed.setIfInBounds i2 true) o2 fr H) (h3 : GB P c n k ops S0 fuel (listed.setIfInBounds i3 true) o3 fr H) : GA P c n k ops S0 (fuel + 1) listed fr H := by
  have hr' : Region.ready .any ops listed = [i, i2, i3] := by
    split at hr
    · rename_i j j2 j3 e
      simp only [Bool.and_eq_true] at hr
      rw [e, Nat.eq_of_beq_eq_true hr.1.1, Nat.eq_of_beq_eq_true hr.1.2, Nat.eq_of_beq_eq_true hr.2]
    · cases hr
  refine GA.all hr' rfl (fun j hj o' ho => ?_) (fun j hj => ?_)
  · simp only [List.mem_cons, List.not_mem_nil, or_false] at hj
    rcases hj with rfl | rfl | rfl
    · rw [hi] at ho; cases ho; exact h
    · rw [hi2] at ho; cases ho; exact h2
    · rw [hi3] at ho; cases ho; exact h3
  · simp only [List.mem_cons, List.not_mem_nil, or_false] at hj
    rcases hj with rfl | rfl | rfl
    · rw [hi]; rfl
    · rw [hi2]; rfl
    · rw [hi3]; rfl
theorem drop_cons {α : Type} {l : List α} {i : Nat} {x : α} (h : l[i]? = some x) : l.drop i = x :: l.drop (i + 1) := by
  obtain ⟨h1, h2⟩ := List.getElem?_eq_some_iff.1 h
  rw [List.drop_eq_getElem_cons h1, h2]
/-- a guarded operation whose guard was passed over itself -/
theorem G.sgU {P : Program} {c : Cx} {n : Nat} {k : List Item} {fr : SF} {H : SH} {ops : Array Oper} {rest : List Oper} {o : Oper} {j t d : Nat} {want : Bool} (hg : o.guard = some (j, want)) (hdst : o.dst = some d) (hj : (ops[j]?).bind (·.dst) = some t) (hb : look t fr = some undef) (hd : Nat.blt d n = true)
    (hk : G P c n k ops rest ((d, undef) :: fr) H) : G P c n k ops (o :: rest) fr H := by
  intro hf a w ha hw
  refine wpList_step fun K hK => ?_
  have hy : yielded ops a.tmps j = none := by simp [yielded, hj, ha.at_ t _ hb, undef]
  have hwn : Region.wanted o (yielded ops a.tmps) = false := by simp [Region.wanted, hg, hy]
  simp only [hwn, hdst]
  exact hK _ _ (hk hf _ _ (ha.put hd undef) hw)
theorem Own.le {e sz n n' cp : Nat} {ad : Option Addr} {xs : List Value} {Hs : SH} (h : Own e sz (.slice ad n cp) n' xs Hs) : n ≤ cp := by
  generalize hv : Value.slice ad n cp = v at h
  cases h with
  | nil => cases hv; exact Nat.le_refl _
  | row _ _ hle => cases hv; exact hle
theorem setL_set : ∀ (l : List Value) (i : Nat) (v : Value), setL l i v = l.set i v
  | [], _, _ => by simp [setL]
  | _ :: _, 0, _ => by simp [setL]
  | a :: l, i + 1, v => by simp [setL, setL_set l i v]
theorem V.neI0 {P : Program} {c : Cx} {n : Nat} {fr : SF} {H : SH} {ty t u : TypeId} {x y : Operand} {k : IntKind} {i : Int} (hx : ev fr x = some (.int k i)) (hy : ev fr y = some (.int k i)) : Val P c n (.binOp .neq t x y u) ty fr H (.bool false) := by
  have h : Val P c n (.binOp .neq t x y u) ty fr H _ := V.neI hx hy
  simpa using h
theorem Own.turn {e sz b n cap : Nat} {xs ys sp : List Value} (h : Own e sz (.slice (some ⟨b, 0, none⟩) n cap) n xs [⟨b, true, .row (xs ++ sp) e (0, 0)⟩]) (hl : ys.length = xs.length) : Own e sz (.slice (some ⟨b, 0, none⟩) n cap) n ys [⟨b, true, .row (ys ++ sp) e (0, 0)⟩] := by
  generalize hH : ([⟨b, true, .row (xs ++ sp) e (0, 0)⟩] : SH) = Hs at h
  cases h with
  | row hn hc hle =>
    simp only [List.cons.injEq, Ent.mk.injEq, Blk.row.injEq, List.append_cancel_left_eq, and_true, true_and] at hH
    subst hH
    exact .row (hl.trans hn) (by rw [List.length_append, hl, ← List.length_append]; exact hc) hle
end Bw

/- Short forms of rules that stand in many places. No program in sight. -/
namespace Bw
open Go
section
variable {P : Program} {c : Cx} {n : Nat} {k : List Item} {fr : SF} {H : SH} {ops : Array Oper} {rest : List Oper} {ty : TypeId} {pos : String} {aft : Array Edge}
theorem G.m1 {x : Operand} {v : Value} {d : Nat} (hk : G P c n k ops rest ((d, v) :: fr) H) (h : ev fr x = some v := by exact rfl) (hd : Nat.blt d n = true := by exact rfl) : G P c n k ops (⟨some d, .move x, ty, pos, aft, none⟩ :: rest) fr H := G.v (V.mv h) hd hk
theorem G.m2 {x : Operand} {v : Value} {d : Nat} (hk : G P c n k ops rest ((d, v) :: fr) H) (h : ev fr x = some v := by exact rfl) (hd : Nat.blt d n = true := by exact rfl) : G P c n k ops (⟨some d, .assign x, ty, pos, aft, none⟩ :: rest) fr H := G.v (V.asg h) hd hk
theorem G.s1 {o : Oper} {j t d : Nat} {b want : Bool} (hk : G P c n k ops rest ((d, undef) :: fr) H) (hg : o.guard = some (j, want) := by exact rfl) (hdst : o.dst = some d := by exact rfl) (hj : (ops[j]?).bind (·.dst) = some t := by exact rfl) (hb : look t fr = some (.bool b) := by exact rfl) (hne : (b == want) = false := by exact rfl) (hd : Nat.blt d n = true := by exact rfl) : G P c n k ops (o :: rest) fr H := G.sg hg hdst hj hb hne hd hk
theorem G.m3 {x y z : Operand} {v : Value} {d : Nat} (hk : G P c n k ops rest ((d, v) :: fr) H) (hx : ev fr x = some (.bool true) := by exact rfl) (h : ev fr y = some v := by exact rfl) (hd : Nat.blt d n = true := by exact rfl) : G P c n k ops (⟨some d, .pick x y z, ty, pos, aft, none⟩ :: rest) fr H := G.v (V.pickT hx h) hd hk
theorem G.m4 {x y z : Operand} {v : Value} {d : Nat} (hk : G P c n k ops rest ((d, v) :: fr) H) (hx : ev fr x = some (.bool false) := by exact rfl) (h : ev fr z = some v := by exact rfl) (hd : Nat.blt d n = true := by exact rfl) : G P c n k ops (⟨some d, .pick x y z, ty, pos, aft, none⟩ :: rest) fr H := G.v (V.pickF hx h) hd hk
theorem G.m5 {x : Operand} {v : Value} {d j t : Nat} {b : Bool} (hk : G P c n k ops rest ((d, v) :: fr) H) (hj : (ops[j]?).bind (·.dst) = some t := by exact rfl) (hb : look t fr = some (.bool b) := by exact rfl) (h : ev fr x = some v := by exact rfl) (hd : Nat.blt d n = true := by exact rfl) : G P c n k ops (⟨some d, .move x, ty, pos, aft, some (j, b)⟩ :: rest) fr H := G.vg hj hb (V.mv h) hd hk
theorem Sub.of {l fr : SF} (h : (l.map fun p => Bw.look p.1 fr) = l.map fun p => some p.2) : Sub l fr := by
  induction l with
  | nil => exact .nil
  | cons p l ih => simp only [List.map_cons, List.cons.injEq] at h; exact .cons h.1 (ih h.2)
end
section
variable {α : Type} {x a b c d e f g h : α} {l : List α}
theorem m2 (m : x ∈ l) : x ∈ a :: b :: l := .tail _ (.tail _ m)
theorem m3 (m : x ∈ l) : x ∈ a :: b :: c :: l := .tail _ (m2 m)
theorem m4 (m : x ∈ l) : x ∈ a :: b :: c :: d :: l := .tail _ (m3 m)
theorem m5 (m : x ∈ l) : x ∈ a :: b :: c :: d :: e :: l := .tail _ (m4 m)
end
end Bw
