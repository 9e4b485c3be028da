/- Lemmas of the walk and plain facts (BwKit .. BwMore). -/
import Derived.Deep.Quiet
import Derived.Tactics
import Derived.Laws.Concat
import Derived.Laws.Slices
import Derived.Laws.Strings
import Derived.Laws.Pointers
import Derived.Laws.Unary
import Derived.Laws.Cells
import Derived.StillTail
import Derived.Laws.AppendOwn
import Derived.Lib.Buffer
import Derived.Lib.OthersKept
import Derived.Lib.UnsafeStr
import Derived.Laws.Tables
/- A kit of our own over the model: sparse frames, symbolic heaps, small-step rules in continuation style. No program in sight. -/
namespace Bw
open Go
/-! ## Sparse frames -/
abbrev SF := List (Nat × Value)
def look (t : Nat) : SF → Option Value
  | [] => none
  | (k, v) :: r => bif Nat.beq k t then some v else look t r
structure Fr (n : Nat) (fr : SF) (a : Act) : Prop where
  size : a.tmps.size = n
  defers : a.defers = []
  at_ : ∀ t v, look t fr = some v → a.tmps[t]? = some v
def ev (fr : SF) : Operand → Option Value
  | .tmp t => look t fr
  | .const v => some v
  | .global g => some (.pointer (some ⟨g, 0, none⟩))
  | .func f => some (.func (.func f) #[] #[])
theorem Fr.eval {n fr a} (h : Fr n fr a) {x : Operand} {v : Value} (hx : ev fr x = some v) : a.eval x = v := by
  cases x with
  | tmp t =>
    have := h.at_ t v hx
    simp [Act.eval, this]
  | const u => simpa [ev, Act.eval] using hx
  | global g => simpa [ev, Act.eval] using hx
  | func f => simpa [ev, Act.eval] using hx
theorem look_cons_ne {t k : Nat} {v : Value} {fr : SF} (h : k ≠ t) : look t ((k, v) :: fr) = look t fr := by
  have : Nat.beq k t = false := by
    cases hb : Nat.beq k t with
    | false => rfl
    | true => exact absurd (Nat.eq_of_beq_eq_true hb) h
  simp [look, this]
theorem look_cons_eq {t : Nat} {v : Value} {fr : SF} : look t ((t, v) :: fr) = some v := by
  simp [look]
theorem Fr.put {n fr a} (h : Fr n fr a) {d : Nat} (hd : Nat.blt d n = true) (v : Value) : Fr n ((d, v) :: fr) (a.put (some d) v) := by
  have hlt : d < n := by simpa [Nat.blt_eq] using hd
  refine ⟨by simp [Act.put, h.size], h.defers, fun t u ht => ?_⟩
  by_cases e : d = t
  · subst e
    rw [look_cons_eq] at ht
    simp only [Act.put]
    rw [Array.getElem?_setIfInBounds_self_of_lt (by rw [h.size]; exact hlt)]
    exact ht
  · rw [look_cons_ne e] at ht
    simp only [Act.put]
    rw [Array.getElem?_setIfInBounds_ne e]
    exact h.at_ t u ht
/-- every entry of the first frame is found in the second one -/
inductive Sub : SF → SF → Prop
  | nil {fr} : Sub [] fr
  | cons {k v r fr} (h : look k fr = some v) (hr : Sub r fr) : Sub ((k, v) :: r) fr
theorem Sub.look {r fr} (h : Sub r fr) : ∀ t v, look t r = some v → Bw.look t fr = some v := by
  induction h with
  | nil => intro t v ht; simp [Bw.look] at ht
  | cons hk hr ih =>
    rename_i k v r fr
    intro t u ht
    by_cases e : k = t
    · subst e; rw [look_cons_eq] at ht; rw [hk]; exact ht
    · rw [look_cons_ne e] at ht; exact ih t u ht
theorem Fr.sub {n fr fr' a} (h : Fr n fr a) (hs : Sub fr' fr) : Fr n fr' a := ⟨h.size, h.defers, fun t v ht => h.at_ t v (hs.look t v ht)⟩
/-! ## Symbolic heaps -/
inductive Blk where
  | row (l : List Value) (t : TypeId) (fz : Nat × Nat)
  | obj (o : Obj)
def Blk.den : Blk → Obj
  | .row l t fz => .cells l.toArray t fz
  | .obj o => o
structure Ent where
  b : Nat
  w : Bool
  k : Blk
abbrev SH := List Ent
structure HF (w0 : World) (D : Nat → Prop) (H : SH) (w : World) : Prop where
  size : w0.heap.size ≤ w.heap.size
  frame : ∀ b, b < w0.heap.size → ¬ D b → w.heap[b]? = w0.heap[b]?
  has : ∀ e ∈ H, w.heap[e.b]? = some e.k.den
  wr : ∀ e ∈ H, e.w = true → D e.b ∨ w0.heap.size ≤ e.b
  nd : H.Pairwise (fun x y => x.b ≠ y.b)
  tape : w.tape = w0.tape
  os : w.os = w0.os
  output : w.output = w0.output
theorem HF.lt {w0 D H w} (h : HF w0 D H w) {e} (he : e ∈ H) : e.b < w.heap.size := by
  have := h.has e he
  exact (Array.getElem?_eq_some_iff.1 this).1
theorem HF.drew {w0 D H w} (h : HF w0 D H w) (n : Nat) : HF w0 D H { w with drawn := n } :=
  ⟨h.size, h.frame, h.has, h.wr, h.nd, h.tape, h.os, h.output⟩
theorem HF.drewN {w0 D H w} (h : HF w0 D H w) (n : Nat) : HF w0 D H (w.drewN n) :=
  ⟨h.size, h.frame, h.has, h.wr, h.nd, h.tape, h.os, h.output⟩
theorem HF.start (w : World) (D : Nat → Prop) : HF w D [] w :=
  ⟨Nat.le_refl _, fun _ _ _ => rfl, fun _ h => (by cases h), fun _ h => (by cases h), List.Pairwise.nil, rfl, rfl, rfl⟩
theorem HF.sub {w0 D H H' w} (h : HF w0 D H w) (hs : H'.Sublist H) : HF w0 D H' w :=
  ⟨h.size, h.frame, fun e he => h.has e (hs.subset he), fun e he => h.wr e (hs.subset he), h.nd.sublist hs, h.tape, h.os, h.output⟩
/-- a block more -/
theorem HF.add {w0 D H w} (h : HF w0 D H w) {b : Nat} {wf : Bool} {k : Blk} (hb : w.heap[b]? = some k.den) (hw : wf = true → D b ∨ w0.heap.size ≤ b) (hn : ∀ e ∈ H, e.b ≠ b) :
    HF w0 D (⟨b, wf, k⟩ :: H) w :=
  ⟨h.size, h.frame, fun e he => by
      rcases List.mem_cons.1 he with rfl | he
      · exact hb
      · exact h.has e he,
    fun e he hw' => by
      rcases List.mem_cons.1 he with rfl | he
      · exact hw hw'
      · exact h.wr e he hw',
    List.pairwise_cons.2 ⟨fun e he => (hn e he).symm, h.nd⟩, h.tape, h.os, h.output⟩
def nth : List Value → Nat → Option Value
  | [], _ => none
  | v :: _, 0 => some v
  | _ :: r, n + 1 => nth r n
theorem nth_eq : ∀ (l : List Value) (n : Nat), nth l n = l[n]?
  | [], n => by simp [nth]
  | v :: r, 0 => by simp [nth]
  | v :: r, n + 1 => by simp [nth, nth_eq r n]
def setL : List Value → Nat → Value → List Value
  | [], _, _ => []
  | _ :: r, 0, v => v :: r
  | u :: r, n + 1, v => u :: setL r n v
theorem setL_eq : ∀ (l : List Value) (n : Nat) (v : Value), setL l n v = l.set n v
  | [], n, v => by simp [setL]
  | u :: r, 0, v => by simp [setL]
  | u :: r, n + 1, v => by simp [setL, setL_eq r n v]
/-- the place of an entry -/
inductive At : Nat → Ent → SH → Prop
  | z {e r} : At 0 e (e :: r)
  | s {i e x r} (h : At i e r) : At (i + 1) e (x :: r)
theorem At.mem {i e H} (h : At i e H) : e ∈ H := by
  induction h with
  | z => exact List.mem_cons_self
  | s _ ih => exact List.mem_cons_of_mem _ ih
def putE (k : Blk) : Nat → SH → SH
  | _, [] => []
  | 0, e :: r => ⟨e.b, e.w, k⟩ :: r
  | i + 1, e :: r => e :: putE k i r
theorem mem_putE {k : Blk} {i : Nat} {e : Ent} {H : SH} (h : At i e H) : ∀ x ∈ putE k i H, x = ⟨e.b, e.w, k⟩ ∨ (x ∈ H ∧ (H.Pairwise (fun x y => x.b ≠ y.b) → x.b ≠ e.b)) := by
  induction h with
  | z =>
    rename_i e r
    intro x hx
    rcases List.mem_cons.1 hx with rfl | hx
    · exact .inl rfl
    · exact .inr ⟨List.mem_cons_of_mem _ hx, fun hp => ((List.pairwise_cons.1 hp).1 x hx).symm⟩
  | s hh ih =>
    rename_i i e y r
    intro x hx
    rcases List.mem_cons.1 hx with rfl | hx
    · exact .inr ⟨List.mem_cons_self, fun hp => (List.pairwise_cons.1 hp).1 e hh.mem⟩
    · rcases ih x hx with h | ⟨h1, h2⟩
      · exact .inl h
      · exact .inr ⟨List.mem_cons_of_mem _ h1, fun hp => h2 (List.pairwise_cons.1 hp).2⟩
theorem map_b_putE (k : Blk) : ∀ (i : Nat) (H : SH), (putE k i H).map Ent.b = H.map Ent.b
  | _, [] => by simp [putE]
  | 0, e :: r => by simp [putE]
  | i + 1, e :: r => by simp [putE, map_b_putE k i r]
theorem nd_iff (H : SH) : H.Pairwise (fun x y => x.b ≠ y.b) ↔ (H.map Ent.b).Pairwise (· ≠ ·) := by
  rw [List.pairwise_map]
/-- one block turned -/
theorem HF.upd {w0 D H w} (h : HF w0 D H w) {i : Nat} {e : Ent} (hi : At i e H) (hw : e.w = true) {w' : World} (k : Blk)
    (hsz : w'.heap.size = w.heap.size) (hb : w'.heap[e.b]? = some k.den) (ho : ∀ b, b ≠ e.b → w'.heap[b]? = w.heap[b]?)
    (ht : w'.tape = w.tape) (hos : w'.os = w.os) (hout : w'.output = w.output) : HF w0 D (putE k i H) w' := by
  refine ⟨by rw [hsz]; exact h.size, fun b hlt hD => ?_, fun x hx => ?_, fun x hx hxw => ?_, ?_, ht.trans h.tape, hos.trans h.os, hout.trans h.output⟩
  · have hne : b ≠ e.b := fun he => by
      rcases h.wr e hi.mem hw with h1 | h1
      · exact hD (he ▸ h1)
      · omega
    rw [ho b hne]; exact h.frame b hlt hD
  · rcases mem_putE hi x hx with rfl | ⟨h1, h2⟩
    · exact hb
    · rw [ho _ (h2 h.nd)]; exact h.has x h1
  · rcases mem_putE hi x hx with rfl | ⟨h1, _⟩
    · exact h.wr e hi.mem hw
    · exact h.wr x h1 hxw
  · rw [nd_iff, map_b_putE, ← nd_iff]; exact h.nd
theorem heap_setCell_ne (w : World) (a : Addr) (v : Value) (b : Nat) (h : b ≠ a.block) : (w.setCell a v).heap[b]? = w.heap[b]? := by
  simp only [World.setCell]
  rw [Array.getElem?_modify, if_neg (fun e => h e.symm)]
theorem heap_setCell_eq (w : World) (b off : Nat) (v : Value) {l : List Value} {t : TypeId} {fz : Nat × Nat} (h : w.heap[b]? = some (Blk.den (.row l t fz))) :
    (w.setCell ⟨b, off, none⟩ v).heap[b]? = some (Blk.den (.row (setL l off v) t fz)) := by
  simp only [World.setCell]
  rw [Array.getElem?_modify, if_pos rfl, h]
  simp [Blk.den, setL_eq]
theorem size_setCell (w : World) (a : Addr) (v : Value) : (w.setCell a v).heap.size = w.heap.size := by
  simp [World.setCell]
theorem HF.setCell {w0 D H w} (h : HF w0 D H w) {i b off : Nat} {l : List Value} {t : TypeId} {fz : Nat × Nat} (hi : At i ⟨b, true, .row l t fz⟩ H) (v : Value) :
    HF w0 D (putE (.row (setL l off v) t fz) i H) (w.setCell ⟨b, off, none⟩ v) :=
  h.upd hi rfl _ (size_setCell _ _ _) (heap_setCell_eq w b off v (h.has _ hi.mem)) (fun _ hc => heap_setCell_ne _ _ _ _ hc) rfl rfl rfl
/-- a new block -/
theorem HF.push {w0 D H w} (h : HF w0 D H w) (k : Blk) : HF w0 D (⟨w.heap.size, true, k⟩ :: H) { w with heap := w.heap.push k.den } := by
  refine ⟨by simp; have := h.size; omega, fun b hlt hD => ?_, fun e he => ?_, fun e he hw => ?_, ?_, h.tape, h.os, h.output⟩
  · have := h.size
    rw [← h.frame b hlt hD]
    simp only [Array.getElem?_push]
    rw [if_neg (by omega)]
  · rcases List.mem_cons.1 he with rfl | he
    · simp
    · have := h.lt he
      rw [← h.has e he]
      simp only [Array.getElem?_push]
      rw [if_neg (by omega)]
  · rcases List.mem_cons.1 he with rfl | he
    · exact .inr h.size
    · exact h.wr e he hw
  · exact List.pairwise_cons.2 ⟨fun e he => by have := h.lt he; simp only [ne_eq]; omega, h.nd⟩
/-! ## The logic -/
structure Cx where
  f : FuncId
  fn : Func
  R : Ending → World → Prop
  w0 : World
  D : Nat → Prop
def Runs (P : Program) (c : Cx) (k : List Item) (a : Act) (w : World) : Prop :=
  ∀ (b : Frame), b.fn = c.f → b.kind = .normal → ∀ cs, ∃ e w' fr, c.R e w' ∧ Comes P (lone (b.at a k) cs w) (lone fr cs w') e ∧ fr.fn = c.f ∧ fr.leaving P w' e
def GC (P : Program) (c : Cx) (n : Nat) (k : List Item) (fr : SF) (H : SH) : Prop :=
  P.funcs[c.f]? = some c.fn → ∀ a w, Fr n fr a → HF c.w0 c.D H w → Runs P c k a w
def Qk (P : Program) (c : Cx) (k : List Item) : Exit → Act → World → Prop
  | .normal, a, w => Runs P c k a w
  | .panic chain, a, w => a.defers = [] ∧ c.R (.panicked chain) w
  | _, _, _ => False
def G (P : Program) (c : Cx) (n : Nat) (k : List Item) (ops : Array Oper) (l : List Oper) (fr : SF) (H : SH) : Prop :=
  P.funcs[c.f]? = some c.fn → ∀ a w, Fr n fr a → HF c.w0 c.D H w → wpList P ops (Qk P c k) l a w
variable {P : Program} {c : Cx} {n : Nat} {k : List Item} {fr : SF} {H : SH} {ops : Array Oper} {rest : List Oper}
theorem Runs.step {k k' : List Item} {a : Act} {w : World} (hs : ∀ (b : Frame) cs, b.fn = c.f → b.kind = .normal → step P (lone (b.at a k) cs w) = .next (lone (b.at a k') cs w)) (h : Runs P c k' a w) : Runs P c k a w := by
  intro b hb hk cs
  obtain ⟨e, w', fr, h1, h2, h3⟩ := h b hb hk cs
  exact ⟨e, w', fr, h1, Comes.of_steps (.one (hs b cs hb hk)) h2, h3⟩
theorem Runs.of_wp {code : Code} {a : Act} {w : World} (hf : P.funcs[c.f]? = some c.fn) (h : code.wp P (Qk P c k) a w) : Runs P c (.code code :: k) a w := by
  intro b hb hk cs
  obtain ⟨e, a', w', hq, harr⟩ := h b k cs
  cases e with
  | normal =>
    obtain ⟨e2, w2, fr, h1, h2, h3⟩ := hq b hb hk cs
    exact ⟨e2, w2, fr, h1, Comes.of_steps harr h2, h3⟩
  | panic chain =>
    obtain ⟨hd, hR⟩ := hq
    obtain ⟨todo, hs⟩ := harr
    exact ⟨.panicked chain, w', _, hR, hs, hb, rfl, hd, c.fn, by simpa [Frame.at, hb] using hf⟩
  | exit id => exact hq.elim
  | goto l => exact hq.elim
  | ret => exact hq.elim
  | outgrown => exact hq.elim
theorem GC.seq {x y : Code} (h : GC P c n (.code x :: .code y :: k) fr H) : GC P c n (.code (.seq x y) :: k) fr H :=
  fun hf a w ha hw => (h hf a w ha hw).step fun _ _ _ _ => step_seq
theorem GC.skip (h : GC P c n k fr H) : GC P c n (.code .skip :: k) fr H :=
  fun hf a w ha hw => (h hf a w ha hw).step fun _ _ _ _ => step_skip
theorem GC.label {l : Nat} (h : GC P c n k fr H) : GC P c n (.code (.label l) :: k) fr H :=
  fun hf a w ha hw => (h hf a w ha hw).step fun _ _ _ _ => step_label
theorem GC.block {id : Nat} {x : Code} (h : GC P c n (.code x :: .inBlock id :: k) fr H) : GC P c n (.code (.block id x) :: k) fr H :=
  fun hf a w ha hw => (h hf a w ha hw).step fun _ _ _ _ => step_block
theorem GC.inBlock {id : Nat} (h : GC P c n k fr H) : GC P c n (.inBlock id :: k) fr H :=
  fun hf a w ha hw => (h hf a w ha hw).step fun _ _ _ _ => step_inBlock
theorem GC.loop {x : Code} (h : GC P c n (.code x :: .inLoop x :: k) fr H) : GC P c n (.code (.loop x) :: k) fr H :=
  fun hf a w ha hw => (h hf a w ha hw).step fun _ _ _ _ => step_loop
theorem GC.inLoop {x : Code} (h : GC P c n (.code x :: .inLoop x :: k) fr H) : GC P c n (.inLoop x :: k) fr H :=
  fun hf a w ha hw => (h hf a w ha hw).step fun _ _ _ _ => step_inLoop
theorem GC.scope {x : Code} (h : GC P c n (.code x :: .inScope x :: k) fr H) : GC P c n (.code (.scope x) :: k) fr H :=
  fun hf a w ha hw => (h hf a w ha hw).step fun b cs _ _ => step_lone_go (by simp [stepG, stepG.exec, Frame.at])
theorem GC.inScope {x : Code} (h : GC P c n k fr H) : GC P c n (.inScope x :: k) fr H :=
  fun hf a w ha hw => (h hf a w ha hw).step fun b cs _ _ => step_lone_go (by simp [stepG, stepG.exec, Frame.at])
theorem GC.exit {id : Nat} {k' : List Item} (he : exitTo id k = some k') (h : GC P c n k' fr H) : GC P c n (.code (.exit id) :: k) fr H :=
  fun hf a w ha hw => (h hf a w ha hw).step fun _ _ _ _ => step_exit he
theorem GC.goto {l : Nat} {k' : List Item} (he : gotoIn l k = some k') (h : GC P c n k' fr H) : GC P c n (.code (.goto l) :: k) fr H :=
  fun hf a w ha hw => (h hf a w ha hw).step fun _ _ _ _ => step_goto he
theorem GC.cond {x : Operand} {p q : Code} {b : Bool} (hx : ev fr x = some (.bool b)) (ht : b = true → GC P c n (.code p :: k) fr H) (hf : b = false → GC P c n (.code q :: k) fr H) :
    GC P c n (.code (.cond x p q) :: k) fr H := by
  intro hF a w ha hw
  cases b
  · exact (hf rfl hF a w ha hw).step fun _ _ _ _ => step_cond (ha.eval hx)
  · exact (ht rfl hF a w ha hw).step fun _ _ _ _ => step_cond (ha.eval hx)
theorem GC.condT {x : Operand} {p q : Code} (hx : ev fr x = some (.bool true)) (h : GC P c n (.code p :: k) fr H) : GC P c n (.code (.cond x p q) :: k) fr H :=
  GC.cond hx (fun _ => h) (fun e => by cases e)
theorem GC.condF {x : Operand} {p q : Code} (hx : ev fr x = some (.bool false)) (h : GC P c n (.code q :: k) fr H) : GC P c n (.code (.cond x p q) :: k) fr H :=
  GC.cond hx (fun e => by cases e) (fun _ => h)
theorem GC.condD {x : Operand} {p q : Code} {p0 : Prop} {inst : Decidable p0} (hx : ev fr x = some (.bool (@decide p0 inst))) (ht : p0 → GC P c n (.code p :: k) fr H) (hf : ¬ p0 → GC P c n (.code q :: k) fr H) :
    GC P c n (.code (.cond x p q) :: k) fr H :=
  GC.cond hx (fun e => ht (of_decide_eq_true e)) (fun e => hf (of_decide_eq_false e))
theorem GC.weak {fr' : SF} (hs : Sub fr' fr) (h : GC P c n k fr' H) : GC P c n k fr H :=
  fun hf a w ha hw => h hf a w (ha.sub hs) hw
/-- any turn of what is known of the heap -/
theorem GC.turn {H' : SH} (hs : ∀ w, HF c.w0 c.D H w → HF c.w0 c.D H' w) (h : GC P c n k fr H') : GC P c n k fr H :=
  fun hf a w ha hw => h hf a w ha (hs w hw)
theorem GC.fact {p : Prop} (hs : ∀ w, HF c.w0 c.D H w → p) (h : p → GC P c n k fr H) : GC P c n k fr H :=
  fun hf a w ha hw => h (hs w hw) hf a w ha hw
/-- the end: one result -/
theorem GC.ret1 {t : Nat} {v : Value} (hr : c.fn.results = #[.tmp t]) (hv : look t fr = some v) (hR : ∀ w, HF c.w0 c.D H w → c.R (.returned v) w) : GC P c n (.code .ret :: k) fr H := by
  intro hf a w ha hw b hb hk cs
  refine ⟨.returned v, w, _, hR w hw, .one step_ret, hb, rfl, ha.defers, hk, c.fn, by simpa [Frame.at, hb] using hf, ?_⟩
  have := ha.at_ t v hv
  simp [results, hr, Frame.at, this]
theorem GC.ret2 {t u : Nat} {v x : Value} (hr : c.fn.results = #[.tmp t, .tmp u]) (hv : look t fr = some v) (hx : look u fr = some x) (hR : ∀ w, HF c.w0 c.D H w → c.R (.returned (.tuple #[v, x])) w) : GC P c n (.code .ret :: k) fr H := by
  intro hf a w ha hw b hb hk cs
  refine ⟨.returned _, w, _, hR w hw, .one step_ret, hb, rfl, ha.defers, hk, c.fn, by simpa [Frame.at, hb] using hf, ?_⟩
  have h1 := ha.at_ t v hv
  have h2 := ha.at_ u x hx
  simp [results, hr, Frame.at, h1, h2]
/-- the end: results by a run -/
theorem GC.retR {v : Value} (hr : ∀ a w, Fr n fr a → HF c.w0 c.D H w → (results c.fn a.tmps).run P w = .ok v w) (hR : ∀ w, HF c.w0 c.D H w → c.R (.returned v) w) : GC P c n (.code .ret :: k) fr H := by
  intro hf a w ha hw b hb hk cs
  exact ⟨.returned v, w, _, hR w hw, .one step_ret, hb, rfl, ha.defers, hk, c.fn, by simpa [Frame.at, hb] using hf, hr a w ha hw⟩
theorem GC.ret0 (hr : c.fn.results = #[]) (hR : ∀ w, HF c.w0 c.D H w → c.R (.returned (.tuple #[])) w) : GC P c n (.code .ret :: k) fr H :=
  GC.retR (fun a w _ _ => by simp [results, hr]) hR
theorem GC.end0 (hr : c.fn.results = #[]) (hR : ∀ w, HF c.w0 c.D H w → c.R (.returned (.tuple #[])) w) : GC P c n [] fr H := by
  intro hf a w ha hw b hb hk cs
  refine ⟨.returned _, w, _, hR w hw, .one step_end, hb, rfl, ha.defers, hk, c.fn, by simpa [Frame.at, hb] using hf, ?_⟩
  simp [results, hr]
theorem GC.reg {id : Nat} {l : List Oper} (h : G P c n k l.toArray l fr H) : GC P c n (.code (.region id l.toArray false) :: k) fr H :=
  fun hf a w ha hw => Runs.of_wp hf (wp_region_lit (h hf a w ha hw))
theorem G.nil (h : GC P c n k fr H) : G P c n k ops [] fr H := fun hf a w ha hw => h hf a w ha hw
/-- an operation that yields a value in the very world that it gets -/
def Val (P : Program) (c : Cx) (n : Nat) (op : Op) (ty : TypeId) (fr : SF) (H : SH) (v : Value) : Prop :=
  ∀ a w, Fr n fr a → HF c.w0 c.D H w → ∀ dst pos aft g, (execOp a.eval ⟨dst, op, ty, pos, aft, g⟩).run P w = .ok (.value v) w
theorem G.v {op : Op} {ty : TypeId} {v : Value} {d : Nat} {pos : String} {aft : Array Edge} (hv : Val P c n op ty fr H v) (hd : Nat.blt d n = true) (hk : G P c n k ops rest ((d, v) :: fr) H) :
    G P c n k ops (⟨some d, op, ty, pos, aft, none⟩ :: rest) fr H := by
  intro hf a w ha hw
  refine wpList_step fun K hK => ?_
  simp only [Region.wanted, if_true, Oper.wp, hv a w ha hw, Oper.upon]
  exact hK _ _ (hk hf _ _ (ha.put hd v) hw)
theorem G.v0 {op : Op} {ty : TypeId} {v : Value} {pos : String} {aft : Array Edge} (hv : Val P c n op ty fr H v) (hk : G P c n k ops rest fr H) :
    G P c n k ops (⟨none, op, ty, pos, aft, none⟩ :: rest) fr H := by
  intro hf a w ha hw
  refine wpList_step fun K hK => ?_
  simp only [Region.wanted, if_true, Oper.wp, hv a w ha hw, Oper.upon]
  exact hK _ _ (hk hf _ _ ha hw)
/-- a guarded operation that is wanted -/
theorem G.vg {op : Op} {ty : TypeId} {v : Value} {d j t : Nat} {b : Bool} {pos : String} {aft : Array Edge} (hj : (ops[j]?).bind (·.dst) = some t) (hb : look t fr = some (.bool b))
    (hv : Val P c n op ty fr H v) (hd : Nat.blt d n = true) (hk : G P c n k ops rest ((d, v) :: fr) H) :
    G P c n k ops (⟨some d, op, ty, pos, aft, some (j, b)⟩ :: rest) fr H := by
  intro hf a w ha hw
  refine wpList_step fun K hK => ?_
  have hy : yielded ops a.tmps j = some b := by simp [yielded, hj, ha.at_ t _ hb]
  have hwn : Region.wanted ⟨some d, op, ty, pos, aft, some (j, b)⟩ (yielded ops a.tmps) = true := by simp [Region.wanted, hy]
  simp only [hwn, if_true, Oper.wp, hv a w ha hw, Oper.upon]
  exact hK _ _ (hk hf _ _ (ha.put hd v) hw)
/-- a guarded operation that is passed over -/
theorem G.sg {o : Oper} {j t d : Nat} {b want : Bool} (hg : o.guard = some (j, want)) (hdst : o.dst = some d) (hj : (ops[j]?).bind (·.dst) = some t) (hb : look t fr = some (.bool b)) (hne : (b == want) = false) (hd : Nat.blt d n = true)
    (hk : G P c n k ops rest ((d, undef) :: fr) H) : G P c n k ops (o :: rest) fr H := by
  intro hf a w ha hw
  refine wpList_step fun K hK => ?_
  have hy : yielded ops a.tmps j = some b := by simp [yielded, hj, ha.at_ t _ hb]
  have hwn : Region.wanted o (yielded ops a.tmps) = false := by
    simp only [Region.wanted, hg, hy]
    cases b <;> cases want <;> simp_all
  simp only [hwn, hdst]
  exact hK _ _ (hk hf _ _ (ha.put hd undef) hw)
/-- a bool in a slot, parted -/
theorem G.bc {l : List Oper} (t : Nat) {b : Bool} (hb : look t fr = some (.bool b)) (ht : b = true → G P c n k ops l ((t, .bool true) :: fr) H) (hf : b = false → G P c n k ops l ((t, .bool false) :: fr) H) :
    G P c n k ops l fr H := by
  intro hF a w ha hw
  have hs : ∀ x, b = x → Fr n ((t, .bool x) :: fr) a := fun x hx => ⟨ha.size, ha.defers, fun s u hs => by
    by_cases e : t = s
    · subst e; rw [look_cons_eq] at hs; rw [ha.at_ t _ hb, hx]; exact hs
    · rw [look_cons_ne e] at hs; exact ha.at_ s u hs⟩
  cases b
  · exact hf rfl hF a w (hs _ rfl) hw
  · exact ht rfl hF a w (hs _ rfl) hw
theorem G.weak {fr' : SF} {l : List Oper} (hs : Sub fr' fr) (h : G P c n k ops l fr' H) : G P c n k ops l fr H :=
  fun hf a w ha hw => h hf a w (ha.sub hs) hw
theorem G.turn {H' : SH} {l : List Oper} (hs : ∀ w, HF c.w0 c.D H w → HF c.w0 c.D H' w) (h : G P c n k ops l fr H') : G P c n k ops l fr H :=
  fun hf a w ha hw => h hf a w ha (hs w hw)
theorem G.fact {p : Prop} {l : List Oper} (hs : ∀ w, HF c.w0 c.D H w → p) (h : p → G P c n k ops l fr H) : G P c n k ops l fr H :=
  fun hf a w ha hw => h (hs w hw) hf a w ha hw
end Bw

/- The kit's rules for single operations. No program in sight. -/
namespace Bw
open Go
variable {P : Program} {c : Cx} {n : Nat} {k : List Item} {fr : SF} {H : SH} {ops : Array Oper} {rest : List Oper} {ty : TypeId}
/-- a text as a value -/
abbrev S (l : List UInt8) : Value := .string ⟨l.toArray⟩
abbrev I (i : Int) : Value := .int .i64 i
abbrev Pt (b off : Nat) : Value := .pointer (some ⟨b, off, none⟩)
theorem S_of (s : ByteArray) : Value.string s = S s.data.toList := by cases s; simp [S]
theorem V.of_run {op : Op} {v : Value} (h : ∀ a w, Fr n fr a → HF c.w0 c.D H w → ∀ dst pos aft g, (execOp a.eval ⟨dst, op, ty, pos, aft, g⟩).run P w = .ok (.value v) w) : Val P c n op ty fr H v := h
theorem V.mv {x : Operand} {v : Value} (h : ev fr x = some v) : Val P c n (.move x) ty fr H v := by
  intro a w ha hw dst pos aft g
  simp [execOp, ha.eval h]
theorem V.asg {x : Operand} {v : Value} (h : ev fr x = some v) : Val P c n (.assign x) ty fr H v := by
  intro a w ha hw dst pos aft g
  simp [execOp, ha.eval h]
theorem V.pickT {x y z : Operand} {v : Value} (hx : ev fr x = some (.bool true)) (h : ev fr y = some v) : Val P c n (.pick x y z) ty fr H v := by
  intro a w ha hw dst pos aft g
  simp [execOp, ha.eval hx, ha.eval h, asBool]
theorem V.pickF {x y z : Operand} {v : Value} (hx : ev fr x = some (.bool false)) (h : ev fr z = some v) : Val P c n (.pick x y z) ty fr H v := by
  intro a w ha hw dst pos aft g
  simp [execOp, ha.eval hx, ha.eval h, asBool]
theorem V.nc {x : Operand} {b off : Nat} (h : ev fr x = some (Pt b off)) : Val P c n (.nilCheck x) ty fr H (Pt b off) := by
  intro a w ha hw dst pos aft g
  simp [execOp, ha.eval h]
def fAt : List Field → Nat → Option Field
  | [], _ => none
  | f :: _, 0 => some f
  | _ :: r, i + 1 => fAt r i
theorem fAt_eq : ∀ (l : List Field) (i : Nat), fAt l i = l[i]?
  | [], i => by simp [fAt]
  | f :: r, 0 => by simp [fAt]
  | f :: r, i + 1 => by simp [fAt, fAt_eq r i]
/-- a field's place, a fact of a dump -/
def FF (P : Program) (t i o : Nat) : Prop := ∀ b off w, (Instr.fieldAt t (Pt b off) i).run P w = .ok (Pt b (off + o)) w
theorem FF.mk {t i o : Nat} {fs : List Field} {nm tg pk : String} {ft bo s : Nat} {em : Bool} (hU : P.underlying t = some (.struct fs.toArray)) (hi : fAt fs i = some ⟨nm, ft, o, em, tg, pk, bo⟩)
    (hs : ∀ w, (Go.sizeOf ft).run P w = .ok (s + 1) w) : FF P t i o := by
  intro b off w
  have h1 : fs[i]? = some ⟨nm, ft, o, em, tg, pk, bo⟩ := by rw [← fAt_eq]; exact hi
  by_cases ho : o = 0
  · subst ho
    simp [Instr.fieldAt, underlying, hU, h1, Instr.sureAddr, fieldPlace, Addr.add, hs]
  · simp [Instr.fieldAt, underlying, hU, h1, Instr.sureAddr, fieldPlace, Addr.add, hs, ho]
/-- &x.f -/
theorem V.fa {t : TypeId} {x : Operand} {i o : Nat} {b off : Nat} (hF : FF P t i o) (h : ev fr x = some (Pt b off)) : Val P c n (.fieldAddr t x i) ty fr H (Pt b (off + o)) := by
  intro a w ha hw dst pos aft g
  simp [execOp, ha.eval h, hF b off w]
theorem cell_row {w0 D w} (hw : HF w0 D H w) {b off : Nat} {wf : Bool} {l : List Value} {t : TypeId} {fz : Nat × Nat} {v : Value} (hm : ⟨b, wf, .row l t fz⟩ ∈ H) (hv : nth l off = some v) :
    w.cell? ⟨b, off, none⟩ = some v := by
  have h := hw.has _ hm
  simp only [Blk.den] at h
  simp only [World.cell?, h]
  rw [nth_eq] at hv
  simpa using hv
theorem frozen_row {w0 D w} (hw : HF w0 D H w) {b off : Nat} {wf : Bool} {l : List Value} {t : TypeId} {fz : Nat × Nat} (hm : ⟨b, wf, .row l t fz⟩ ∈ H) :
    w.frozen? ⟨b, off, none⟩ = (decide (fz.1 ≤ off) && decide (off < fz.2)) := by
  have h := hw.has _ hm
  simp only [Blk.den] at h
  simp only [World.frozen?, h]
/-- a load of one cell -/
theorem V.ld {t : TypeId} {x : Operand} {b off : Nat} {wf : Bool} {l : List Value} {T : TypeId} {fz : Nat × Nat} {v : Value} (hA : ∀ w, (isAgg t).run P w = .ok false w) (h : ev fr x = some (Pt b off))
    (hm : ⟨b, wf, .row l T fz⟩ ∈ H) (hv : nth l off = some v) : Val P c n (.load t x) ty fr H v := by
  intro a w ha hw dst pos aft g
  have hc := cell_row hw hm hv
  simp [execOp, ha.eval h, Instr.loadAt, Instr.sureAddr, loadVar, hA, run_load, hc]
/-- a load of several cells -/
theorem V.ldA {t : TypeId} {x : Operand} {b off s : Nat} {wf : Bool} {l : List Value} {T : TypeId} {fz : Nat × Nat} {cs : List Value} (hA : ∀ w, (isAgg t).run P w = .ok true w) (hs : ∀ w, (Go.sizeOf t).run P w = .ok s w) (h : ev fr x = some (Pt b off))
    (hm : ⟨b, wf, .row l T fz⟩ ∈ H) (hv : (l.drop off).take s = cs) (hl : cs.length = s) : Val P c n (.load t x) ty fr H (.agg cs.toArray) := by
  intro a w ha hw dst pos aft g
  have hc : ∀ j v, cs[j]? = some v → w.cell? ((⟨b, off, none⟩ : Addr).add j) = some v := by
    intro j v hj
    have hlt : j < s := by rw [← hl]; exact (List.getElem?_eq_some_iff.1 hj).1
    have : l[off + j]? = some v := by
      rw [← hv] at hj
      rw [List.getElem?_take_of_lt hlt, List.getElem?_drop] at hj
      exact hj
    have h2 := cell_row hw hm (off := off + j) (v := v) (by rw [nth_eq]; exact this)
    by_cases h0 : j = 0
    · subst h0; simpa [Addr.add] using h2
    · simpa [Addr.add, h0] using h2
  have hrun := run_loadCells_list (P := P) (w := w) ⟨b, off, none⟩ cs hc
  simp [execOp, ha.eval h, Instr.loadAt, Instr.sureAddr, loadVar, hA, hs, ← hl, hrun]
/-! ### numbers -/
theorem V.lenS {t : TypeId} {x : Operand} {l : List UInt8} (hU : P.underlying t = some .string) (h : ev fr x = some (S l)) :
    Val P c n (.call ⟨.builtin .len, #[x], #[t]⟩) ty fr H (I (l.length : Nat)) := by
  intro a w ha hw dst pos aft g
  have h1 := run_len_string (P := P) (w := w) t ty ⟨l.toArray⟩ hU
  have h2 : (⟨l.toArray⟩ : ByteArray).size = l.length := List.size_toArray
  rw [h2] at h1
  simp [execOp, resolve, invoke, builtin, ha.eval h, h1, goInt]
theorem V.lenL {t e : TypeId} {x : Operand} {ad : Option Addr} {l cp : Nat} (hU : P.underlying t = some (.slice e)) (h : ev fr x = some (.slice ad l cp)) :
    Val P c n (.call ⟨.builtin .len, #[x], #[t]⟩) ty fr H (I (l : Nat)) := by
  intro a w ha hw dst pos aft g
  simp [execOp, resolve, invoke, builtin, ha.eval h, Builtin.len_, underlying, hU, goInt]
theorem V.capL {t e : TypeId} {x : Operand} {ad : Option Addr} {l cp : Nat} (hU : P.underlying t = some (.slice e)) (h : ev fr x = some (.slice ad l cp)) :
    Val P c n (.call ⟨.builtin .cap, #[x], #[t]⟩) ty fr H (I (cp : Nat)) := by
  intro a w ha hw dst pos aft g
  simp [execOp, resolve, invoke, builtin, ha.eval h, Builtin.cap_, underlying, hU, goInt]
theorem V.not {t : TypeId} {x : Operand} {b : Bool} (h : ev fr x = some (.bool b)) : Val P c n (.unOp .not t x) ty fr H (.bool (!b)) := by
  intro a w ha hw dst pos aft g
  simp [execOp, ha.eval h, Op.unary]
section ints
variable {t u : TypeId} {x y : Operand} {kd : IntKind} {i j : Int}
theorem V.add (hx : ev fr x = some (.int kd i)) (hy : ev fr y = some (.int kd j)) : Val P c n (.binOp .add t x y u) ty fr H (.int kd (kd.wrap (i + j))) := by
  intro a w ha hw dst pos aft g
  simp [execOp, ha.eval hx, ha.eval hy, eqGuard, binOp, Op.intArith]
theorem V.sub (hx : ev fr x = some (.int kd i)) (hy : ev fr y = some (.int kd j)) : Val P c n (.binOp .sub t x y u) ty fr H (.int kd (kd.wrap (i - j))) := by
  intro a w ha hw dst pos aft g
  simp [execOp, ha.eval hx, ha.eval hy, eqGuard, binOp, Op.intArith]
theorem wrap_i64 {i : Int} (h : -9223372036854775808 ≤ i) (h2 : i ≤ 9223372036854775807) : IntKind.i64.wrap i = i := by
  have e : IntKind.i64.wrap i = if 9223372036854775808 ≤ i % 18446744073709551616 then i % 18446744073709551616 - 18446744073709551616 else i % 18446744073709551616 := by
    simp [IntKind.wrap, IntKind.signed, IntKind.bits]
  rw [e]
  split <;> omega
theorem V.addI {r : Int} (hx : ev fr x = some (I i)) (hy : ev fr y = some (I j)) (hr : i + j = r) (h : -9223372036854775808 ≤ r) (h2 : r ≤ 9223372036854775807) : Val P c n (.binOp .add t x y u) ty fr H (I r) := by
  have := V.add (P := P) (c := c) (n := n) (H := H) (ty := ty) (t := t) (u := u) hx hy
  rw [hr, wrap_i64 h h2] at this; exact this
theorem V.subI {r : Int} (hx : ev fr x = some (I i)) (hy : ev fr y = some (I j)) (hr : i - j = r) (h : -9223372036854775808 ≤ r) (h2 : r ≤ 9223372036854775807) : Val P c n (.binOp .sub t x y u) ty fr H (I r) := by
  have := V.sub (P := P) (c := c) (n := n) (H := H) (ty := ty) (t := t) (u := u) hx hy
  rw [hr, wrap_i64 h h2] at this; exact this
theorem V.lt (hx : ev fr x = some (.int kd i)) (hy : ev fr y = some (.int kd j)) : Val P c n (.binOp .lss t x y u) ty fr H (.bool (decide (i < j))) := by
  intro a w ha hw dst pos aft g
  simp [execOp, ha.eval hx, ha.eval hy, eqGuard, binOp, Op.intCmp]
theorem V.le (hx : ev fr x = some (.int kd i)) (hy : ev fr y = some (.int kd j)) : Val P c n (.binOp .leq t x y u) ty fr H (.bool (decide (i ≤ j))) := by
  intro a w ha hw dst pos aft g
  simp [execOp, ha.eval hx, ha.eval hy, eqGuard, binOp, Op.intCmp]
theorem V.gt (hx : ev fr x = some (.int kd i)) (hy : ev fr y = some (.int kd j)) : Val P c n (.binOp .gtr t x y u) ty fr H (.bool (decide (i > j))) := by
  intro a w ha hw dst pos aft g
  simp [execOp, ha.eval hx, ha.eval hy, eqGuard, binOp, Op.intCmp]
theorem V.ge (hx : ev fr x = some (.int kd i)) (hy : ev fr y = some (.int kd j)) : Val P c n (.binOp .geq t x y u) ty fr H (.bool (decide (i ≥ j))) := by
  intro a w ha hw dst pos aft g
  simp [execOp, ha.eval hx, ha.eval hy, eqGuard, binOp, Op.intCmp]
theorem V.eqI (hx : ev fr x = some (.int kd i)) (hy : ev fr y = some (.int kd j)) : Val P c n (.binOp .eql t x y u) ty fr H (.bool (decide (i = j))) := by
  intro a w ha hw dst pos aft g
  simp [execOp, ha.eval hx, ha.eval hy, eqGuard, binOp, Op.intCmp]
  rw [Bool.eq_iff_iff]; simp
theorem V.neI (hx : ev fr x = some (.int kd i)) (hy : ev fr y = some (.int kd j)) : Val P c n (.binOp .neq t x y u) ty fr H (.bool (!decide (i = j))) := by
  intro a w ha hw dst pos aft g
  simp [execOp, ha.eval hx, ha.eval hy, eqGuard, binOp, Op.intCmp]
  rw [Bool.eq_iff_iff]; simp [bne]
end ints
/-! ### texts -/
section texts
variable {t u : TypeId} {x y : Operand} {l m : List UInt8}
theorem V.eqS (hx : ev fr x = some (S l)) (hy : ev fr y = some (S m)) : Val P c n (.binOp .eql t x y u) ty fr H (.bool (decide (l = m))) := by
  intro a w ha hw dst pos aft g
  simp [execOp, ha.eval hx, ha.eval hy, eqGuard, binOp, Op.stringOp]
  rw [Bool.eq_iff_iff]; simp
theorem V.neS (hx : ev fr x = some (S l)) (hy : ev fr y = some (S m)) : Val P c n (.binOp .neq t x y u) ty fr H (.bool (!decide (l = m))) := by
  intro a w ha hw dst pos aft g
  simp [execOp, ha.eval hx, ha.eval hy, eqGuard, binOp, Op.stringOp]
  rw [Bool.eq_iff_iff]; simp
theorem V.cat (hx : ev fr x = some (S l)) (hy : ev fr y = some (S m)) (hb : l.length + m.length ≤ 9223372036854775807) : Val P c n (.binOp .add t x y u) ty fr H (S (l ++ m)) := by
  intro a w ha hw dst pos aft g
  have h1 := run_string_add_sum (P := P) (w := w) ⟨l.toArray⟩ ⟨m.toArray⟩ (by simpa [ByteArray.size] using hb)
  simp [execOp, ha.eval hx, ha.eval hy, eqGuard, binOp, h1]
  exact ByteArray.mk_append_mk l m
/-- s[i] -/
theorem V.idx {i : Nat} {b : UInt8} {ix : Operand} {kd : IntKind} (hU : P.underlying t = some .string) (hx : ev fr x = some (S l)) (hy : ev fr ix = some (.int kd (i : Int))) (hb : l[i]? = some b) :
    Val P c n (.index t x ix) ty fr H (.int .u8 (b.toNat : Int)) := by
  intro a w ha hw dst pos aft g
  have h1 : (⟨l.toArray⟩ : ByteArray)[i]? = some b := by
    have hlt := (List.getElem?_eq_some_iff.1 hb).1
    rw [ByteArray.getElem?_lt' _ _ (by simpa [ByteArray.size] using hlt)]
    have := (List.getElem?_eq_some_iff.1 hb).2
    exact congrArg some this
  simp [execOp, ha.eval hx, ha.eval hy, Instr.index, asIntOf, underlying, hU, h1]
end texts
/-! ### nil -/
section nils
variable {t u e : TypeId} {x : Operand} {w : World}
theorem eqIn_sl (d : Nat) (p : Option Addr) (l cp : Nat) (hU : P.underlying t = some (.slice e)) : (Op.equalIn (d + 1) t (.slice p l cp) (.slice none 0 0)).run P w = .ok p.isNone w := by
  cases p <;> simp [Op.equalIn, underlying, hU]
end nils
/-! ### cuts -/
section cuts
variable {t e : TypeId} {x y z : Operand} {l : List UInt8} {i j : Nat} {kd kd' : IntKind}
theorem ext_S (l : List UInt8) (i j : Nat) : (⟨l.toArray⟩ : ByteArray).extract i j = ⟨((l.take j).drop i).toArray⟩ := by
  have : ((⟨l.toArray⟩ : ByteArray).extract i j).data = (⟨((l.take j).drop i).toArray⟩ : ByteArray).data := by
    simp [ByteArray.data_extract, List.drop_take]
  exact ByteArray.ext this
/-- s[i:] -/
theorem V.slL (hU : P.underlying t = some .string) (hx : ev fr x = some (S l)) (hy : ev fr y = some (.int kd (i : Int))) (hi : i ≤ l.length) : Val P c n (.slice t x (some y) none none) ty fr H (S (l.drop i)) := by
  intro a w ha hw dst pos aft g
  have h1 : (⟨l.toArray⟩ : ByteArray).size = l.length := by simp [ByteArray.size]
  simp [execOp, ha.eval hx, ha.eval hy, Instr.sliceAt, Instr.slice, underlying, hU, Instr.sliceBounds, Instr.sliceBound, asIntOf, h1, hi, ext_S]
/-- s[:j] -/
theorem V.slH (hU : P.underlying t = some .string) (hx : ev fr x = some (S l)) (hz : ev fr z = some (.int kd (j : Int))) (hj : j ≤ l.length) : Val P c n (.slice t x none (some z) none) ty fr H (S (l.take j)) := by
  intro a w ha hw dst pos aft g
  have h1 : (⟨l.toArray⟩ : ByteArray).size = l.length := by simp [ByteArray.size]
  simp [execOp, ha.eval hx, ha.eval hz, Instr.sliceAt, Instr.slice, underlying, hU, Instr.sliceBounds, Instr.sliceBound, asIntOf, h1, hj, ext_S]
/-- s[i:j] -/
theorem V.slLH (hU : P.underlying t = some .string) (hx : ev fr x = some (S l)) (hy : ev fr y = some (.int kd (i : Int))) (hz : ev fr z = some (.int kd' (j : Int))) (hi : i ≤ j) (hj : j ≤ l.length) :
    Val P c n (.slice t x (some y) (some z) none) ty fr H (S ((l.take j).drop i)) := by
  intro a w ha hw dst pos aft g
  have h1 : (⟨l.toArray⟩ : ByteArray).size = l.length := by simp [ByteArray.size]
  simp [execOp, ha.eval hx, ha.eval hy, ha.eval hz, Instr.sliceAt, Instr.slice, underlying, hU, Instr.sliceBounds, Instr.sliceBound, asIntOf, h1, hj, hi, ext_S]
/-- &xs[i] -/
theorem V.ia {b off s len cp : Nat} (hU : P.underlying t = some (.slice e)) (hs : ∀ w, (Go.sizeOf e).run P w = .ok s w) (hx : ev fr x = some (.slice (some ⟨b, off, none⟩) len cp)) (hy : ev fr y = some (.int kd (i : Int))) (hi : i < len) :
    Val P c n (.indexAddr t x y) ty fr H (Pt b (off + i * s)) := by
  intro a w ha hw dst pos aft g
  by_cases h0 : i * s = 0
  · simp [execOp, ha.eval hx, ha.eval hy, Instr.indexAt, asIntOf, underlying, hU, hs, hi, Addr.add, h0]
  · simp [execOp, ha.eval hx, ha.eval hy, Instr.indexAt, asIntOf, underlying, hU, hs, hi, Addr.add, h0]
end cuts
/-! ### the rest -/
theorem V.ex {x : Operand} {i : Nat} {vs : List Value} {v : Value} (hx : ev fr x = some (.tuple vs.toArray)) (hi : nth vs i = some v) : Val P c n (.extract x i) ty fr H v := by
  intro a w ha hw dst pos aft g
  rw [nth_eq] at hi
  simp [execOp, ha.eval hx, Instr.extract, hi]
theorem V.cvI {s d : TypeId} {x : Operand} {kd kd' : IntKind} {i : Int} {ud : TypeDesc} (hs : P.underlying s = some ud) (hd : P.underlying d = some (.int kd')) (hx : ev fr x = some (.int kd i)) : Val P c n (.convert s d x) ty fr H (.int kd' (kd'.wrap i)) := by
  intro a w ha hw dst pos aft g
  simp [execOp, ha.eval hx, convert, underlying, hs, hd, Conv.intToInt]
theorem V.mkF {fn : Fn} {cap : List Operand} {vs : List Value} (h : cap.map (ev fr) = vs.map some) : Val P c n (.makeFunc fn #[] cap.toArray) ty fr H (.func fn #[] vs.toArray) := by
  intro a w ha hw dst pos aft g
  have : cap.map a.eval = vs := by
    clear g aft pos dst
    induction cap generalizing vs with
    | nil => cases vs with
      | nil => rfl
      | cons v vs => simp at h
    | cons x cap ih =>
      cases vs with
      | nil => simp at h
      | cons v vs =>
        simp only [List.map_cons, List.cons.injEq] at h ⊢
        exact ⟨ha.eval h.1, ih h.2⟩
  simp [execOp, Instr.makeFunc, this]
end Bw

/- The kit's rules that write, make memory, call; regions that draw; the entry. No program in sight. -/
namespace Bw
open Go
variable {P : Program} {c : Cx} {n : Nat} {k : List Item} {fr : SF} {H : SH} {ops : Array Oper} {rest : List Oper} {ty : TypeId} {pos : String} {aft : Array Edge}
/-- an operation that yields a value (or nothing) and turns the world -/
theorem G.eff {op : Op} {d : Nat} {H' : SH} {v : Value} (hr : ∀ a w, Fr n fr a → HF c.w0 c.D H w → ∃ w', (execOp a.eval ⟨some d, op, ty, pos, aft, none⟩).run P w = .ok (.value v) w' ∧ HF c.w0 c.D H' w')
    (hd : Nat.blt d n = true) (hk : G P c n k ops rest ((d, v) :: fr) H') : G P c n k ops (⟨some d, op, ty, pos, aft, none⟩ :: rest) fr H := by
  intro hf a w ha hw
  obtain ⟨w', h1, h2⟩ := hr a w ha hw
  refine wpList_step fun K hK => ?_
  simp only [Region.wanted, if_true, Oper.wp, h1, Oper.upon]
  exact hK _ _ (hk hf _ _ (ha.put hd v) h2)
theorem G.effN {op : Op} {H' : SH} (hr : ∀ a w, Fr n fr a → HF c.w0 c.D H w → ∃ w', (execOp a.eval ⟨none, op, ty, pos, aft, none⟩).run P w = .ok .skip w' ∧ HF c.w0 c.D H' w')
    (hk : G P c n k ops rest fr H') : G P c n k ops (⟨none, op, ty, pos, aft, none⟩ :: rest) fr H := by
  intro hf a w ha hw
  obtain ⟨w', h1, h2⟩ := hr a w ha hw
  refine wpList_step fun K hK => ?_
  simp only [Region.wanted, if_true, Oper.wp, h1, Oper.upon]
  exact hK _ _ (hk hf _ _ ha h2)
/-- an operation that yields a value over a new block -/
theorem G.new {op : Op} {d : Nat} {kb : Blk} {v : Nat → Value} (hr : ∀ a w, Fr n fr a → HF c.w0 c.D H w → (execOp a.eval ⟨some d, op, ty, pos, aft, none⟩).run P w = .ok (.value (v w.heap.size)) { w with heap := w.heap.push kb.den })
    (hd : Nat.blt d n = true) (hk : ∀ b, c.w0.heap.size ≤ b → G P c n k ops rest ((d, v b) :: fr) (⟨b, true, kb⟩ :: H)) : G P c n k ops (⟨some d, op, ty, pos, aft, none⟩ :: rest) fr H := by
  intro hf a w ha hw
  refine wpList_step fun K hK => ?_
  simp only [Region.wanted, if_true, Oper.wp, hr a w ha hw, Oper.upon]
  exact hK _ _ (hk _ hw.size hf _ _ (ha.put hd _) (hw.push kb))
theorem bool_of_frz {fz : Nat × Nat} {off : Nat} (hf : (Nat.ble fz.1 off && Nat.blt off fz.2) = false) : (decide (fz.1 ≤ off) && decide (off < fz.2)) = false := by
  simp only [Bool.and_eq_false_iff, decide_eq_false_iff_not] at *
  rcases hf with h | h
  · exact .inl fun h2 => by rw [Nat.ble_eq_true_of_le h2] at h; cases h
  · exact .inr fun h2 => by
      have : Nat.blt off fz.2 = true := by simpa [Nat.blt_eq] using h2
      rw [this] at h; cases h
/-- a store of one cell -/
theorem G.st {t : TypeId} {x y : Operand} {v : Value} {b off i : Nat} {l : List Value} {T : TypeId} {fz : Nat × Nat} (hs : ∀ w, (Go.sizeOf t).run P w = .ok 1 w) (hx : ev fr x = some (Pt b off)) (hy : ev fr y = some v)
    (h1 : v.oneCell' = true) (hi : At i ⟨b, true, .row l T fz⟩ H) (hc : (nth l off).isSome = true) (hf : (Nat.ble fz.1 off && Nat.blt off fz.2) = false)
    (hk : G P c n k ops rest fr (putE (.row (setL l off v) T fz) i H)) : G P c n k ops (⟨none, .store t x y, ty, pos, aft, none⟩ :: rest) fr H := by
  refine G.effN (fun a w ha hw => ⟨w.setCell ⟨b, off, none⟩ v, ?_, hw.setCell hi v⟩) hk
  obtain ⟨u, hu⟩ := Option.isSome_iff_exists.1 hc
  have hcell := cell_row hw hi.mem hu
  have hfz := frozen_row hw hi.mem (off := off)
  rw [bool_of_frz hf] at hfz
  have hcs : v.cells = #[v] := by cases v <;> first | rfl | (simp [Value.oneCell'] at h1)
  have hst := run_store P w ⟨b, off, none⟩ v .plain h1
  simp only [hcell, hfz] at hst
  simp [execOp, ha.eval hx, ha.eval hy, Instr.storeAt, Instr.sureAddr, storeVar, hcs, hs, storeCells, Addr.add, hst]
/-- new(T), var x T -/
theorem G.al {t : TypeId} {z : Value} {d : Nat} {l : List Value} (hz : ∀ w, (zeroValue t).run P w = .ok z w) (hl : z.cells.toList = l) (hd : Nat.blt d n = true)
    (hk : ∀ b, c.w0.heap.size ≤ b → G P c n k ops rest ((d, Pt b 0) :: fr) (⟨b, true, .row l t (0, 0)⟩ :: H)) : G P c n k ops (⟨some d, .alloc t, ty, pos, aft, none⟩ :: rest) fr H := by
  refine G.new (kb := .row l t (0, 0)) (v := fun b => Pt b 0) (fun a w ha hw => ?_) hd hk
  subst hl
  simp [execOp, Instr.alloc, hz, newVar, newRow, Blk.den]
/-- &v, a parameter that moves into memory -/
theorem G.bx {t : TypeId} {x : Operand} {v : Value} {d : Nat} {l : List Value} (hx : ev fr x = some v) (hl : v.cells.toList = l) (hd : Nat.blt d n = true)
    (hk : ∀ b, c.w0.heap.size ≤ b → G P c n k ops rest ((d, Pt b 0) :: fr) (⟨b, true, .row l t (0, 0)⟩ :: H)) : G P c n k ops (⟨some d, .box t x, ty, pos, aft, none⟩ :: rest) fr H := by
  refine G.new (kb := .row l t (0, 0)) (v := fun b => Pt b 0) (fun a w ha hw => ?_) hd hk
  subst hl
  simp [execOp, ha.eval hx, Instr.box, newVar, newRow, Blk.den]
/-- make(map[K]V) -/
theorem G.mm {t : TypeId} {d : Nat} (hd : Nat.blt d n = true)
    (hk : ∀ b, c.w0.heap.size ≤ b → G P c n k ops rest ((d, .map (some b)) :: fr) (⟨b, true, .obj (.map #[] 0)⟩ :: H)) : G P c n k ops (⟨some d, .makeMap t none, ty, pos, aft, none⟩ :: rest) fr H := by
  refine G.new (kb := .obj (.map #[] 0)) (v := fun b => .map (some b)) (fun a w ha hw => ?_) hd hk
  simp [execOp, Instr.makeMap, Blk.den]
def evs (fr : SF) : List Operand → Option (List Value)
  | [] => some []
  | x :: r => match ev fr x, evs fr r with
    | some v, some vs => some (v :: vs)
    | _, _ => none
theorem Fr.evals {a : Act} (ha : Fr n fr a) : ∀ {xs : List Operand} {vs : List Value}, evs fr xs = some vs → xs.map a.eval = vs
  | [], vs, h => by simp [evs] at h; simp [h]
  | x :: r, vs, h => by
    simp only [evs] at h
    split at h
    · rename_i v ws hv hws
      simp only [Option.some.injEq] at h
      subst h
      simp [ha.eval hv, ha.evals hws]
    · cases h
/-- the run of a call of a named function -/
theorem run_callN {a : Act} {w : World} (ha : Fr n fr a) {g : FuncId} {xs : List Operand} {vs : List Value} {tys : Array TypeId} {dst : Option Tmp} {gd : Option (Nat × Bool)} (hg : ∀ (args : Array Value) w, (callFunc g args).run P w = .ok (.enter g args) w) (he : evs fr xs = some vs) :
    (execOp a.eval ⟨dst, .call ⟨.value (.func g), xs.toArray, tys⟩, ty, pos, aft, gd⟩).run P w = .ok (.enter g vs.toArray) w := by
  have h1 := ha.evals he
  have h2 : a.eval (.func g) = .func (.func g) #[] #[] := rfl
  simp [execOp, resolve, h1, h2, Deferred.ofValue, invoke, hg]
/-- a call of a named function -/
theorem G.call {g : FuncId} {xs : List Operand} {vs : List Value} {tys : Array TypeId} {d : Nat} {K : Value → World → Prop} (hg : ∀ (args : Array Value) w, (callFunc g args).run P w = .ok (.enter g args) w) (he : evs fr xs = some vs)
    (hd : Nat.blt d n = true) (hc : ∀ w, HF c.w0 c.D H w → Calls P g vs.toArray w (fun e w' => ∃ v, e = .returned v ∧ K v w'))
    (hk : ∀ v w w', HF c.w0 c.D H w → K v w' → ∃ H', HF c.w0 c.D H' w' ∧ G P c n k ops rest ((d, v) :: fr) H') :
    G P c n k ops (⟨some d, .call ⟨.value (.func g), xs.toArray, tys⟩, ty, pos, aft, none⟩ :: rest) fr H := by
  intro hf a w ha hw
  refine wpList_step fun K' hK' => ?_
  simp only [Region.wanted, if_true, Oper.wp, run_callN ha hg he, Oper.upon]
  refine (hc w hw).mono fun e w' ⟨v, he', hv⟩ => ?_
  subst he'
  obtain ⟨H', h1, h2⟩ := hk v w w' hw hv
  exact hK' _ _ (h2 hf _ _ (ha.put hd v) h1)
/-! ### what a call leaves -/
/-- the callee turned nothing that was there; what it tells of its new blocks is kept -/
theorem HF.after0 {w0 D w w'} {H1 : SH} (h : HF w0 D H w) (h1 : HF w (fun _ => False) H1 w') (hn : ∀ e ∈ H1, e.w = true) : HF w0 D (H1 ++ H) w' := by
  have hnew : ∀ e ∈ H1, w.heap.size ≤ e.b := fun e he => (h1.wr e he (hn e he)).resolve_left id
  refine ⟨Nat.le_trans h.size h1.size, fun b hlt hD => ?_, fun e he => ?_, fun e he hw => ?_, ?_, h1.tape.trans h.tape, h1.os.trans h.os, h1.output.trans h.output⟩
  · rw [h1.frame b (by have := h.size; omega) id]; exact h.frame b hlt hD
  · rcases List.mem_append.1 he with he | he
    · exact h1.has e he
    · rw [h1.frame e.b (h.lt he) id]; exact h.has e he
  · rcases List.mem_append.1 he with he | he
    · exact .inr (Nat.le_trans h.size (hnew e he))
    · exact h.wr e he hw
  · refine List.pairwise_append.2 ⟨h1.nd, h.nd, fun e he x hx => ?_⟩
    have := hnew e he
    have := h.lt hx
    omega
/-- the callee may have turned the blocks of D'; Hk: what is kept of the caller's knowledge -/
theorem HF.after {w0 D D' w w'} {H1 Hk : SH} (h : HF w0 D H w) (h1 : HF w D' H1 w') (hk : Hk.Sublist H) (hD : ∀ b, D' b → D b ∨ w0.heap.size ≤ b) (hs : ∀ e ∈ Hk, ¬ D' e.b) (hs1 : ∀ e ∈ H1, ∀ x ∈ Hk, e.b ≠ x.b) :
    HF w0 D (H1 ++ Hk) w' := by
  have h' := h.sub hk
  refine ⟨Nat.le_trans h.size h1.size, fun b hlt hDb => ?_, fun e he => ?_, fun e he hw => ?_, ?_, h1.tape.trans h.tape, h1.os.trans h.os, h1.output.trans h.output⟩
  · rw [h1.frame b (by have := h.size; omega) (fun hb => by rcases hD b hb with h2 | h2 <;> first | exact hDb h2 | omega)]; exact h.frame b hlt hDb
  · rcases List.mem_append.1 he with he | he
    · exact h1.has e he
    · rw [h1.frame e.b (h'.lt he) (hs e he)]; exact h'.has e he
  · rcases List.mem_append.1 he with he | he
    · rcases h1.wr e he hw with h2 | h2
      · exact hD _ h2
      · exact .inr (Nat.le_trans h.size h2)
    · exact h'.wr e he hw
  · exact List.pairwise_append.2 ⟨h1.nd, h'.nd, fun e he x hx => hs1 e he x hx⟩
/-- a fact on a block that was there and is not among those that may be turned -/
theorem HF.old {w0 D w} (h : HF w0 D H w) {b : Nat} {o : Obj} (hb : w0.heap[b]? = some o) (hD : ¬ D b) : w.heap[b]? = some o := by
  rw [h.frame b (Array.getElem?_eq_some_iff.1 hb).1 hD]; exact hb
theorem HF.cellOld {w0 D w} (h : HF w0 D H w) {a : Addr} {v : Value} (hc : w0.cell? a = some v) (hD : ¬ D a.block) : w.cell? a = some v := by
  have hlt : a.block < w0.heap.size := World.block_lt_of_cell? w0 a hc
  simp only [World.cell?, h.frame a.block hlt hD]
  simpa only [World.cell?] using hc
/-- a load of one cell of memory that was there and is left alone -/
theorem V.ldC {t : TypeId} {x : Operand} {b off : Nat} {v : Value} (hA : ∀ w, (isAgg t).run P w = .ok false w) (h : ev fr x = some (Pt b off))
    (hc : c.w0.cell? ⟨b, off, none⟩ = some v) (hD : ¬ c.D b) : Val P c n (.load t x) ty fr H v := by
  intro a w ha hw dst pos aft g
  have hc := hw.cellOld hc hD
  simp [execOp, ha.eval h, Instr.loadAt, Instr.sureAddr, loadVar, hA, run_load, hc]
/-- a load of several cells of memory that was there and is left alone -/
theorem V.ldAC {t : TypeId} {x : Operand} {b off s : Nat} {cs : List Value} (hA : ∀ w, (isAgg t).run P w = .ok true w) (hs : ∀ w, (Go.sizeOf t).run P w = .ok s w) (h : ev fr x = some (Pt b off))
    (hc : ∀ j v, cs[j]? = some v → c.w0.cell? ⟨b, off + j, none⟩ = some v) (hl : cs.length = s) (hD : ¬ c.D b) : Val P c n (.load t x) ty fr H (.agg cs.toArray) := by
  intro a w ha hw dst pos aft g
  have hc2 : ∀ j v, cs[j]? = some v → w.cell? ((⟨b, off, none⟩ : Addr).add j) = some v := by
    intro j v hj
    have h2 := hw.cellOld (hc j v hj) hD
    by_cases h0 : j = 0
    · subst h0; simpa [Addr.add] using h2
    · simpa [Addr.add, h0] using h2
  have hrun := run_loadCells_list (P := P) (w := w) ⟨b, off, none⟩ cs hc2
  simp [execOp, ha.eval h, Instr.loadAt, Instr.sureAddr, loadVar, hA, hs, ← hl, hrun]
/-! ### regions that draw -/
def GQ (P : Program) (c : Cx) (n : Nat) (k : List Item) (ops : Array Oper) (l : List Oper) (fr : SF) (H : SH) : Prop :=
  P.funcs[c.f]? = some c.fn → ∀ a, Fr n fr a → wpQuiet P ops (HF c.w0 c.D H) (fun a' => ∀ w', HF c.w0 c.D H w' → Qk P c k .normal a' w') l a
theorem GC.regQ {id : Nat} {l : List Oper} (hm : P.follows .mixedOrders = true) (hB : Region.lexB .any l.toArray = true) (h : GQ P c n k l.toArray l fr H) : GC P c n (.code (.region id l.toArray true) :: k) fr H :=
  fun hf a w ha hw => Runs.of_wp hf (wp_region_quiet (C := HF c.w0 c.D H) hm hB (hw.drew _) (by simpa using h hf a ha))
theorem GQ.nil (h : GC P c n k fr H) : GQ P c n k ops [] fr H := fun hf a ha => wpQuiet_nil fun w' hw' => h hf a w' ha hw'
theorem GQ.v {op : Op} {v : Value} {d : Nat} (hv : Val P c n op ty fr H v) (hd : Nat.blt d n = true) (hk : GQ P c n k ops rest ((d, v) :: fr) H) :
    GQ P c n k ops (⟨some d, op, ty, pos, aft, none⟩ :: rest) fr H := by
  intro hf a ha
  refine wpQuiet_step fun K hK => ?_
  simp only [Region.wanted, if_true]
  exact ⟨v, fun w hw => by simp [Oper.quietAt, hv a w ha hw, Oper.quietUpon], hK _ (hk hf _ (ha.put hd v))⟩
theorem GQ.vg {op : Op} {v : Value} {d j t : Nat} {b : Bool} (hj : (ops[j]?).bind (·.dst) = some t) (hb : look t fr = some (.bool b))
    (hv : Val P c n op ty fr H v) (hd : Nat.blt d n = true) (hk : GQ P c n k ops rest ((d, v) :: fr) H) :
    GQ P c n k ops (⟨some d, op, ty, pos, aft, some (j, b)⟩ :: rest) fr H := by
  intro hf a ha
  refine wpQuiet_step fun K hK => ?_
  have hy : yielded ops a.tmps j = some b := by simp [yielded, hj, ha.at_ t _ hb]
  have hwn : Region.wanted ⟨some d, op, ty, pos, aft, some (j, b)⟩ (yielded ops a.tmps) = true := by simp [Region.wanted, hy]
  simp only [hwn, if_true]
  exact ⟨v, fun w hw => by simp [Oper.quietAt, hv a w ha hw, Oper.quietUpon], hK _ (hk hf _ (ha.put hd v))⟩
theorem GQ.sg {o : Oper} {j t d : Nat} {b want : Bool} (hg : o.guard = some (j, want)) (hdst : o.dst = some d) (hj : (ops[j]?).bind (·.dst) = some t) (hb : look t fr = some (.bool b)) (hne : (b == want) = false) (hd : Nat.blt d n = true)
    (hk : GQ P c n k ops rest ((d, undef) :: fr) H) : GQ P c n k ops (o :: rest) fr H := by
  intro hf a ha
  refine wpQuiet_step fun K hK => ?_
  have hy : yielded ops a.tmps j = some b := by simp [yielded, hj, ha.at_ t _ hb]
  have hwn : Region.wanted o (yielded ops a.tmps) = false := by
    simp only [Region.wanted, hg, hy]
    cases b <;> cases want <;> simp_all
  simp only [hwn, hdst]
  exact hK _ (hk hf _ (ha.put hd undef))
theorem Fr.bcase {a : Act} (ha : Fr n fr a) {t : Nat} {b x : Bool} (hb : look t fr = some (.bool b)) (hx : b = x) : Fr n ((t, .bool x) :: fr) a := ⟨ha.size, ha.defers, fun s u hs => by
    by_cases e : t = s
    · subst e; rw [look_cons_eq] at hs; rw [ha.at_ t _ hb, hx]; exact hs
    · rw [look_cons_ne e] at hs; exact ha.at_ s u hs⟩
theorem GQ.bc {l : List Oper} (t : Nat) {b : Bool} (hb : look t fr = some (.bool b)) (ht : b = true → GQ P c n k ops l ((t, .bool true) :: fr) H) (hf : b = false → GQ P c n k ops l ((t, .bool false) :: fr) H) :
    GQ P c n k ops l fr H := by
  intro hF a ha
  cases b
  · exact hf rfl hF a (ha.bcase hb rfl)
  · exact ht rfl hF a (ha.bcase hb rfl)
/-- a call that leaves what is known as it is -/
theorem GQ.call {g : FuncId} {xs : List Operand} {vs : List Value} {tys : Array TypeId} {d : Nat} {v : Value} (hg : ∀ (args : Array Value) w, (callFunc g args).run P w = .ok (.enter g args) w) (he : evs fr xs = some vs)
    (hd : Nat.blt d n = true) (hc : ∀ w, HF c.w0 c.D H w → Calls P g vs.toArray w (fun e w' => e = .returned v ∧ HF c.w0 c.D H w'))
    (hk : GQ P c n k ops rest ((d, v) :: fr) H) :
    GQ P c n k ops (⟨some d, .call ⟨.value (.func g), xs.toArray, tys⟩, ty, pos, aft, none⟩ :: rest) fr H := by
  intro hf a ha
  refine wpQuiet_step fun K hK => ?_
  simp only [Region.wanted, if_true]
  refine ⟨v, fun w hw => ?_, hK _ (hk hf _ (ha.put hd v))⟩
  simp only [Oper.quietAt, run_callN ha hg he, Oper.quietUpon]
  exact ⟨trivial, hc w hw⟩
/-- the head of a region whose tail stands in one order -/
def GS (P : Program) (c : Cx) (n : Nat) (k : List Item) (ops : Array Oper) (tail l : List Oper) (fr : SF) (H : SH) : Prop :=
  P.funcs[c.f]? = some c.fn → ∀ a w, Fr n fr a → HF c.w0 c.D H w → wpStill P ops w (fun a' => wpList P ops (Qk P c k) tail a' w) l a
theorem GC.regT {id : Nat} {l : List Oper} (m : Nat) (hm : P.follows .mixedOrders = true) (hB : Region.lexTailB .any l.toArray m = true) {hd tl : List Oper} (h1 : l.take m = hd) (h2 : l.drop m = tl)
    (h : GS P c n k l.toArray tl hd fr H) : GC P c n (.code (.region id l.toArray true) :: k) fr H :=
  fun hf a w ha hw => Runs.of_wp hf (wp_region_still_tail m hm hB (by subst h1; subst h2; exact h hf a _ ha (hw.drew _)))
variable {tail : List Oper}
theorem GS.nil (h : G P c n k ops tail fr H) : GS P c n k ops tail [] fr H := fun hf a w ha hw => wpStill_nil (h hf a w ha hw)
theorem GS.v {op : Op} {v : Value} {d : Nat} (hv : Val P c n op ty fr H v) (hd : Nat.blt d n = true) (hk : GS P c n k ops tail rest ((d, v) :: fr) H) :
    GS P c n k ops tail (⟨some d, op, ty, pos, aft, none⟩ :: rest) fr H := by
  intro hf a w ha hw
  refine wpStill_step fun K hK => ?_
  simp only [Region.wanted, if_true, Oper.still, hv a w ha hw, Oper.stillUpon_value]
  exact hK _ (hk hf _ _ (ha.put hd v) hw)
theorem GS.vg {op : Op} {v : Value} {d j t : Nat} {b : Bool} (hj : (ops[j]?).bind (·.dst) = some t) (hb : look t fr = some (.bool b))
    (hv : Val P c n op ty fr H v) (hd : Nat.blt d n = true) (hk : GS P c n k ops tail rest ((d, v) :: fr) H) :
    GS P c n k ops tail (⟨some d, op, ty, pos, aft, some (j, b)⟩ :: rest) fr H := by
  intro hf a w ha hw
  refine wpStill_step fun K hK => ?_
  have hy : yielded ops a.tmps j = some b := by simp [yielded, hj, ha.at_ t _ hb]
  have hwn : Region.wanted ⟨some d, op, ty, pos, aft, some (j, b)⟩ (yielded ops a.tmps) = true := by simp [Region.wanted, hy]
  simp only [hwn, if_true, Oper.still, hv a w ha hw, Oper.stillUpon_value]
  exact hK _ (hk hf _ _ (ha.put hd v) hw)
theorem GS.sg {o : Oper} {j t d : Nat} {b want : Bool} (hg : o.guard = some (j, want)) (hdst : o.dst = some d) (hj : (ops[j]?).bind (·.dst) = some t) (hb : look t fr = some (.bool b)) (hne : (b == want) = false) (hd : Nat.blt d n = true)
    (hk : GS P c n k ops tail rest ((d, undef) :: fr) H) : GS P c n k ops tail (o :: rest) fr H := by
  intro hf a w ha hw
  refine wpStill_step fun K hK => ?_
  have hy : yielded ops a.tmps j = some b := by simp [yielded, hj, ha.at_ t _ hb]
  have hwn : Region.wanted o (yielded ops a.tmps) = false := by
    simp only [Region.wanted, hg, hy]
    cases b <;> cases want <;> simp_all
  simp only [hwn, hdst]
  exact hK _ (hk hf _ _ (ha.put hd undef) hw)
theorem GS.bc {l : List Oper} (t : Nat) {b : Bool} (hb : look t fr = some (.bool b)) (ht : b = true → GS P c n k ops tail l ((t, .bool true) :: fr) H) (hf : b = false → GS P c n k ops tail l ((t, .bool false) :: fr) H) :
    GS P c n k ops tail l fr H := by
  intro hF a w ha hw
  cases b
  · exact hf rfl hF a w (ha.bcase hb rfl) hw
  · exact ht rfl hF a w (ha.bcase hb rfl) hw
/-! ### the entry -/
def argSF : Nat → List Value → SF
  | _, [] => []
  | i, v :: r => (i, v) :: argSF (i + 1) r
theorem look_argSF : ∀ (vs : List Value) (i t : Nat) (v : Value), look t (argSF i vs) = some v → i ≤ t ∧ vs[t - i]? = some v
  | [], i, t, v, h => by simp [argSF, look] at h
  | u :: r, i, t, v, h => by
    simp only [argSF] at h
    by_cases e : i = t
    · subst e; rw [look_cons_eq] at h; simpa using h
    · rw [look_cons_ne e] at h
      obtain ⟨h1, h2⟩ := look_argSF r (i + 1) t v h
      refine ⟨by omega, ?_⟩
      rw [show t - i = (t - (i + 1)) + 1 by omega]
      simpa using h2
theorem enter {f : FuncId} {fn : Func} {code : Code} {vs : List Value} {R : Ending → World → Prop} {w : World} (D : Nat → Prop) {fr0 : SF} (H0 : SH) (hf : P.funcs[f]? = some fn) (hb : fn.body = some code) (hn : fn.ntmps = n) (hl : Nat.ble vs.length n = true)
    (hfr : argSF 0 vs = fr0) (hH : HF w D H0 w) (h : ∀ c : Cx, c = ⟨f, fn, R, w, D⟩ → GC P c n [.code code] fr0 H0) : Calls P f vs.toArray w R := by
  intro cs
  have hle : vs.length ≤ n := Nat.le_of_ble_eq_true hl
  have := h ⟨f, fn, R, w, D⟩ rfl hf { tmps := vs.toArray ++ Array.replicate (fn.ntmps - vs.toArray.size) undef, defers := [] } w
    ⟨by simp [hn]; omega, rfl, fun t v ht => by
      subst hfr
      obtain ⟨_, h2⟩ := look_argSF vs 0 t v ht
      have hlt : t < vs.length := by have := (List.getElem?_eq_some_iff.1 h2).1; simpa using this
      rw [Array.getElem?_append_left (by simpa using hlt)]
      simpa using h2⟩ hH { (default : Frame) with fn := f, kind := .normal } rfl rfl cs
  have henter : Frame.enter P f vs.toArray .normal = ({ (default : Frame) with fn := f, kind := .normal } : Frame).at { tmps := vs.toArray ++ Array.replicate (fn.ntmps - vs.toArray.size) undef, defers := [] } [.code code] := by
    simp [Frame.enter, Frame.at, hf, hb]
  rw [henter]
  exact this
end Bw

/- A region that draws its order, whose head leaves a class of worlds as it is (calls too), and whose tail stands in one order: one walk. No program in sight. -/
namespace Bw
open Go
section
variable {P : Program} {ops : Array Oper} {md : Region.Mode} {C : World → Prop}
end
variable {P : Program} {c : Cx} {n : Nat} {k : List Item} {fr : SF} {H : SH} {ops : Array Oper} {rest tail : List Oper} {ty : TypeId} {pos : String} {aft : Array Edge}
/-- the head of such a region -/
def GT (P : Program) (c : Cx) (n : Nat) (k : List Item) (ops : Array Oper) (tail l : List Oper) (fr : SF) (H : SH) : Prop :=
  P.funcs[c.f]? = some c.fn → ∀ a, Fr n fr a → wpQuiet P ops (HF c.w0 c.D H) (fun a' => ∀ w', HF c.w0 c.D H w' → wpList P ops (Qk P c k) tail a' w') l a
theorem GT.nil (h : G P c n k ops tail fr H) : GT P c n k ops tail [] fr H := fun hf a ha => wpQuiet_nil fun w' hw' => h hf a w' ha hw'
theorem GT.v {op : Op} {v : Value} {d : Nat} (hv : Val P c n op ty fr H v) (hd : Nat.blt d n = true) (hk : GT P c n k ops tail rest ((d, v) :: fr) H) :
    GT P c n k ops tail (⟨some d, op, ty, pos, aft, none⟩ :: rest) fr H := by
  intro hf a ha
  refine wpQuiet_step fun K hK => ?_
  simp only [Region.wanted, if_true]
  exact ⟨v, fun w hw => by simp [Oper.quietAt, hv a w ha hw, Oper.quietUpon], hK _ (hk hf _ (ha.put hd v))⟩
theorem GT.vg {op : Op} {v : Value} {d j t : Nat} {b : Bool} (hj : (ops[j]?).bind (·.dst) = some t) (hb : look t fr = some (.bool b))
    (hv : Val P c n op ty fr H v) (hd : Nat.blt d n = true) (hk : GT P c n k ops tail rest ((d, v) :: fr) H) :
    GT P c n k ops tail (⟨some d, op, ty, pos, aft, some (j, b)⟩ :: rest) fr H := by
  intro hf a ha
  refine wpQuiet_step fun K hK => ?_
  have hy : yielded ops a.tmps j = some b := by simp [yielded, hj, ha.at_ t _ hb]
  have hwn : Region.wanted ⟨some d, op, ty, pos, aft, some (j, b)⟩ (yielded ops a.tmps) = true := by simp [Region.wanted, hy]
  simp only [hwn, if_true]
  exact ⟨v, fun w hw => by simp [Oper.quietAt, hv a w ha hw, Oper.quietUpon], hK _ (hk hf _ (ha.put hd v))⟩
theorem GT.sg {o : Oper} {j t d : Nat} {b want : Bool} (hg : o.guard = some (j, want)) (hdst : o.dst = some d) (hj : (ops[j]?).bind (·.dst) = some t) (hb : look t fr = some (.bool b)) (hne : (b == want) = false) (hd : Nat.blt d n = true)
    (hk : GT P c n k ops tail rest ((d, undef) :: fr) H) : GT P c n k ops tail (o :: rest) fr H := by
  intro hf a ha
  refine wpQuiet_step fun K hK => ?_
  have hy : yielded ops a.tmps j = some b := by simp [yielded, hj, ha.at_ t _ hb]
  have hwn : Region.wanted o (yielded ops a.tmps) = false := by
    simp only [Region.wanted, hg, hy]
    cases b <;> cases want <;> simp_all
  simp only [hwn, hdst]
  exact hK _ (hk hf _ (ha.put hd undef))
theorem GT.bc {l : List Oper} (t : Nat) {b : Bool} (hb : look t fr = some (.bool b)) (ht : b = true → GT P c n k ops tail l ((t, .bool true) :: fr) H) (hf : b = false → GT P c n k ops tail l ((t, .bool false) :: fr) H) :
    GT P c n k ops tail l fr H := by
  intro hF a ha
  cases b
  · exact hf rfl hF a (ha.bcase hb rfl)
  · exact ht rfl hF a (ha.bcase hb rfl)
theorem GT.call {g : FuncId} {xs : List Operand} {vs : List Value} {tys : Array TypeId} {d : Nat} {v : Value} (hg : ∀ (args : Array Value) w, (callFunc g args).run P w = .ok (.enter g args) w) (he : evs fr xs = some vs)
    (hd : Nat.blt d n = true) (hc : ∀ w, HF c.w0 c.D H w → Calls P g vs.toArray w (fun e w' => e = .returned v ∧ HF c.w0 c.D H w'))
    (hk : GT P c n k ops tail rest ((d, v) :: fr) H) :
    GT P c n k ops tail (⟨some d, .call ⟨.value (.func g), xs.toArray, tys⟩, ty, pos, aft, none⟩ :: rest) fr H := by
  intro hf a ha
  refine wpQuiet_step fun K hK => ?_
  simp only [Region.wanted, if_true]
  refine ⟨v, fun w hw => ?_, hK _ (hk hf _ (ha.put hd v))⟩
  simp only [Oper.quietAt, run_callN ha hg he, Oper.quietUpon]
  exact ⟨trivial, hc w hw⟩
/-! ### calls that turn nothing that was there -/
theorem G.callP {g : FuncId} {xs : List Operand} {vs : List Value} {tys : Array TypeId} {d : Nat} {v : Value} (hg : ∀ (args : Array Value) w, (callFunc g args).run P w = .ok (.enter g args) w) (he : evs fr xs = some vs)
    (hd : Nat.blt d n = true) (hc : ∀ w, HF c.w0 c.D H w → Calls P g vs.toArray w (fun e w' => e = .returned v ∧ HF w (fun _ => False) [] w'))
    (hk : G P c n k ops rest ((d, v) :: fr) H) :
    G P c n k ops (⟨some d, .call ⟨.value (.func g), xs.toArray, tys⟩, ty, pos, aft, none⟩ :: rest) fr H :=
  G.call hg he hd (K := fun u w' => u = v ∧ ∃ w, HF c.w0 c.D H w ∧ HF w (fun _ => False) [] w') (fun w hw => (hc w hw).mono fun e w' h => ⟨v, h.1, rfl, w, hw, h.2⟩)
    fun _ _ w' _ h => ⟨H, by obtain ⟨_, w, h1, h2⟩ := h; exact h1.after0 h2 (fun _ he => by cases he), h.1 ▸ hk⟩
theorem GQ.callP {g : FuncId} {xs : List Operand} {vs : List Value} {tys : Array TypeId} {d : Nat} {v : Value} (hg : ∀ (args : Array Value) w, (callFunc g args).run P w = .ok (.enter g args) w) (he : evs fr xs = some vs)
    (hd : Nat.blt d n = true) (hc : ∀ w, HF c.w0 c.D H w → Calls P g vs.toArray w (fun e w' => e = .returned v ∧ HF w (fun _ => False) [] w'))
    (hk : GQ P c n k ops rest ((d, v) :: fr) H) :
    GQ P c n k ops (⟨some d, .call ⟨.value (.func g), xs.toArray, tys⟩, ty, pos, aft, none⟩ :: rest) fr H :=
  GQ.call hg he hd (fun w hw => (hc w hw).mono fun e w' h => ⟨h.1, hw.after0 h.2 (fun _ he => by cases he)⟩) hk
theorem GT.callP {g : FuncId} {xs : List Operand} {vs : List Value} {tys : Array TypeId} {d : Nat} {v : Value} (hg : ∀ (args : Array Value) w, (callFunc g args).run P w = .ok (.enter g args) w) (he : evs fr xs = some vs)
    (hd : Nat.blt d n = true) (hc : ∀ w, HF c.w0 c.D H w → Calls P g vs.toArray w (fun e w' => e = .returned v ∧ HF w (fun _ => False) [] w'))
    (hk : GT P c n k ops tail rest ((d, v) :: fr) H) :
    GT P c n k ops tail (⟨some d, .call ⟨.value (.func g), xs.toArray, tys⟩, ty, pos, aft, none⟩ :: rest) fr H :=
  GT.call hg he hd (fun w hw => (hc w hw).mono fun e w' h => ⟨h.1, hw.after0 h.2 (fun _ he => by cases he)⟩) hk
/-- a guarded call that is wanted -/
theorem GQ.callPg {g : FuncId} {xs : List Operand} {vs : List Value} {tys : Array TypeId} {d j t : Nat} {b : Bool} {v : Value} (hg : ∀ (args : Array Value) w, (callFunc g args).run P w = .ok (.enter g args) w) (he : evs fr xs = some vs)
    (hj : (ops[j]?).bind (·.dst) = some t) (hb : look t fr = some (.bool b))
    (hd : Nat.blt d n = true) (hc : ∀ w, HF c.w0 c.D H w → Calls P g vs.toArray w (fun e w' => e = .returned v ∧ HF w (fun _ => False) [] w'))
    (hk : GQ P c n k ops rest ((d, v) :: fr) H) :
    GQ P c n k ops (⟨some d, .call ⟨.value (.func g), xs.toArray, tys⟩, ty, pos, aft, some (j, b)⟩ :: rest) fr H := by
  intro hf a ha
  refine wpQuiet_step fun K hK => ?_
  have hy : yielded ops a.tmps j = some b := by simp [yielded, hj, ha.at_ t _ hb]
  have hwn : Region.wanted ⟨some d, .call ⟨.value (.func g), xs.toArray, tys⟩, ty, pos, aft, some (j, b)⟩ (yielded ops a.tmps) = true := by simp [Region.wanted, hy]
  simp only [hwn, if_true]
  refine ⟨v, fun w hw => ?_, hK _ (hk hf _ (ha.put hd v))⟩
  simp only [Oper.quietAt, run_callN ha hg he, Oper.quietUpon]
  exact ⟨trivial, (hc w hw).mono fun e w' h => ⟨h.1, hw.after0 h.2 (fun _ he => by cases he)⟩⟩
theorem G.callPg {g : FuncId} {xs : List Operand} {vs : List Value} {tys : Array TypeId} {d j t : Nat} {b : Bool} {v : Value} (hg : ∀ (args : Array Value) w, (callFunc g args).run P w = .ok (.enter g args) w) (he : evs fr xs = some vs)
    (hj : (ops[j]?).bind (·.dst) = some t) (hb : look t fr = some (.bool b))
    (hd : Nat.blt d n = true) (hc : ∀ w, HF c.w0 c.D H w → Calls P g vs.toArray w (fun e w' => e = .returned v ∧ HF w (fun _ => False) [] w'))
    (hk : G P c n k ops rest ((d, v) :: fr) H) :
    G P c n k ops (⟨some d, .call ⟨.value (.func g), xs.toArray, tys⟩, ty, pos, aft, some (j, b)⟩ :: rest) fr H := by
  intro hf a w ha hw
  refine wpList_step fun K hK => ?_
  have hy : yielded ops a.tmps j = some b := by simp [yielded, hj, ha.at_ t _ hb]
  have hwn : Region.wanted ⟨some d, .call ⟨.value (.func g), xs.toArray, tys⟩, ty, pos, aft, some (j, b)⟩ (yielded ops a.tmps) = true := by simp [Region.wanted, hy]
  simp only [hwn, if_true, Oper.wp, run_callN ha hg he, Oper.upon]
  refine (hc w hw).mono fun e w' h => ?_
  obtain ⟨rfl, h2⟩ := h
  exact hK _ _ (hk hf _ _ (ha.put hd v) (hw.after0 h2 (fun _ he => by cases he)))
end Bw

/- The kit's rules for slices that the call has made: append. No program in sight. -/
namespace Bw
open Go
variable {P : Program} {c : Cx} {n : Nat} {k : List Item} {fr : SF} {H : SH} {ops : Array Oper} {rest : List Oper} {ty : TypeId} {pos : String} {aft : Array Edge}
theorem HF.perm {w0 D w} {H' : SH} (h : HF w0 D H w) (p : H.Perm H') : HF w0 D H' w :=
  ⟨h.size, h.frame, fun e he => h.has e (p.mem_iff.2 he), fun e he => h.wr e (p.mem_iff.2 he), (p.pairwise_iff (fun h => h.symm)).1 h.nd, h.tape, h.os, h.output⟩
/-- a slice value, its length, its cells, the block where they lie -/
inductive Own (e sz : Nat) : Value → Nat → List Value → SH → Prop
  | nil : Own e sz (.slice none 0 0) 0 [] []
  | row {b n cap : Nat} {xs spare : List Value} (hn : xs.length = n * sz) (hc : (xs ++ spare).length = cap * sz) (hle : n ≤ cap) : Own e sz (.slice (some ⟨b, 0, none⟩) n cap) n xs [⟨b, true, .row (xs ++ spare) e (0, 0)⟩]
theorem Own.len {e sz v n xs Hs} (h : Own e sz v n xs Hs) : xs.length = n * sz := by
  cases h with
  | nil => simp
  | row hn _ _ => exact hn
theorem Own.slice {e sz v n xs Hs} (h : Own e sz v n xs Hs) : ∃ ad cap, v = .slice ad n cap := by
  cases h with
  | nil => exact ⟨none, 0, rfl⟩
  | row _ _ _ => exact ⟨_, _, rfl⟩
/-- element i of an owned slice: its address, and what its cells hold -/
theorem Own.at {e sz v n xs Hs} (h : Own e sz v n xs Hs) {i : Nat} (hi : i < n) : ∃ b cap spare, v = .slice (some ⟨b, 0, none⟩) n cap ∧ Hs = [⟨b, true, .row (xs ++ spare) e (0, 0)⟩] := by
  cases h with
  | nil => omega
  | row hn hc hle => exact ⟨_, _, _, rfl, rfl⟩
theorem zeroCells_length (z : Array Value) (n : Nat) : (Builtin.zeroCells z n).size = n * z.size := by simp [Builtin.zeroCells]
theorem setRow_HF {w0 D w} {b : Nat} {l l' : List Value} {t : TypeId} {fz : Nat × Nat} {H' : SH} (h : HF w0 D (⟨b, true, .row l t fz⟩ :: H') w) : HF w0 D (⟨b, true, .row l' t fz⟩ :: H') (w.setRow b l'.toArray) := by
  have hb := h.has _ (.head _)
  have := h.upd (w' := w.setRow b l'.toArray) (e := ⟨b, true, .row l t fz⟩) .z rfl (.row l' t fz) (by simp [World.setRow]) (by
      simp only [Blk.den] at hb ⊢
      simp [World.setRow, Array.getElem?_modify, hb]) (fun x hx => by
      simp only at hx
      simp only [World.setRow]
      rw [Array.getElem?_modify, if_neg (fun e => hx e.symm)]) rfl rfl rfl
  simpa [putE] using this
/-- append(xs, vs...), xs the call's own -/
theorem G.app {T e sz by_ : Nat} {i : TypeInfo} {z : Value} {x y : Operand} {sv : Value} {n0 : Nat} {xs vs : List Value} {Hs H' : SH} {ad : Addr} {m mc d : Nat}
    (hT : P.underlying T = some (.slice e)) (hi : P.info? e = some i) (hz : i.zero = some z) (hsz : i.size = sz) (hby : i.bytes = by_) (hzs : z.cells.size = sz)
    (hx : ev fr x = some sv) (hy : ev fr y = some (.slice (some ad) m mc)) (hown : Own e sz sv n0 xs Hs) (hperm : H.Perm (Hs ++ H'))
    (hsrc : ∀ w, HF c.w0 c.D H w → ∀ j u, vs[j]? = some u → w.cell? (ad.add j) = some u) (hvl : vs.length = m * sz) (h1 : ∀ u ∈ vs, u.oneCell' = true) (hm : 0 < m) (hbd : (n0 + m) * by_ ≤ 140737488355328) (h63 : n0 + m ≤ 9223372036854775807)
    (hd : Nat.blt d n = true)
    (hk : ∀ sv' Hs', Own e sz sv' (n0 + m) (xs ++ vs) Hs' → G P c n k ops rest ((d, sv') :: fr) (H' ++ Hs')) :
    G P c n k ops (⟨some d, .call ⟨.builtin .append, #[x, y], #[T, T]⟩, ty, pos, aft, none⟩ :: rest) fr H := by
  intro hf a w ha hw
  subst hsz
  subst hby
  refine wpList_step fun K hK => ?_
  simp only [Region.wanted, if_true, Oper.wp]
  have hex : ∀ v w', (Builtin.append_ #[T, T] ty #[sv, .slice (some ad) m mc]).run P w = .ok v w' → (execOp a.eval ⟨some d, .call ⟨.builtin .append, #[x, y], #[T, T]⟩, ty, pos, aft, none⟩).run P w = .ok (.value v) w' := by
    intro v w' hr
    simp [execOp, resolve, invoke, builtin, ha.eval hx, ha.eval hy, hr]
  cases hown with
  | nil =>
    have hn0 : 0 + m = m := Nat.zero_add m
    have hr := run_append_nil (P := P) w T ty e i z hT hi hz ad m mc vs hvl (hsrc w hw) hm (by omega) (by rw [hn0] at hbd; omega)
    rw [hex _ _ hr]
    simp only [Oper.upon]
    refine hK _ _ ?_
    have hH : HF c.w0 c.D H' w := hw.perm (by simpa using hperm)
    have hp := ((hH.drew (w.drawn + 1)).push (.row (vs ++ (Builtin.zeroCells z.cells (grownCap w m 0 e - m)).toList) e (0, 0)))
    refine (hk (.slice (some ⟨w.heap.size, 0, none⟩) m (grownCap w m 0 e)) [⟨w.heap.size, true, .row (vs ++ (Builtin.zeroCells z.cells (grownCap w m 0 e - m)).toList) e (0, 0)⟩] ?_) hf _ _ (ha.put hd _) (HF.perm ?_ (List.perm_append_singleton _ _).symm)
    · rw [hn0, List.nil_append]
      have hle : m ≤ grownCap w m 0 e := by simp [grownCap, Question.cut]
      refine .row hvl ?_ hle
      simp [zeroCells_length, hzs, hvl, ← Nat.add_mul]
      rw [Nat.add_sub_cancel' hle]
    · have e3 : (vs ++ (Builtin.zeroCells z.cells (grownCap w m 0 e - m)).toList).toArray = vs.toArray ++ Builtin.zeroCells z.cells (grownCap w m 0 e - m) := by simp
      simp only [Blk.den, e3] at hp
      exact hp
  | row hn hc hle =>
    rename_i b cap spare
    have hw1 : HF c.w0 c.D (⟨b, true, .row (xs ++ spare) e (0, 0)⟩ :: H') w := hw.perm hperm
    have hb := hw1.has _ (.head _)
    simp only [Blk.den] at hb
    by_cases hroom : n0 + m ≤ cap
    · have hfit : n0 * i.size + vs.length ≤ (xs ++ spare).toArray.size := by
        rw [List.size_toArray, hc, hvl, ← Nat.add_mul]
        exact Nat.mul_le_mul_right _ hroom
      have hr := run_append_room (P := P) w T ty e i hT hi b n0 cap (xs ++ spare).toArray hb ad m mc vs hvl (hsrc w hw) h1 hroom hfit
      rw [hex _ _ hr]
      simp only [Oper.upon]
      refine hK _ _ ?_
      have e1 : (xs ++ spare).take (n0 * i.size) = xs := by rw [← hn]; simp
      have e2 : ((xs ++ spare).toArray.toList.take (n0 * i.size) ++ vs ++ (xs ++ spare).toArray.toList.drop (n0 * i.size + vs.length)) = (xs ++ vs) ++ (xs ++ spare).drop (n0 * i.size + vs.length) := by
        simp only [e1]
      rw [e2]
      refine (hk (.slice (some ⟨b, 0, none⟩) (n0 + m) cap) [⟨b, true, .row ((xs ++ vs) ++ (xs ++ spare).drop (n0 * i.size + vs.length)) e (0, 0)⟩] ?_) hf _ _ (ha.put hd _) (HF.perm (setRow_HF hw1) (List.perm_append_singleton _ _).symm)
      refine .row ?_ ?_ hroom
      · simp [hn, hvl, Nat.add_mul]
      · have : (xs ++ spare).length = cap * i.size := hc
        have h3 : n0 * i.size + vs.length ≤ (xs ++ spare).length := by simpa using hfit
        simp only [List.length_append, List.length_drop] at *
        omega
    · have hr := run_append_grow (P := P) w T ty e i z hT hi hz ⟨b, 0, none⟩ n0 cap xs hn (fun j v hj => by
          have := cell_row hw1 (off := j) (v := v) (.head _) (by rw [nth_eq, List.getElem?_append_left (List.getElem?_eq_some_iff.1 hj).1]; exact hj)
          by_cases h0 : j = 0
          · subst h0; simpa [Addr.add] using this
          · simpa [Addr.add, h0] using this) ad m mc vs hvl (hsrc w hw) (by omega) (by omega) (growslice_fits (by omega) hbd)
      rw [hex _ _ hr]
      simp only [Oper.upon]
      refine hK _ _ ?_
      have hH : HF c.w0 c.D H' w := hw1.sub (List.sublist_cons_self _ _)
      have hp := ((hH.drew (w.drawn + 1)).push (.row ((xs ++ vs) ++ (Builtin.zeroCells z.cells (grownCap w (n0 + m) cap e - (n0 + m))).toList) e (0, 0)))
      refine (hk (.slice (some ⟨w.heap.size, 0, none⟩) (n0 + m) (grownCap w (n0 + m) cap e)) [⟨w.heap.size, true, .row ((xs ++ vs) ++ (Builtin.zeroCells z.cells (grownCap w (n0 + m) cap e - (n0 + m))).toList) e (0, 0)⟩] ?_) hf _ _ (ha.put hd _) (HF.perm ?_ (List.perm_append_singleton _ _).symm)
      · have hle2 : n0 + m ≤ grownCap w (n0 + m) cap e := by simp [grownCap, Question.cut]
        refine .row (by simp [hn, hvl, Nat.add_mul]) ?_ hle2
        simp only [List.length_append, Array.length_toList, zeroCells_length, hzs, hn, hvl]
        rw [← Nat.add_mul, ← Nat.add_mul, Nat.add_sub_cancel' hle2]
      · have e3 : ((xs ++ vs) ++ (Builtin.zeroCells z.cells (grownCap w (n0 + m) cap e - (n0 + m))).toList).toArray = xs.toArray ++ vs.toArray ++ Builtin.zeroCells z.cells (grownCap w (n0 + m) cap e - (n0 + m)) := by simp
        simp only [Blk.den, e3] at hp
        exact hp
/-- the source of an append: a row that is known -/
theorem src_row {b : Nat} {wf : Bool} {vs r : List Value} {t : TypeId} {fz : Nat × Nat} (hm : ⟨b, wf, .row (vs ++ r) t fz⟩ ∈ H) : ∀ w, HF c.w0 c.D H w → ∀ j u, vs[j]? = some u → w.cell? ((⟨b, 0, none⟩ : Addr).add j) = some u := by
  intro w hw j u hj
  have := cell_row hw (off := j) (v := u) hm (by rw [nth_eq, List.getElem?_append_left (List.getElem?_eq_some_iff.1 hj).1]; exact hj)
  by_cases h0 : j = 0
  · subst h0; simpa [Addr.add] using this
  · simpa [Addr.add, h0] using this
/-- the slice of one element that is laid for an append -/
def BS (P : Program) (T e : Nat) (v : Value) (vs : List Value) : Prop :=
  ∀ w, (Instr.buildSlice T 1 #[(0, v)]).run P w = .ok (.slice (some ⟨w.heap.size, 0, none⟩) 1 1) { w with heap := w.heap.push (.cells vs.toArray e) }
theorem BS.one {T e : Nat} {z v : Value} (hT : P.underlying T = some (.slice e)) (hs : ∀ w, (Go.sizeOf e).run P w = .ok 1 w) (hz : ∀ w, (zeroValue e).run P w = .ok z w) (hv : v.oneCell' = true) : BS P T e v [v] := by
  intro w
  have hc : v.cells = #[v] := by cases v <;> first | rfl | (simp [Value.oneCell'] at hv)
  have h1 : Array.range 1 = #[0] := rfl
  simp [Instr.buildSlice, underlying, hT, hs, hz, Instr.fill, hc, newRow, h1]
theorem BS.three {T e : Nat} {z a b c : Value} (hT : P.underlying T = some (.slice e)) (hs : ∀ w, (Go.sizeOf e).run P w = .ok 3 w) (hz : ∀ w, (zeroValue e).run P w = .ok z w) : BS P T e (.agg #[a, b, c]) [a, b, c] := by
  intro w
  have h3 : Array.range 3 = #[0, 1, 2] := rfl
  simp [Instr.buildSlice, underlying, hT, hs, hz, Instr.fill, Value.cells, newRow, h3]
theorem G.bs {T e d : Nat} {x : Operand} {v : Value} {vs : List Value} (hb : BS P T e v vs) (hx : ev fr x = some v) (hd : Nat.blt d n = true)
    (hk : ∀ b, c.w0.heap.size ≤ b → G P c n k ops rest ((d, .slice (some ⟨b, 0, none⟩) 1 1) :: fr) (⟨b, true, .row vs e (0, 0)⟩ :: H)) : G P c n k ops (⟨some d, .buildSlice T 1 #[(0, x)], ty, pos, aft, none⟩ :: rest) fr H := by
  refine G.new (kb := .row vs e (0, 0)) (v := fun b => .slice (some ⟨b, 0, none⟩) 1 1) (fun a w ha hw => ?_) hd hk
  simp [execOp, ha.eval hx, hb w, Blk.den]
end Bw

/- A bytes.Buffer in the symbolic heap; calls that write. No program in sight. -/
namespace Bw
open Go
variable {P : Program} {c : Cx} {n : Nat} {k : List Item} {fr : SF} {H : SH} {ops : Array Oper} {rest : List Oper} {ty : TypeId} {pos : String} {aft : Array Edge}
/-- a call whose contract speaks of the symbolic heap -/
theorem G.callW {g : FuncId} {xs : List Operand} {vs : List Value} {tys : Array TypeId} {d : Nat} (J : Value → SH → Prop) (hg : ∀ (args : Array Value) w, (callFunc g args).run P w = .ok (.enter g args) w) (he : evs fr xs = some vs)
    (hd : Nat.blt d n = true) (hc : ∀ w, HF c.w0 c.D H w → Calls P g vs.toArray w (fun e w' => ∃ v H', e = .returned v ∧ HF c.w0 c.D H' w' ∧ J v H'))
    (hk : ∀ v H', J v H' → G P c n k ops rest ((d, v) :: fr) H') :
    G P c n k ops (⟨some d, .call ⟨.value (.func g), xs.toArray, tys⟩, ty, pos, aft, none⟩ :: rest) fr H := by
  intro hf a w ha hw
  refine wpList_step fun K' hK' => ?_
  simp only [Region.wanted, if_true, Oper.wp, run_callN ha hg he, Oper.upon]
  refine (hc w hw).mono fun e w' ⟨v, H', he', h1, h2⟩ => ?_
  subst he'
  exact hK' _ _ (hk v H' h2 hf _ _ (ha.put hd v) h1)
/-- two ways that meet -/
theorem GC.join {i : Item} (J : SF → SH → Prop) (h1 : (∀ fr' H', J fr' H' → GC P c n k fr' H') → GC P c n (i :: k) fr H) (h2 : ∀ fr' H', J fr' H' → GC P c n k fr' H') : GC P c n (i :: k) fr H := h1 h2
/-- a loop, with a measure -/
theorem GC.loopJ {x : Code} (J : Nat → SF → SH → Prop) (N : Nat) (h0 : J N fr H)
    (step : ∀ N fr H, J N fr H → (∀ M fr' H', M < N → J M fr' H' → GC P c n (.inLoop x :: k) fr' H') → GC P c n (.code x :: .inLoop x :: k) fr H) : GC P c n (.code (.loop x) :: k) fr H := by
  have key : ∀ M N, N ≤ M → ∀ fr H, J N fr H → GC P c n (.code x :: .inLoop x :: k) fr H := by
    intro M
    induction M with
    | zero => exact fun N hN fr H hJ => step N fr H hJ fun M _ _ hM _ => by omega
    | succ M ih => exact fun N hN fr H hJ => step N fr H hJ fun M' fr' H' hM hJ' => GC.inLoop (ih M' (by omega) fr' H' hJ')
  exact GC.loop (key N N (Nat.le_refl _) fr H h0)
abbrev bC (l : List UInt8) : List Value := Lib.byteCells l
theorem bC_app (a b : List UInt8) : bC (a ++ b) = bC a ++ bC b := by simp [bC, Lib.byteCells]
theorem bC_len (a : List UInt8) : (bC a).length = a.length := by simp [bC, Lib.byteCells]
theorem bC_one (a : List UInt8) : ∀ v ∈ bC a, v.oneCell' = true := by
  intro v hv
  simp only [bC, Lib.byteCells, List.mem_map] at hv
  obtain ⟨x, _, rfl⟩ := hv
  rfl
/-- a buffer that has only been written -/
inductive Buf (T e : TypeId) (N b : Nat) (bs : List UInt8) : SH → Prop
  | nil {lr : Int} (hb : N ≤ b) (h : bs = []) : Buf T e N b bs [⟨b, true, .row [.slice none 0 0, .int .i64 0, .int .i8 lr] T (0, 0)⟩]
  | row {lr : Int} {g cap : Nat} {spare : List Value} (hb : N ≤ b) (hg : N ≤ g) (hne : b ≠ g) (hle : bs.length ≤ cap) (hm : cap ≤ maxLen) (hc : (bC bs ++ spare).length = cap) :
      Buf T e N b bs [⟨b, true, .row [.slice (some ⟨g, 0, none⟩) bs.length cap, .int .i64 0, .int .i8 lr] T (0, 0)⟩, ⟨g, true, .row (bC bs ++ spare) e (0, 0)⟩]
theorem Buf.is {T e N b : Nat} {bs : List UInt8} {HB : SH} {w0 D w} (h : Buf T e N b bs HB) (hw : HF w0 D (HB ++ H) w) : Lib.IsBuffer T e N b (bC bs) w := by
  cases h with
  | nil hb he =>
    subst he
    refine ⟨hb, _, _, hw.has _ (.head _), World.ownsRow_nil _ _ _ _, by simp [Value.ownBlock]⟩
  | row hb hg hne hle hm hc =>
    rename_i lr g cap spare
    have hgw := hw.has ⟨g, true, .row (bC bs ++ spare) e (0, 0)⟩ (by simp)
    refine ⟨hb, _, _, hw.has ⟨b, true, .row [.slice (some ⟨g, 0, none⟩) bs.length cap, .int .i64 0, .int .i8 lr] T (0, 0)⟩ (by simp), ?_, by simp [Value.ownBlock]; exact fun h => hne h.symm⟩
    refine ⟨by simp, .inr ⟨g, cap, _, by rw [bC_len], hg, hgw, by rw [bC_len]; exact hle, hm, by simpa using hc, by simp⟩⟩
theorem Buf.of {T e N b : Nat} {bs : List UInt8} {w : World} (h : Lib.IsBuffer T e N b (bC bs) w) : ∃ HB, Buf T e N b bs HB ∧ (∀ x ∈ HB, w.heap[x.b]? = some x.k.den) ∧ HB.Pairwise (fun x y => x.b ≠ y.b) := by
  obtain ⟨hb, v, lr, hbw, ⟨_, hv⟩, hne⟩ := h
  rcases hv with ⟨rfl, h0⟩ | ⟨g, cap, cur, rfl, hg, hgw, hle, hm, hsz, htk⟩
  · refine ⟨_, .nil (lr := lr) hb (List.length_eq_zero_iff.1 (by rw [bC_len] at h0; exact h0)), ?_, List.pairwise_singleton _ _⟩
    intro x hx
    simp only [List.mem_singleton] at hx
    subst hx
    exact hbw
  · have hcur : cur.toList = bC bs ++ cur.toList.drop (bC bs).length := by
      conv => lhs; rw [← List.take_append_drop (bC bs).length cur.toList]
      rw [← htk]
      congr 1
      simp
    have hne' : b ≠ g := fun e => hne (by simp [Value.ownBlock, e])
    refine ⟨_, .row (lr := lr) (g := g) (cap := cap) (spare := cur.toList.drop (bC bs).length) hb hg hne' (by rw [bC_len] at hle; exact hle) hm (by rw [← hcur]; simpa using hsz), ?_, ?_⟩
    · intro x hx
      simp only [List.mem_cons, List.not_mem_nil, or_false] at hx
      rcases hx with rfl | rfl
      · rw [bC_len] at hbw; exact hbw
      · simp only [Blk.den]
        rw [← hcur]
        simpa using hgw
    · exact List.pairwise_cons.2 ⟨fun y hy => by simp only [List.mem_singleton] at hy; subst hy; exact hne', List.pairwise_singleton _ _⟩
theorem Buf.ge {T e N b : Nat} {bs : List UInt8} {HB : SH} (h : Buf T e N b bs HB) : ∀ x ∈ HB, N ≤ x.b := by
  cases h with
  | nil hb _ => intro x hx; simp only [List.mem_singleton] at hx; subst hx; exact hb
  | row hb hg _ _ _ _ =>
    intro x hx
    simp only [List.mem_cons, List.not_mem_nil, or_false] at hx
    rcases hx with rfl | rfl
    · exact hb
    · exact hg
/-- entries that a buffer's growth leaves alone -/
def NoRow (e : TypeId) (N : Nat) (H : SH) : Prop := ∀ x ∈ H, x.b < N ∨ ∀ c fz, x.k.den ≠ .cells c e fz
theorem NoRow.cons {e N : Nat} {x : Ent} {H : SH} (h1 : x.b < N ∨ ∀ c fz, x.k.den ≠ .cells c e fz) (h : NoRow e N H) : NoRow e N (x :: H) := fun y hy => by
  rcases List.mem_cons.1 hy with rfl | hy
  · exact h1
  · exact h y hy
theorem NoRow.nil {e N : Nat} : NoRow e N [] := fun _ h => by cases h
theorem NoRow.app {e N : Nat} {H H' : SH} (h1 : NoRow e N H) (h2 : NoRow e N H') : NoRow e N (H ++ H') := fun y hy => by
  rcases List.mem_append.1 hy with hy | hy
  · exact h1 y hy
  · exact h2 y hy
theorem Buf.kept {T e b : Nat} {bs bs' : List UInt8} {HB : SH} {w0 D w w'} (hB : Buf T e w0.heap.size b bs HB) (hw : HF w0 D (HB ++ H) w) (hn : NoRow e w0.heap.size H) (h1 : Lib.IsBuffer T e w0.heap.size b (bC bs') w')
    (h2 : RowKit.Below w0.heap.size w w') (h3 : Lib.OthersKept e (some b) w w') : ∃ HB', Buf T e w0.heap.size b bs' HB' ∧ HF w0 D (HB' ++ H) w' := by
  obtain ⟨HB', b1, b2, b3⟩ := Buf.of h1
  have hbb : ∀ x ∈ H, x.b ≠ b := by
    have := List.pairwise_append.1 hw.nd
    intro x hx e
    have hbm : ∃ y ∈ HB, y.b = b := by cases hB with
      | nil _ _ => exact ⟨_, .head _, rfl⟩
      | row _ _ _ _ _ _ => exact ⟨_, .head _, rfl⟩
    obtain ⟨y, hy, rfl⟩ := hbm
    exact this.2.2 y hy x hx e.symm
  have hkeep : ∀ x ∈ H, w'.heap[x.b]? = some x.k.den := by
    intro x hx
    have h := hw.has x (List.mem_append_right _ hx)
    rcases hn x hx with hlt | hno
    · rw [h2.block _ hlt]; exact h
    · exact h3 x.b _ h (fun e => hbb x hx (Option.some.inj e)) hno
  refine ⟨HB', b1, Nat.le_trans hw.size h2.size, fun i hi hD => ?_, fun x hx => ?_, fun x hx hxw => ?_, ?_, h2.tape.trans hw.tape, h2.os.trans hw.os, h2.output.trans hw.output⟩
  · rw [h2.block i hi]; exact hw.frame i hi hD
  · rcases List.mem_append.1 hx with hx | hx
    · exact b2 x hx
    · exact hkeep x hx
  · rcases List.mem_append.1 hx with hx | hx
    · exact .inr (b1.ge x hx)
    · exact hw.wr x (List.mem_append_right _ hx) hxw
  · refine List.pairwise_append.2 ⟨b3, (List.pairwise_append.1 hw.nd).2.1, fun x hx y hy e => ?_⟩
    have hy' := hkeep y hy
    have hge := b1.ge x hx
    rcases hn y hy with hlt | hno
    · omega
    · cases b1 with
      | nil _ _ =>
        simp only [List.mem_singleton] at hx
        subst hx
        exact hbb y hy e.symm
      | row _ _ _ _ _ _ =>
        simp only [List.mem_cons, List.not_mem_nil, or_false] at hx
        rcases hx with rfl | rfl
        · exact hbb y hy e.symm
        · have hgx := b2 _ (.tail _ (.head _))
          rw [e, hy'] at hgx
          exact hno _ _ (Option.some.inj hgx)
/-- the shape of WriteString's contract -/
def WSpec (P : Program) (f : FuncId) (T e : TypeId) : Prop :=
  ∀ (B b : Nat) (bs : List Value) (s : ByteArray) (w : World), Lib.IsBuffer T e B b bs w → B ≤ w.heap.size → (∀ v ∈ bs, v.oneCell' = true) → bs.length + s.size ≤ 140737488355328 →
    Calls P f #[.pointer (some ⟨b, 0, none⟩), .string s] w fun e' w' => e' = .returned (.tuple #[.int .i64 s.size, .nilIface]) ∧ Lib.IsBuffer T e B b (bs ++ Lib.byteCells s.data.toList) w' ∧ RowKit.Below B w w' ∧ Lib.OthersKept e (some b) w w'
theorem G.ws {f T e : Nat} (hws : WSpec P f T e) (hg : ∀ (args : Array Value) w, (callFunc f args).run P w = .ok (.enter f args) w) {x y : Operand} {b : Nat} {bs s : List UInt8} {HB : SH} {tys : Array TypeId} {d : Nat} (hx : ev fr x = some (Pt b 0)) (hy : ev fr y = some (S s))
    (hd : Nat.blt d n = true) (hB : Buf T e c.w0.heap.size b bs HB) (hn : NoRow e c.w0.heap.size H) (hl : bs.length + s.length ≤ 140737488355328)
    (hk : ∀ HB', Buf T e c.w0.heap.size b (bs ++ s) HB' → G P c n k ops rest ((d, .tuple #[.int .i64 s.length, .nilIface]) :: fr) (HB' ++ H)) :
    G P c n k ops (⟨some d, .call ⟨.value (.func f), #[x, y], tys⟩, ty, pos, aft, none⟩ :: rest) fr (HB ++ H) := by
  refine G.callW (xs := [x, y]) (vs := [Pt b 0, S s]) (fun v H' => v = .tuple #[.int .i64 s.length, .nilIface] ∧ ∃ HB', Buf T e c.w0.heap.size b (bs ++ s) HB' ∧ H' = HB' ++ H) hg (by simp [evs, hx, hy]) hd (fun w hw => ?_) (fun v H' ⟨h1, HB', h2, h3⟩ => ?_)
  · refine (hws c.w0.heap.size b (bC bs) ⟨s.toArray⟩ w (hB.is hw) hw.size (bC_one bs) (by rw [bC_len]; simpa [ByteArray.size] using hl)).mono fun e' w' ⟨h1, h2, h3, h4⟩ => ?_
    have h2' : Lib.IsBuffer T e c.w0.heap.size b (bC (bs ++ s)) w' := by rw [bC_app]; simpa using h2
    obtain ⟨HB', b1, b2⟩ := hB.kept hw hn h2' h3 h4
    exact ⟨_, _, h1, b2, by simp [ByteArray.size], HB', b1, rfl⟩
  · subst h1; subst h3
    exact hk HB' h2
end Bw

/- More rules: stores of structs, calls in regions that draw. No program in sight. -/
namespace Bw
open Go
variable {P : Program} {c : Cx} {n : Nat} {k : List Item} {fr : SF} {H : SH} {ops : Array Oper} {rest : List Oper} {ty : TypeId} {pos : String} {aft : Array Edge}
theorem HF.setRow {w0 D w} (h : HF w0 D H w) {i b : Nat} {l l' : List Value} {t : TypeId} {fz : Nat × Nat} (hi : At i ⟨b, true, .row l t fz⟩ H) : HF w0 D (putE (.row l' t fz) i H) (w.setRow b l'.toArray) := by
  have hb := h.has _ hi.mem
  refine h.upd hi rfl (.row l' t fz) (by simp [World.setRow]) ?_ (fun x hx => ?_) rfl rfl rfl
  · simp only [Blk.den] at hb ⊢
    simp [World.setRow, Array.getElem?_modify, hb]
  · simp only at hx
    simp only [World.setRow]
    rw [Array.getElem?_modify, if_neg (fun e => hx e.symm)]
/-- a store of all the cells of a row -/
theorem G.stA {t : TypeId} {x y : Operand} {b i : Nat} {l cs : List Value} {T : TypeId} (hs : ∀ w, (Go.sizeOf t).run P w = .ok cs.length w) (hx : ev fr x = some (Pt b 0)) (hy : ev fr y = some (.agg cs.toArray)) (h1 : ∀ v ∈ cs, v.oneCell' = true)
    (hi : At i ⟨b, true, .row l T (0, 0)⟩ H) (hl : l.length = cs.length) (hk : G P c n k ops rest fr (putE (.row cs T (0, 0)) i H)) : G P c n k ops (⟨none, .store t x y, ty, pos, aft, none⟩ :: rest) fr H := by
  refine G.effN (fun a w ha hw => ⟨w.setRow b cs.toArray, ?_, hw.setRow hi⟩) hk
  have hb := hw.has _ hi.mem
  simp only [Blk.den] at hb
  have hr := run_storeCells_from (P := P) b T cs 0 l.toArray w hb (by simp [hl]) h1
  simp only [List.take_zero, List.nil_append] at hr
  simp [execOp, ha.eval hx, ha.eval hy, Instr.storeAt, Instr.sureAddr, storeVar, hs, Value.cells, hr]
end Bw
