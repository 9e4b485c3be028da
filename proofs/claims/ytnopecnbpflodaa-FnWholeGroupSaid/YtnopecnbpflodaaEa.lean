/- The tree as a plain thing, and how it lies in memory; pieces of the function that adds a route. -/
import Derived.Test.YtnopecnbpflodaaKp
import Derived.Test.YtnopecnbpflodaaKb
import Derived.Test.YtnopecnbpflodaaKa
/- gin's tree, without addresses: what addRoute makes of it. No program in sight. -/
namespace Gt
open Gs
/-- a node: a: what is noted on it; nt: 0 static, 1 root, 2 param, 3 catchAll -/
inductive Tr (α : Type) where
  | node (a : α) (path idx : List UInt8) (wild : Bool) (nt pr : Nat) (h : Option Nat) (full : List UInt8) (kids : List (Tr α))
variable {α : Type}
namespace Tr
def an : Tr α → α | node a _ _ _ _ _ _ _ _ => a
def path : Tr α → List UInt8 | node _ p _ _ _ _ _ _ _ => p
def idx : Tr α → List UInt8 | node _ _ i _ _ _ _ _ _ => i
def wild : Tr α → Bool | node _ _ _ w _ _ _ _ _ => w
def nt : Tr α → Nat | node _ _ _ _ n _ _ _ _ => n
def pr : Tr α → Nat | node _ _ _ _ _ p _ _ _ => p
def h : Tr α → Option Nat | node _ _ _ _ _ _ h _ _ => h
def full : Tr α → List UInt8 | node _ _ _ _ _ _ _ f _ => f
def kids : Tr α → List (Tr α) | node _ _ _ _ _ _ _ _ k => k
def setPr : Tr α → Nat → Tr α | node a p i w n _ h f k, q => node a p i w n q h f k
def setKids : Tr α → List (Tr α) → Tr α | node a p i w n q h f _, k => node a p i w n q h f k
def incr (t : Tr α) : Tr α := t.setPr (t.pr + 1)
end Tr
open Tr
abbrev T0 := Tr Unit
/-- findWildcard, where there is no backslash: the wildcard and where it begins -/
def fw : List UInt8 → Nat → Option (List UInt8 × Nat)
  | [], _ => none
  | c :: s, i => if c = 58 ∨ c = 42 then some (c :: s.takeWhile (· ≠ 47), i) else fw s (i + 1)
/-- addChild -/
def addKid (wild : Bool) (kids : List (Tr α)) (k : Tr α) : List (Tr α) :=
  if wild ∧ kids ≠ [] then kids.dropLast ++ [k] ++ kids.getLast?.toList else kids ++ [k]
/-- where a child of this priority moves to -/
def newPos (prs : List Nat) (prio : Nat) : Nat → Nat
  | 0 => 0
  | p + 1 => if prs.getD p 0 % 4294967296 < prio % 4294967296 then newPos prs prio p else p + 1
/-- the element at place pos moves to place np ≤ pos -/
def moveTo {β : Type} (l : List β) (pos np : Nat) : List β := l.take np ++ (l.drop pos).take 1 ++ (l.take pos).drop np ++ l.drop (pos + 1)
/-- incrementChildPrio: the children, the indices, the new place -/
def bump (idx : List UInt8) (kids : List (Tr α)) (pos : Nat) : List UInt8 × List (Tr α) × Nat :=
  let kids1 := kids.modify pos incr
  let prio := ((kids1[pos]?).map pr).getD 0
  let np := newPos (kids1.map pr) prio pos
  (if np ≠ pos then moveTo idx pos np else idx, moveTo kids1 pos np, np)
/-- insertChild on a node: none: not told; some none: a panic; else the node made of it -/
def insT : Nat → T0 → List UInt8 → List UInt8 → Nat → Option (Option T0)
  | 0, _, _, _, _ => none
  | n + 1, .node a tp idx w nt pr h0 f0 kids, path, full, h =>
    match fw path 0 with
    | none => some (some (.node a path idx w nt pr (some h) full kids))
    | some (wc, i) =>
      if wc.length < 2 then some none
      else if wc.head? = some 58 then
        let tp' := if 0 < i then path.take i else tp
        let path' := path.drop i
        let rest := path'.drop wc.length
        if wc.length < path'.length then
          (insT n (.node () [] [] false 0 1 none full []) rest full h).map fun r => r.map fun c2 =>
            .node a tp' idx true nt pr h0 f0 (addKid w kids (.node () wc [] false 2 1 none full [c2]))
        else some (some (.node a tp' idx true nt pr h0 f0 (addKid w kids (.node () wc [] false 2 1 (some h) full []))))
      else if i + wc.length ≠ path.length then some none
      else if tp.getLast? = some 47 then some none
      else if i = 0 ∨ path[i - 1]? ≠ some 47 then some none
      else some (some (.node a (path.take (i - 1)) [47] w nt pr h0 f0 (addKid w kids (.node () [] [] true 3 1 none full [.node () (path.drop (i - 1)) [] false 3 1 (some h) full []]))))
/-- an edge is split behind i bytes -/
def split (t : Tr α) (a : α) (i : Nat) (full : List UInt8) : Tr α :=
  .node t.an (t.path.take i) ((t.path.drop i).take 1) false t.nt t.pr none full [.node a (t.path.drop i) t.idx t.wild 0 (t.pr + 4294967295) t.h t.full t.kids]
def idxOf (c : UInt8) : List UInt8 → Option Nat
  | [] => none
  | d :: l => if c = d then some 0 else (idxOf c l).map (· + 1)
/-- addRoute's loop; none: not told; some none: a panic -/
def walkT : Nat → T0 → List UInt8 → List UInt8 → Nat → Nat → Option (Option T0)
  | 0, _, _, _, _, _ => none
  | n + 1, t0, path, full, pfi, h =>
    let i := lcp path t0.path
    let t := if i < t0.path.length then split t0 () i (full.take (pfi + i)) else t0
    match path.drop i with
    | [] => if t.h.isSome then some none else some (some (.node () t.path t.idx t.wild t.nt t.pr (some h) full t.kids))
    | c :: rest =>
      let path' := c :: rest
      if t.nt = 2 ∧ c = 47 ∧ t.kids.length = 1 then
        match t.kids with
        | [k] => (walkT n k.incr path' full (pfi + t.path.length) h).map fun r => r.map fun k' => t.setKids [k']
        | _ => none
      else match idxOf c t.idx with
      | some j =>
        let b := bump t.idx t.kids j
        match b.2.1[b.2.2]? with
        | some k => (walkT n k path' full (pfi + t.path.length) h).map fun r => r.map fun k' => .node () t.path b.1 t.wild t.nt t.pr t.h t.full (b.2.1.set b.2.2 k')
        | none => none
      | none =>
        if c ≠ 58 ∧ c ≠ 42 ∧ t.nt ≠ 3 then
          let idx' := t.idx ++ [c]
          let kids' := addKid t.wild t.kids (.node () [] [] false 0 0 none full [])
          let b := bump idx' kids' (idx'.length - 1)
          match b.2.1[b.2.2]? with
          | some k => (insT (path'.length + 1) k path' full h).map fun r => r.map fun k' => .node () t.path b.1 t.wild t.nt t.pr t.h t.full (b.2.1.set b.2.2 k')
          | none => none
        else if t.wild then
          match t.kids.getLast? with
          | some k0 =>
            let k := k0.incr
            if k.path.length ≤ path'.length ∧ path'.take k.path.length = k.path ∧ k.nt ≠ 3 ∧ (path'.length ≤ k.path.length ∨ path'[k.path.length]? = some 47) then
              (walkT n k path' full pfi h).map fun r => r.map fun k' => t.setKids (t.kids.dropLast ++ [k'])
            else some none
          | none => none
        else insT (path'.length + 1) t path' full h
/-- addRoute -/
def addT (t : T0) (path : List UInt8) (h : Nat) : Option (Option T0) :=
  let t := t.incr
  if t.path = [] ∧ t.kids = [] then (insT (path.length + 1) t path path h).map fun r => r.map fun t' => .node () t'.path t'.idx t'.wild 1 t'.pr t'.h t'.full t'.kids
  else walkT (4 * path.length + 8) t path path 0 h
def new : T0 := .node () [] [] false 0 0 none [47] []
/-- a list of routes, the numbers from k on: the tree, or the place of the first that is refused -/
def addAll : T0 → List (List UInt8) → Nat → T0 ⊕ Nat
  | t, [], _ => .inl t
  | t, r :: l, k => match addT t r (k + 1) with
    | some (some t') => addAll t' l (k + 1)
    | _ => .inr k
/-! getValue -/
structure Sk where
  path : List UInt8
  node : T0
  cnt : Nat
structure Res where
  h : Option Nat
  ps : List (List UInt8 × List UInt8)
  tsr : Bool
  full : List UInt8
def noIdx : T0 → T0 | .node a p _ w n q h f k => .node a p [] w n q h f k
/-- the last of the skipped ones whose path ends so; what is left of them -/
def pop (path : List UInt8) : List Sk → Option (Sk × List Sk)
  | [] => none
  | s :: l => if path <:+ s.path then some (s, l) else pop path l
end Gt

/- gin's tree in memory. -/
set_option maxRecDepth 20000
namespace Go.Proofs
open Go Bw Gt
def nodeR (path idx : List UInt8) (wild : Bool) (nt pr : Nat) (kv hv : Value) (full : List UInt8) : List Value := [S path, S idx, .bool wild, .int .u8 (nt : Int), .int .u32 ((pr % 4294967296 : Nat) : Int), kv, hv, S full]
theorem nodeR_one {path idx wild nt pr kv hv full} (h1 : kv.oneCell' = true) (h2 : hv.oneCell' = true) : ∀ v ∈ nodeR path idx wild nt pr kv hv full, v.oneCell' = true := by
 intro v hm
 simp only [nodeR, List.mem_cons, List.not_mem_nil, or_false] at hm
 rcases hm with rfl | rfl | rfl | rfl | rfl | rfl | rfl | rfl <;> first | rfl | exact h1 | exact h2
/-- handlers: none, or a number in a row of its own -/
inductive HV : Option Nat → Value → SH → Prop
 | nil : HV none (.slice none 0 0) []
 | row {k hb : Nat} : HV (some k) (.slice (some ⟨hb, 0, none⟩) 1 1) [⟨hb, true, .row [I (k : Int)] 3 (0, 0)⟩]
theorem HV.slice {h v H} (x : HV h v H) : ∃ ad l c, v = .slice ad l c ∧ ad.isNone = h.isNone := by
 cases x with
 | nil => exact ⟨_, _, _, rfl, rfl⟩
 | row => exact ⟨_, _, _, rfl, rfl⟩
theorem HV.one {h v H} (x : HV h v H) : v.oneCell' = true := by cases x <;> rfl
theorem HV.w {h v H} (x : HV h v H) : ∀ e ∈ H, e.w = true := by
 cases x with
 | nil => intro e he; cases he
 | row => intro e he; rw [List.mem_singleton.1 he]
mutual
inductive HT : T0 → Nat → SH → Prop
 | mk {path idx : List UInt8} {wild : Bool} {nt pr : Nat} {h : Option Nat} {full : List UInt8} {kids : List T0} {nb : Nat} {bs : List Nat} {kv hv : Value} {Hs Hh Hk : SH}
   (hs : Own 89 1 kv kids.length (bs.map (Pt · 0)) Hs) (hh : HV h hv Hh) (hk : HTs kids bs Hk) : HT (.node () path idx wild nt pr h full kids) nb (⟨nb, true, .row (nodeR path idx wild nt pr kv hv full) 107 (0, 0)⟩ :: (Hs ++ (Hh ++ Hk)))
inductive HTs : List T0 → List Nat → SH → Prop
 | nil : HTs [] [] []
 | cons {t : T0} {b : Nat} {H : SH} {ts : List T0} {bs : List Nat} {Hs : SH} (h : HT t b H) (hs : HTs ts bs Hs) : HTs (t :: ts) (b :: bs) (H ++ Hs)
end
theorem Own.slice1 {e sz v n xs Hs} (h : Own e sz v n xs Hs) : v.oneCell' = true := by cases h <;> rfl
theorem HTs.len {ts bs H} : HTs ts bs H → bs.length = ts.length
 | .nil => rfl
 | .cons _ hs => by simp [hs.len]
theorem HTs.app : ∀ {ts : List T0} {bs : List Nat} {H : SH} {ts' : List T0} {bs' : List Nat} {H' : SH}, HTs ts bs H → HTs ts' bs' H' → HTs (ts ++ ts') (bs ++ bs') (H ++ H')
 | _, _, _, _, _, _, .nil, h => h
 | _, _, _, _, _, _, .cons h hs, h' => by
  rw [List.append_assoc]; exact .cons h (hs.app h')
theorem HTs.split : ∀ (n : Nat) {ts : List T0} {bs : List Nat} {H : SH}, HTs ts bs H → ∃ H1 H2, HTs (ts.take n) (bs.take n) H1 ∧ HTs (ts.drop n) (bs.drop n) H2 ∧ H = H1 ++ H2
 | 0, _, _, H, h => ⟨[], H, .nil, h, rfl⟩
 | n + 1, _, _, _, .nil => ⟨[], [], by simpa using .nil, by simpa using .nil, rfl⟩
 | n + 1, _, _, _, .cons (H := H) h hs => by
  obtain ⟨H1, H2, a, b, c⟩ := hs.split n
  exact ⟨H ++ H1, H2, .cons h a, b, by rw [c, List.append_assoc]⟩
/-- one of them -/
theorem HTs.foc {ts bs H} (h : HTs ts bs H) {j : Nat} {k : T0} (hj : ts[j]? = some k) : ∃ b H1 H2, bs[j]? = some b ∧ HT k b H1 ∧ H.Perm (H1 ++ H2) ∧ ∀ k' H1', HT k' b H1' → ∃ H', HTs (ts.set j k') bs H' ∧ H'.Perm (H1' ++ H2) := by
 have hlt : j < ts.length := (List.getElem?_eq_some_iff.1 hj).1
 have hlb : j < bs.length := by rw [h.len]; exact hlt
 have hts : ts = ts.take j ++ k :: ts.drop (j + 1) := by
  conv => lhs; rw [← List.take_append_drop j ts]
  rw [List.drop_eq_getElem_cons hlt]
  rw [List.getElem?_eq_getElem hlt] at hj
  rw [Option.some.inj hj]
 have hbs : bs = bs.take j ++ bs[j] :: bs.drop (j + 1) := by
  conv => lhs; rw [← List.take_append_drop j bs]
  rw [List.drop_eq_getElem_cons hlb]
 obtain ⟨A, B, h1, h2, rfl⟩ := h.split j
 rw [List.drop_eq_getElem_cons hlt, List.drop_eq_getElem_cons hlb] at h2
 rw [List.getElem?_eq_getElem hlt] at hj
 rw [Option.some.inj hj] at h2
 cases h2 with
 | cons hk hr =>
  rename_i K R
  refine ⟨bs[j], K, A ++ R, List.getElem?_eq_getElem hlb, hk, ?_, fun k' H1' hk' => ⟨A ++ (H1' ++ R), ?_, ?_⟩⟩
  ·exact List.perm_append_comm_assoc _ _ _
  ·have := h1.app (.cons hk' hr)
   rw [← hbs] at this
   have e : ts.set j k' = ts.take j ++ k' :: ts.drop (j + 1) := by
    rw [List.set_eq_take_append_cons_drop, if_pos hlt]
   rw [e]; exact this
  ·exact List.perm_append_comm_assoc _ _ _
theorem HTs.one {t b H} (h : HT t b H) : HTs [t] [b] H := by have := HTs.cons h .nil; rwa [List.append_nil] at this
theorem HTs.move {ts bs H} (h : HTs ts bs H) {pos np : Nat} (hnp : np ≤ pos) : ∃ H', HTs (moveTo ts pos np) (moveTo bs pos np) H' ∧ H'.Perm H := by
 obtain ⟨A, B, h1, h2, e1⟩ := h.split pos
 obtain ⟨A1, A2, h3, h4, e2⟩ := h1.split np
 obtain ⟨B1, B2, h5, h6, e3⟩ := h2.split 1
 rw [List.take_take, Nat.min_eq_left hnp] at h3
 rw [List.take_take, Nat.min_eq_left hnp] at h3
 rw [List.drop_drop] at h6
 rw [List.drop_drop] at h6
 refine ⟨A1 ++ B1 ++ A2 ++ B2, ((h3.app h5).app h4).app h6, ?_⟩
 rw [e1, e2, e3]
 simp only [List.append_assoc]
 exact (List.perm_append_comm_assoc B1 A2 B2).append_left A1
theorem HT.w : ∀ {t b H}, HT t b H → ∀ e ∈ H, e.w = true := by
 intro t b H h
 refine HT.rec (motive_1 := fun t b H _ => ∀ e ∈ H, e.w = true) (motive_2 := fun ts bs H _ => ∀ e ∈ H, e.w = true) ?_ ?_ ?_ h
 ·intro path idx wild nt pr h full kids nb bs kv hv Hs Hh Hk hs hh hk ih e he
  simp only [List.mem_cons, List.mem_append] at he
  rcases he with rfl | he | he | he
  ·rfl
  ·exact hs.w e he
  ·exact hh.w e he
  ·exact ih e he
 ·intro e he; cases he
 ·intro t b H ts bs Hs h hs ih1 ih2 e he
  rcases List.mem_append.1 he with he | he
  ·exact ih1 e he
  ·exact ih2 e he
theorem HTs.w {ts bs H} (h : HTs ts bs H) : ∀ e ∈ H, e.w = true := by
 refine HTs.rec (motive_1 := fun t b H _ => ∀ e ∈ H, e.w = true) (motive_2 := fun ts bs H _ => ∀ e ∈ H, e.w = true) ?_ ?_ ?_ h
 ·intro path idx wild nt pr h full kids nb bs kv hv Hs Hh Hk hs hh hk ih e he
  simp only [List.mem_cons, List.mem_append] at he
  rcases he with rfl | he | he | he
  ·rfl
  ·exact hs.w e he
  ·exact hh.w e he
  ·exact ih e he
 ·intro e he; cases he
 ·intro t b H ts bs Hs h hs ih1 ih2 e he
  rcases List.mem_append.1 he with he | he
  ·exact ih1 e he
  ·exact ih2 e he
theorem cellB {w : World} {b off : Nat} {l : List Value} {t : TypeId} {fz : Nat × Nat} {v : Value} (h : w.heap[b]? = some (Blk.den (.row l t fz))) (hv : nth l off = some v) : w.cell? ⟨b, off, none⟩ = some v := by
 simp only [Blk.den] at h
 simp only [World.cell?, h]
 rw [nth_eq] at hv
 simp [hv]
theorem BS2 {P : Program} {T e : Nat} {z a b : Value} (hT : P.underlying T = some (.slice e)) (hs : ∀ w, (Go.sizeOf e).run P w = .ok 1 w) (hz : ∀ w, (zeroValue e).run P w = .ok z w) (ha : a.oneCell' = true) (hb : b.oneCell' = true) (w : World) :
  (Instr.buildSlice T 2 [(0, a), (1, b)].toArray).run P w = .ok (.slice (some ⟨w.heap.size, 0, none⟩) 2 2) { w with heap := w.heap.push (.cells [a, b].toArray e) } := by
 have hc : a.cells = #[a] := by cases a <;> first | rfl | (simp [Value.oneCell'] at ha)
 have hc2 : b.cells = #[b] := by cases b <;> first | rfl | (simp [Value.oneCell'] at hb)
 have h1 : Array.range 2 = #[0, 1] := rfl
 simp [Instr.buildSlice, underlying, hT, hs, hz, Instr.fill, hc, hc2, newRow, h1]
theorem BS1 {P : Program} {T e : Nat} {z v : Value} (hT : P.underlying T = some (.slice e)) (hs : ∀ w, (Go.sizeOf e).run P w = .ok 1 w) (hz : ∀ w, (zeroValue e).run P w = .ok z w) (hv : v.oneCell' = true) (w : World) :
  (Instr.buildSlice T 1 [(0, v)].toArray).run P w = .ok (.slice (some ⟨w.heap.size, 0, none⟩) 1 1) { w with heap := w.heap.push (.cells [v].toArray e) } := BS.one hT hs hz hv w
/-- addChild on the blocks -/
def addB (wild : Bool) (bs : List Nat) (cb : Nat) : List Nat := if wild = true ∧ bs ≠ [] then bs.dropLast ++ [cb] ++ bs.getLast?.toList else bs ++ [cb]
theorem lastD {α : Type} (l : List α) : l.getLast?.toList = l.drop (l.length - 1) := by
 rcases List.eq_nil_or_concat l with rfl | ⟨p, x, rfl⟩
 ·rfl
 ·simp
theorem HTs.add {wild : Bool} {ts : List T0} {bs : List Nat} {H : SH} (h : HTs ts bs H) {t : T0} {b : Nat} {Ht : SH} (ht : HT t b Ht) : ∃ H', HTs (addKid wild ts t) (addB wild bs b) H' ∧ H'.Perm (Ht ++ H) := by
 have hl := h.len
 by_cases hc : wild = true ∧ ts ≠ []
 ·have hb : bs ≠ [] := fun e => hc.2 (by rw [e] at hl; exact List.length_eq_zero_iff.1 hl.symm)
  rw [addKid, if_pos hc, addB, if_pos ⟨hc.1, hb⟩]
  obtain ⟨A, B, h1, h2, rfl⟩ := h.split (ts.length - 1)
  have e1 := lastD ts
  have e2 := lastD bs
  rw [hl] at e2
  rw [List.dropLast_eq_take, List.dropLast_eq_take, e1, e2, hl]
  refine ⟨_, (h1.app (HTs.one ht)).app h2, ?_⟩
  rw [List.append_assoc]
  exact List.perm_append_comm_assoc _ _ _
 ·have hb : ¬ (wild = true ∧ bs ≠ []) := fun h1 => hc ⟨h1.1, fun e => h1.2 (by rw [e] at hl; exact List.length_eq_zero_iff.1 hl)⟩
  rw [addKid, if_neg hc, addB, if_neg hb]
  exact ⟨_, h.app (HTs.one ht), List.perm_append_comm⟩
end Go.Proofs

/- addChild. Printed by wip/mk_gu3.py. -/
set_option maxRecDepth 20000
namespace Go.Proofs
open Go Bw
theorem _root_.Bw.Own.cut {e sz n cap i : Nat} {ad : Option Addr} {xs : List Value} {Hs : SH} (h : Own e sz (.slice ad n cap) n xs Hs) (hi : i ≤ n) : Own e sz (.slice ad i cap) i (xs.take (i * sz)) Hs := by
 generalize hv : Value.slice ad n cap = v at h
 cases h with
 | nil =>
  cases hv
  have : i = 0 := by omega
  subst this
  simpa using Own.nil
 | @row b _ _ _ spare hn hc hle =>
  cases hv
  have e1 : xs ++ spare = xs.take (i * sz) ++ (xs.drop (i * sz) ++ spare) := by rw [← List.append_assoc, List.take_append_drop]
  rw [e1] at hc ⊢
  exact .row (by rw [List.length_take, hn]; exact Nat.min_eq_left (Nat.mul_le_mul_right _ hi)) hc (by omega)
theorem f82_any (w : World) (D : Nat → Prop) (nb cb : Nat) (path idx : List UInt8) (wild : Bool) (nt pr : Nat) (hv : Value) (full : List UInt8) (kv : Value) (bs : List Nat) (Hs : SH) (hb : bs.length ≤ 100000) (hs : Own 89 1 kv bs.length (bs.map (Pt · 0)) Hs) (hH : HF w D (⟨nb, true, .row (nodeR path idx wild nt pr kv hv full) 107 (0, 0)⟩ :: Hs) w) :
  Calls Try.prog 82 #[Pt nb 0, Pt cb 0] w fun e w' => e = .returned (.tuple #[]) ∧ ∃ kv' Hs', Own 89 1 kv' (bs.length + 1) ((addB wild bs cb).map (Pt · 0)) Hs' ∧ HF w D (⟨nb, true, .row (nodeR path idx wild nt pr kv' hv full) 107 (0, 0)⟩ :: Hs') w' := by
 obtain ⟨ad, cap, rfl⟩ := hs.slice
 have hle := hs.le
 refine enter D (⟨nb, true, .row (nodeR path idx wild nt pr (.slice ad bs.length cap) hv full) 107 (0, 0)⟩ :: Hs) Try.func82 rfl Try.ntmps82 rfl rfl hH fun c hc => ?_
 subst hc
 refine GC.seq ?_
 refine GC.join (fun fr' H' => ∃ t : Bool, (t = true ↔ wild = true ∧ bs ≠ []) ∧ Sub [(0, Pt nb 0), (1, Pt cb 0), (16, .bool t)] fr' ∧ H' = ⟨nb, true, .row (nodeR path idx wild nt pr (.slice ad bs.length cap) hv full) 107 (0, 0)⟩ :: Hs) (fun J16 => ?_) ?_
 ·refine GC.reg ?_
  refine G.m1 ?_
  refine G.v (V.nc rfl) rfl ?_
  refine G.v (V.fa F107_2 rfl) rfl ?_
  refine G.v (V.ld (b := nb) (off := 0 + 2) (wf := true) (l := nodeR path idx wild nt pr (.slice ad bs.length cap) hv full) (T := 107) (fz := (0, 0)) (v := .bool wild) Try.isAgg4 rfl (.head _) rfl) rfl ?_
  refine G.m1 ?_
  refine G.bc 9 rfl (fun h9 => ?_) (fun h9 => ?_)
  ·refine G.m5 ?_
   refine G.vg rfl rfl (V.nc rfl) rfl ?_
   refine G.vg rfl rfl (V.fa F107_5 rfl) rfl ?_
   refine G.vg rfl rfl (V.ld (b := nb) (off := 0 + 5) (wf := true) (l := nodeR path idx wild nt pr (.slice ad bs.length cap) hv full) (T := 107) (fz := (0, 0)) (v := (.slice ad bs.length cap)) Try.isAgg105 rfl (.head _) rfl) rfl ?_
   refine G.vg rfl rfl (V.lenL Try.underlying105 rfl) rfl ?_
   refine G.vg rfl rfl (V.gt rfl rfl) rfl ?_
   refine G.m3 ?_
   refine G.nil ?_
   refine J16 _ _ ⟨_, ?_, .of rfl, rfl⟩
   rw [decide_eq_true_eq]
   constructor
   ·intro h; exact ⟨h9, fun e => by rw [e] at h; simp at h⟩
   ·intro h; have := List.length_pos_iff.2 h.2; omega
  ·refine G.s1 ?_
   refine G.s1 ?_
   refine G.s1 ?_
   refine G.s1 ?_
   refine G.s1 ?_
   refine G.s1 ?_
   refine G.m4 ?_
   refine G.nil ?_
   exact J16 _ _ ⟨false, ⟨fun h => (by cases h), fun h => by rw [h9] at h; cases h.1⟩, .of rfl, rfl⟩
 rintro fr' H' ⟨t, ht, hs16, rfl⟩
 refine GC.weak hs16 ?_
 clear hs16
 refine GC.cond rfl (fun h16 => ?_) (fun h16 => ?_)
 ·refine GC.seq ?_
  have hw1 := ht.1 h16
  obtain ⟨p, x, rfl⟩ : ∃ p x, bs = p ++ [x] := by
   rcases List.eq_nil_or_concat bs with e | ⟨p, x, e⟩
   ·exact absurd e hw1.2
   ·exact ⟨p, x, by rw [e, List.concat_eq_append]⟩
  obtain ⟨rb, cap2, spare, e1, rfl⟩ := hs.at (i := 0) (by simp)
  cases e1
  refine GC.regQ mixed (by kernel_rfl) ?_
  refine GQ.v (V.mv rfl) rfl ?_
  refine GQ.v (V.nc rfl) rfl ?_
  refine GQ.v (V.fa F107_5 rfl) rfl ?_
  refine GQ.v (V.ld (b := nb) (off := 0 + 5) (wf := true) (l := nodeR path idx wild nt pr (.slice (some ⟨rb, 0, none⟩) (p ++ [x]).length cap) hv full) (T := 107) (fz := (0, 0)) (v := (.slice (some ⟨rb, 0, none⟩) (p ++ [x]).length cap)) Try.isAgg105 rfl (.head _) rfl) rfl ?_
  refine GQ.v (V.mv rfl) rfl ?_
  refine GQ.v (V.nc rfl) rfl ?_
  refine GQ.v (V.fa F107_5 rfl) rfl ?_
  refine GQ.v (V.ld (b := nb) (off := 0 + 5) (wf := true) (l := nodeR path idx wild nt pr (.slice (some ⟨rb, 0, none⟩) (p ++ [x]).length cap) hv full) (T := 107) (fz := (0, 0)) (v := (.slice (some ⟨rb, 0, none⟩) (p ++ [x]).length cap)) Try.isAgg105 rfl (.head _) rfl) rfl ?_
  refine GQ.v (V.lenL Try.underlying105 rfl) rfl ?_
  refine GQ.v (V.subI (r := ((p.length : Nat) : Int)) rfl rfl (by simp) (by omega) (by simp at hb; omega)) rfl ?_
  refine GQ.v (V.ia (i := p.length) Try.underlying105 Try.sizeOf89 rfl rfl (by simp)) rfl ?_
  refine GQ.v (V.ld (b := rb) (off := 0 + p.length * 1) (wf := true) (l := (p ++ [x]).map (Pt · 0) ++ spare) (T := 89) (fz := (0, 0)) (v := Pt x 0) Try.isAgg89 rfl (.tail _ (.head _)) (by rw [nth_eq]; simp)) rfl ?_
  refine GQ.v (V.asg rfl) rfl ?_
  refine GQ.nil ?_
  refine GC.regM 18 (fun w1 => w1.heap[nb]? = some (Blk.den (.row (nodeR path idx wild nt pr (.slice (some ⟨rb, 0, none⟩) (p ++ [x]).length cap) hv full) 107 (0, 0)))) mixed (by kernel_rfl) ?_
  refine GM.p 0 rfl (by kernel_rfl) (by kernel_rfl) (fun w1 h1 => h1.has ⟨nb, true, .row (nodeR path idx wild nt pr (.slice (some ⟨rb, 0, none⟩) (p ++ [x]).length cap) hv full) 107 (0, 0)⟩ (by first | exact .head _ | exact .tail _ (.head _))) (fun _ => V.mv rfl) rfl ?_
  refine GM.p 1 rfl (by kernel_rfl) (by kernel_rfl) (fun w1 h1 => h1.has ⟨nb, true, .row (nodeR path idx wild nt pr (.slice (some ⟨rb, 0, none⟩) (p ++ [x]).length cap) hv full) 107 (0, 0)⟩ (by first | exact .head _ | exact .tail _ (.head _))) (fun _ => V.mv rfl) rfl ?_
  refine GM.p 2 rfl (by kernel_rfl) (by kernel_rfl) (fun w1 h1 => h1.has ⟨nb, true, .row (nodeR path idx wild nt pr (.slice (some ⟨rb, 0, none⟩) (p ++ [x]).length cap) hv full) 107 (0, 0)⟩ (by first | exact .head _ | exact .tail _ (.head _))) (fun _ => V.nc rfl) rfl ?_
  refine GM.p 3 rfl (by kernel_rfl) (by kernel_rfl) (fun w1 h1 => h1.has ⟨nb, true, .row (nodeR path idx wild nt pr (.slice (some ⟨rb, 0, none⟩) (p ++ [x]).length cap) hv full) 107 (0, 0)⟩ (by first | exact .head _ | exact .tail _ (.head _))) (fun _ => V.fa F107_5 rfl) rfl ?_
  refine GM.ld 4 rfl (by kernel_rfl) (by kernel_rfl) (fun w1 h1 => h1.has ⟨nb, true, .row (nodeR path idx wild nt pr (.slice (some ⟨rb, 0, none⟩) (p ++ [x]).length cap) hv full) 107 (0, 0)⟩ (by first | exact .head _ | exact .tail _ (.head _))) Try.isAgg105 rfl (fun w1 h1 => cellB h1 rfl) rfl ?_
  refine GM.p 5 rfl (by kernel_rfl) (by kernel_rfl) (fun w1 h1 => h1.has ⟨nb, true, .row (nodeR path idx wild nt pr (.slice (some ⟨rb, 0, none⟩) (p ++ [x]).length cap) hv full) 107 (0, 0)⟩ (by first | exact .head _ | exact .tail _ (.head _))) (fun _ => V.mv rfl) rfl ?_
  refine GM.p 6 rfl (by kernel_rfl) (by kernel_rfl) (fun w1 h1 => h1.has ⟨nb, true, .row (nodeR path idx wild nt pr (.slice (some ⟨rb, 0, none⟩) (p ++ [x]).length cap) hv full) 107 (0, 0)⟩ (by first | exact .head _ | exact .tail _ (.head _))) (fun _ => V.nc rfl) rfl ?_
  refine GM.p 7 rfl (by kernel_rfl) (by kernel_rfl) (fun w1 h1 => h1.has ⟨nb, true, .row (nodeR path idx wild nt pr (.slice (some ⟨rb, 0, none⟩) (p ++ [x]).length cap) hv full) 107 (0, 0)⟩ (by first | exact .head _ | exact .tail _ (.head _))) (fun _ => V.fa F107_5 rfl) rfl ?_
  refine GM.ld 8 rfl (by kernel_rfl) (by kernel_rfl) (fun w1 h1 => h1.has ⟨nb, true, .row (nodeR path idx wild nt pr (.slice (some ⟨rb, 0, none⟩) (p ++ [x]).length cap) hv full) 107 (0, 0)⟩ (by first | exact .head _ | exact .tail _ (.head _))) Try.isAgg105 rfl (fun w1 h1 => cellB h1 rfl) rfl ?_
  refine GM.p 9 rfl (by kernel_rfl) (by kernel_rfl) (fun w1 h1 => h1.has ⟨nb, true, .row (nodeR path idx wild nt pr (.slice (some ⟨rb, 0, none⟩) (p ++ [x]).length cap) hv full) 107 (0, 0)⟩ (by first | exact .head _ | exact .tail _ (.head _))) (fun _ => V.lenL Try.underlying105 rfl) rfl ?_
  refine GM.p 10 rfl (by kernel_rfl) (by kernel_rfl) (fun w1 h1 => h1.has ⟨nb, true, .row (nodeR path idx wild nt pr (.slice (some ⟨rb, 0, none⟩) (p ++ [x]).length cap) hv full) 107 (0, 0)⟩ (by first | exact .head _ | exact .tail _ (.head _))) (fun _ => V.subI (r := ((p.length : Nat) : Int)) rfl rfl (by simp) (by omega) (by simp at hb; omega)) rfl ?_
  refine GM.p 11 rfl (by kernel_rfl) (by kernel_rfl) (fun w1 h1 => h1.has ⟨nb, true, .row (nodeR path idx wild nt pr (.slice (some ⟨rb, 0, none⟩) (p ++ [x]).length cap) hv full) 107 (0, 0)⟩ (by first | exact .head _ | exact .tail _ (.head _))) (fun _ => V.slTH (i := p.length) Try.underlying105 Try.sizeOf89 rfl rfl (by simp at hle; omega)) rfl ?_
  refine GM.p 12 rfl (by kernel_rfl) (by kernel_rfl) (fun w1 h1 => h1.has ⟨nb, true, .row (nodeR path idx wild nt pr (.slice (some ⟨rb, 0, none⟩) (p ++ [x]).length cap) hv full) 107 (0, 0)⟩ (by first | exact .head _ | exact .tail _ (.head _))) (fun _ => V.mv rfl) rfl ?_
  refine GM.p 13 rfl (by kernel_rfl) (by kernel_rfl) (fun w1 h1 => h1.has ⟨nb, true, .row (nodeR path idx wild nt pr (.slice (some ⟨rb, 0, none⟩) (p ++ [x]).length cap) hv full) 107 (0, 0)⟩ (by first | exact .head _ | exact .tail _ (.head _))) (fun _ => V.mv rfl) rfl ?_
  refine GM.one 14 rfl (by kernel_rfl) ?_
  refine GMB.bs (vs := [Pt cb 0, Pt x 0]) (BS2 Try.underlying105 Try.sizeOf89 Try.zeroValue89 rfl rfl) rfl (fun w1 h1 => h1.has ⟨nb, true, .row (nodeR path idx wild nt pr (.slice (some ⟨rb, 0, none⟩) (p ++ [x]).length cap) hv full) 107 (0, 0)⟩ (.head _)) rfl (fun sb => ?_)
  refine GM.one 15 rfl (by kernel_rfl) ?_
  have hcut := hs.cut (i := p.length) (by simp)
  refine GMB.app (i := Try.t89) (sz := 1) (by_ := 8) Try.underlying105 rfl rfl rfl rfl rfl rfl rfl hcut (H' := [⟨sb, true, .row [Pt cb 0, Pt x 0] 89 (0, 0)⟩, ⟨nb, true, .row (nodeR path idx wild nt pr (.slice (some ⟨rb, 0, none⟩) (p ++ [x]).length cap) hv full) 107 (0, 0)⟩]) (List.perm_append_comm (l₁ := ([⟨sb, true, .row [Pt cb 0, Pt x 0] 89 (0, 0)⟩, ⟨nb, true, .row (nodeR path idx wild nt pr (.slice (some ⟨rb, 0, none⟩) (p ++ [x]).length cap) hv full) 107 (0, 0)⟩] : SH))) (src_row (vs := [Pt cb 0, Pt x 0]) (r := []) (.head _)) rfl (by simp [Value.oneCell']) (by omega) (by simp at hb; omega) (by simp at hb; omega) (fun w1 h1 => h1.has ⟨nb, true, .row (nodeR path idx wild nt pr (.slice (some ⟨rb, 0, none⟩) (p ++ [x]).length cap) hv full) 107 (0, 0)⟩ (.tail _ (.head _))) rfl (fun kv2 Hs2 hown2 => ?_)
  refine GM.p 16 rfl (by kernel_rfl) (by kernel_rfl) (fun w1 h1 => h1.has ⟨nb, true, .row (nodeR path idx wild nt pr (.slice (some ⟨rb, 0, none⟩) (p ++ [x]).length cap) hv full) 107 (0, 0)⟩ (by first | exact .head _ | exact .tail _ (.head _))) (fun _ => V.nc rfl) rfl ?_
  refine GM.p 17 rfl (by kernel_rfl) (by kernel_rfl) (fun w1 h1 => h1.has ⟨nb, true, .row (nodeR path idx wild nt pr (.slice (some ⟨rb, 0, none⟩) (p ++ [x]).length cap) hv full) 107 (0, 0)⟩ (by first | exact .head _ | exact .tail _ (.head _))) (fun _ => V.fa F107_5 rfl) rfl ?_
  refine GM.tl (by kernel_rfl) ?_
  refine G.st (b := nb) (off := 0 + 5) (l := nodeR path idx wild nt pr (.slice (some ⟨rb, 0, none⟩) (p ++ [x]).length cap) hv full) (T := 107) (fz := (0, 0)) (v := kv2) Try.sizeOf105 rfl rfl (Own.slice1 hown2) (.s .z) rfl rfl ?_
  refine G.nil ?_
  refine GC.end0 rfl fun w' hw' => ⟨rfl, kv2, Hs2, ?_, hw'.sub (List.sublist_cons_self _ _)⟩
  have e : ((addB wild (p ++ [x]) cb).map (Pt · 0)) = ((p ++ [x]).map (Pt · 0)).take (p.length * 1) ++ [Pt cb 0, Pt x 0] := by
   rw [addB, if_pos hw1]
   simp
  rw [e]
  have e3 : (p ++ [x]).length + 1 = p.length + 2 := by simp
  rw [e3]
  exact hown2
 refine GC.reg ?_
 refine G.m1 ?_
 refine G.m1 ?_
 refine G.v (V.nc rfl) rfl ?_
 refine G.v (V.fa F107_5 rfl) rfl ?_
 refine G.v (V.ld (b := nb) (off := 0 + 5) (wf := true) (l := nodeR path idx wild nt pr (.slice ad bs.length cap) hv full) (T := 107) (fz := (0, 0)) (v := (.slice ad bs.length cap)) Try.isAgg105 rfl (.head _) rfl) rfl ?_
 refine G.m1 ?_
 refine G.bs (BS.one Try.underlying105 Try.sizeOf89 Try.zeroValue89 (v := Pt cb 0) rfl) rfl rfl (fun sb hsb => ?_)
 refine G.app (i := Try.t89) (sz := 1) (by_ := 8) Try.underlying105 rfl rfl rfl rfl rfl rfl rfl hs (H' := [⟨sb, true, .row [Pt cb 0] 89 (0, 0)⟩, ⟨nb, true, .row (nodeR path idx wild nt pr (.slice ad bs.length cap) hv full) 107 (0, 0)⟩]) (List.perm_append_comm (l₁ := ([⟨sb, true, .row [Pt cb 0] 89 (0, 0)⟩, ⟨nb, true, .row (nodeR path idx wild nt pr (.slice ad bs.length cap) hv full) 107 (0, 0)⟩] : SH))) (src_row (vs := [Pt cb 0]) (r := []) (.head _)) rfl (by simp [Value.oneCell']) (by omega) (by omega) (by omega) rfl (fun kv2 Hs2 hown2 => ?_)
 refine G.v (V.nc rfl) rfl ?_
 refine G.v (V.fa F107_5 rfl) rfl ?_
 refine G.st (b := nb) (off := 0 + 5) (l := nodeR path idx wild nt pr (.slice ad bs.length cap) hv full) (T := 107) (fz := (0, 0)) (v := kv2) Try.sizeOf105 rfl rfl (Own.slice1 hown2) (.s .z) rfl rfl ?_
 refine G.nil ?_
 refine GC.end0 rfl fun w' hw' => ⟨rfl, kv2, Hs2, ?_, hw'.sub (List.sublist_cons_self _ _)⟩
 have hn : ¬ (wild = true ∧ bs ≠ []) := fun h => by rw [ht.2 h] at h16; cases h16
 rw [addB, if_neg hn, List.map_append]
 exact hown2
end Go.Proofs

/- Where a child moves to: lists. No program in sight. -/
namespace Gt
theorem moveTo_get {β : Type} (l : List β) {pos np : Nat} (hnp : np ≤ pos) (hpos : pos < l.length) (i : Nat) : (moveTo l pos np)[i]? = if i < np then l[i]? else if i = np then l[pos]? else if i ≤ pos then l[i - 1]? else l[i]? := by
 unfold moveTo
 have h1 : (l.take np).length = np := by simp; omega
 have h2 : ((l.drop pos).take 1).length = 1 := by simp; omega
 have h3 : ((l.take pos).drop np).length = pos - np := by simp; omega
 rw [List.append_assoc, List.append_assoc]
 by_cases a : i < np
 ·rw [if_pos a, List.getElem?_append_left (by omega), List.getElem?_take_of_lt a]
 rw [if_neg a, List.getElem?_append_right (by omega), h1]
 by_cases b : i = np
 ·subst b
  rw [if_pos rfl, List.getElem?_append_left (by omega), Nat.sub_self, List.getElem?_take_of_lt (by omega), List.getElem?_drop]
  rfl
 rw [if_neg b, List.getElem?_append_right (by omega), h2]
 by_cases c : i ≤ pos
 ·rw [if_pos c, List.getElem?_append_left (by omega), List.getElem?_drop, List.getElem?_take_of_lt (by omega)]
  congr 1; omega
 ·rw [if_neg c, List.getElem?_append_right (by omega), h3, List.getElem?_drop]
  congr 1; omega
theorem moveTo_self {β : Type} (l : List β) {pos : Nat} (hpos : pos < l.length) : moveTo l pos pos = l := by
 apply List.ext_getElem?
 intro i
 rw [moveTo_get l (Nat.le_refl _) hpos]
 by_cases a : i < pos
 ·rw [if_pos a]
 ·rw [if_neg a]
  by_cases b : i = pos
  ·rw [if_pos b, b]
  ·rw [if_neg b, if_neg (by omega)]
theorem moveTo_len {β : Type} (l : List β) {pos np : Nat} (hnp : np ≤ pos) (hpos : pos < l.length) : (moveTo l pos np).length = l.length := by
 unfold moveTo
 simp
 omega
theorem moveTo_swap {β : Type} (l : List β) {pos j : Nat} (hj : 0 < j) (hjp : j ≤ pos) (hpos : pos < l.length) {x y : β} (hx : l[pos]? = some x) (hy : l[j - 1]? = some y) :
  ((moveTo l pos j).set (j - 1) x).set j y = moveTo l pos (j - 1) := by
 apply List.ext_getElem?
 intro i
 have hl := moveTo_len l hjp hpos
 rw [moveTo_get l (by omega) hpos, List.getElem?_set, List.length_set, hl]
 by_cases a : j = i
 ·subst a
  rw [if_pos rfl, if_pos (by omega), if_neg (by omega), if_neg (by omega), if_pos hjp, hy]
 rw [if_neg a, List.getElem?_set, hl]
 by_cases b : j - 1 = i
 ·subst b
  rw [if_pos rfl, if_pos (by omega), if_neg (by omega), if_pos rfl, hx]
 rw [if_neg b, moveTo_get l hjp hpos]
 by_cases c : i < j
 ·rw [if_pos c, if_pos (by omega)]
 ·rw [if_neg c, if_neg (by omega : ¬ i = j), if_neg (by omega : ¬ i < j - 1), if_neg (by omega : ¬ i = j - 1)]
theorem modify_set {β : Type} {l : List β} {i : Nat} {x : β} (f : β → β) (h : l[i]? = some x) : l.modify i f = l.set i (f x) := by
 apply List.ext_getElem?
 intro j
 have hi := (List.getElem?_eq_some_iff.1 h).1
 rw [List.getElem?_modify, List.getElem?_set]
 by_cases e : i = j
 ·subst e; rw [if_pos rfl, if_pos hi, h]; simp
 ·rw [if_neg e]; simp [e]
theorem newPos_le (prs : List Nat) (prio : Nat) : ∀ p, newPos prs prio p ≤ p
 | 0 => Nat.le_refl _
 | p + 1 => by
  unfold newPos
  split
  ·have := newPos_le prs prio p; omega
  ·exact Nat.le_refl _
end Gt
namespace Go.Proofs
open Go Bw Gt
theorem wrapU32 (n : Nat) : IntKind.u32.wrap (((n % 4294967296 : Nat) : Int) + 1) = (((n + 1) % 4294967296 : Nat) : Int) := by
 unfold IntKind.wrap
 simp [IntKind.bits, IntKind.signed]
theorem wrapU32m (n : Nat) : IntKind.u32.wrap (((n % 4294967296 : Nat) : Int) - 1) = (((n + 4294967295) % 4294967296 : Nat) : Int) := by
 unfold IntKind.wrap
 simp [IntKind.bits, IntKind.signed]
 omega
theorem HTs.mem {ts bs H} (h : HTs ts bs H) {j : Nat} {t : T0} (hj : ts[j]? = some t) : ∃ b kv hv, bs[j]? = some b ∧ (⟨b, true, .row (nodeR t.path t.idx t.wild t.nt t.pr kv hv t.full) 107 (0, 0)⟩ : Ent) ∈ H := by
 obtain ⟨b, H1, H2, h1, h2, h3, _⟩ := h.foc hj
 cases h2 with
 | mk hs hh hk => exact ⟨b, _, _, h1, h3.mem_iff.2 (List.mem_append_left _ (.head _))⟩
end Go.Proofs

/- incrementChildPrio. Printed by wip/mk_gu4.py. -/
set_option maxRecDepth 20000
namespace Go.Proofs
open Go Bw
open Gt
theorem f81_any (w : World) (D : Nat → Prop) (nb pos : Nat) (path idx : List UInt8) (wild : Bool) (nt pr : Nat) (hv : Value) (full : List UInt8) (kv : Value) (kids : List T0) (bs : List Nat) (Hs Hk : SH) (hpos : pos < kids.length) (hidx : pos < idx.length) (hil : idx.length ≤ 1000000) (hkl : kids.length ≤ 1000000) (hs : Own 89 1 kv kids.length (bs.map (Pt · 0)) Hs) (hk : HTs kids bs Hk)
  (hH : HF w D (⟨nb, true, .row (nodeR path idx wild nt pr kv hv full) 107 (0, 0)⟩ :: (Hs ++ Hk)) w) :
  Calls Try.prog 81 #[Pt nb 0, I (pos : Int)] w fun e w' => e = .returned (I ((bump idx kids pos).2.2 : Nat)) ∧ ∃ Hs' Hk', Own 89 1 kv kids.length ((moveTo bs pos (bump idx kids pos).2.2).map (Pt · 0)) Hs' ∧ HTs (bump idx kids pos).2.1 (moveTo bs pos (bump idx kids pos).2.2) Hk' ∧ HF w D (⟨nb, true, .row (nodeR path (bump idx kids pos).1 wild nt pr kv hv full) 107 (0, 0)⟩ :: (Hs' ++ Hk')) w' := by
 obtain ⟨rb, cap, spare, rfl, rfl⟩ := hs.at hpos
 have hbl := hk.len
 have hle := hs.le
 obtain ⟨k, hkp⟩ : ∃ k, kids[pos]? = some k := ⟨_, List.getElem?_eq_getElem hpos⟩
 obtain ⟨b, H1, H2, hbp, hkt, hperm, hback⟩ := hk.foc hkp
 cases hkt with
 | @mk kpath kidx kwild knt kpr ko kfull kkids _ kbs kkv khv Ks Kh Kk ks kh kk =>
 refine enter D (⟨b, true, .row (nodeR kpath kidx kwild knt kpr kkv khv kfull) 107 (0, 0)⟩ :: ⟨rb, true, .row (bs.map (Pt · 0) ++ spare) 89 (0, 0)⟩ :: ⟨nb, true, .row (nodeR path idx wild nt pr (.slice (some ⟨rb, 0, none⟩) kids.length cap) hv full) 107 (0, 0)⟩ :: ((Ks ++ (Kh ++ Kk)) ++ H2)) Try.func81 rfl Try.ntmps81 rfl rfl (hH.perm ?_) fun c hc => ?_
 ·refine List.Perm.trans (.cons _ (.cons _ hperm)) ?_
  exact (List.perm_append_comm (l₁ := ([⟨nb, true, .row (nodeR path idx wild nt pr (.slice (some ⟨rb, 0, none⟩) kids.length cap) hv full) 107 (0, 0)⟩, ⟨rb, true, .row (bs.map (Pt · 0) ++ spare) 89 (0, 0)⟩] : SH)) (l₂ := ([⟨b, true, .row (nodeR kpath kidx kwild knt kpr kkv khv kfull) 107 (0, 0)⟩] : SH))).append_right ((Ks ++ (Kh ++ Kk)) ++ H2) |>.trans ((List.Perm.swap _ _ _).cons _)
 subst hc
 have hrow : ∀ i, ((bs.map (Pt · 0) : List Value) ++ spare)[i]? = if i < kids.length then (bs[i]?).map (Pt · 0) else spare[i - kids.length]? := by
  intro i
  by_cases hi : i < kids.length
  ·rw [if_pos hi, List.getElem?_append_left (by simp [hbl]; exact hi), List.getElem?_map]
  ·rw [if_neg hi, List.getElem?_append_right (by simp [hbl]; omega)]; simp [hbl]
 refine GC.seq ?_
 refine GC.reg ?_
 refine G.m2 ?_
 refine G.nil ?_
 refine GC.seq ?_
 refine GC.reg ?_
 refine G.m1 ?_
 refine G.v (V.nc rfl) rfl ?_
 refine G.v (V.fa F107_5 rfl) rfl ?_
 refine G.v (V.ld (b := nb) (off := 0 + 5) (wf := true) (l := nodeR path idx wild nt pr (.slice (some ⟨rb, 0, none⟩) kids.length cap) hv full) (T := 107) (fz := (0, 0)) (v := (.slice (some ⟨rb, 0, none⟩) kids.length cap)) Try.isAgg105 rfl (m2 (.head _)) rfl) rfl ?_
 refine G.m2 ?_
 refine G.nil ?_
 refine GC.seq ?_
 refine GC.reg ?_
 refine G.m1 ?_
 refine G.m1 ?_
 refine G.v (V.ia (i := pos) Try.underlying105 Try.sizeOf89 rfl rfl hpos) rfl ?_
 refine G.v (V.ld (b := rb) (off := 0 + pos * 1) (wf := true) (l := bs.map (Pt · 0) ++ spare) (T := 89) (fz := (0, 0)) (v := Pt b 0) Try.isAgg89 rfl (.tail _ (.head _)) (by rw [nth_eq, Nat.zero_add, Nat.mul_one, hrow, if_pos hpos, hbp]; rfl)) rfl ?_
 refine G.v (V.nc rfl) rfl ?_
 refine G.v (V.fa F107_4 rfl) rfl ?_
 refine G.v (V.ld (b := b) (off := 0 + 4) (wf := true) (l := nodeR kpath kidx kwild knt kpr kkv khv kfull) (T := 107) (fz := (0, 0)) (v := .int .u32 ((kpr % 4294967296 : Nat) : Int)) Try.isAgg104 rfl (.head _) rfl) rfl ?_
 refine G.v (V.add rfl rfl) rfl ?_
 rw [wrapU32]
 refine G.v (V.nc rfl) rfl ?_
 refine G.v (V.fa F107_4 rfl) rfl ?_
 refine G.st (b := b) (off := 0 + 4) (l := nodeR kpath kidx kwild knt kpr kkv khv kfull) (T := 107) (fz := (0, 0)) (v := .int .u32 (((kpr + 1) % 4294967296 : Nat) : Int)) Try.sizeOf104 rfl rfl rfl (.z) rfl rfl ?_
 refine G.nil ?_
 refine GC.seq ?_
 refine GC.turn (H' := ⟨b, true, .row (nodeR kpath kidx kwild knt (kpr + 1) kkv khv kfull) 107 (0, 0)⟩ :: ⟨rb, true, .row (bs.map (Pt · 0) ++ spare) 89 (0, 0)⟩ :: ⟨nb, true, .row (nodeR path idx wild nt pr (.slice (some ⟨rb, 0, none⟩) kids.length cap) hv full) 107 (0, 0)⟩ :: ((Ks ++ (Kh ++ Kk)) ++ H2)) (fun w1 h1 => h1) ?_
 refine GC.reg ?_
 refine G.m1 ?_
 refine G.m1 ?_
 refine G.v (V.ia (i := pos) Try.underlying105 Try.sizeOf89 rfl rfl hpos) rfl ?_
 refine G.v (V.ld (b := rb) (off := 0 + pos * 1) (wf := true) (l := bs.map (Pt · 0) ++ spare) (T := 89) (fz := (0, 0)) (v := Pt b 0) Try.isAgg89 rfl (.tail _ (.head _)) (by rw [nth_eq, Nat.zero_add, Nat.mul_one, hrow, if_pos hpos, hbp]; rfl)) rfl ?_
 refine G.v (V.nc rfl) rfl ?_
 refine G.v (V.fa F107_4 rfl) rfl ?_
 refine G.v (V.ld (b := b) (off := 0 + 4) (wf := true) (l := nodeR kpath kidx kwild knt (kpr + 1) kkv khv kfull) (T := 107) (fz := (0, 0)) (v := .int .u32 (((kpr + 1) % 4294967296 : Nat) : Int)) Try.isAgg104 rfl (.head _) rfl) rfl ?_
 refine G.m2 ?_
 refine G.nil ?_
 refine GC.seq ?_
 obtain ⟨Hk1, hk1, hperm1⟩ := hback _ _ (HT.mk (pr := kpr + 1) ks kh kk)
 refine GC.turn (H' := ⟨rb, true, .row (bs.map (Pt · 0) ++ spare) 89 (0, 0)⟩ :: ⟨nb, true, .row (nodeR path idx wild nt pr (.slice (some ⟨rb, 0, none⟩) kids.length cap) hv full) 107 (0, 0)⟩ :: Hk1) (fun w1 h1 => h1.perm ?_) ?_
 ·refine List.Perm.trans ?_ (.cons _ (.cons _ hperm1.symm))
  exact (List.perm_append_comm (l₁ := ([⟨b, true, .row (nodeR kpath kidx kwild knt (kpr + 1) kkv khv kfull) 107 (0, 0)⟩] : SH)) (l₂ := ([⟨rb, true, .row (bs.map (Pt · 0) ++ spare) 89 (0, 0)⟩, ⟨nb, true, .row (nodeR path idx wild nt pr (.slice (some ⟨rb, 0, none⟩) kids.length cap) hv full) 107 (0, 0)⟩] : SH))).append_right ((Ks ++ (Kh ++ Kk)) ++ H2)
 have hks : kids.modify pos Tr.incr = kids.set pos (.node () kpath kidx kwild knt (kpr + 1) ko kfull kkids) := by
  rw [modify_set _ hkp]; rfl
 rw [← hks] at hk1
 have hk1l := hk1.len
 have hml : (kids.modify pos Tr.incr).length = kids.length := List.length_modify _ _ _
 rw [hml] at hk1l
 obtain ⟨prs, hprs⟩ : ∃ prs, prs = (kids.modify pos Tr.incr).map Tr.pr := ⟨_, rfl⟩
 have hprio : (((kids.modify pos Tr.incr)[pos]?).map Tr.pr).getD 0 = kpr + 1 := by rw [hks, List.getElem?_set_self (by exact hpos)]; rfl
 have hnpl := newPos_le prs (kpr + 1) pos
 have hbump : bump idx kids pos = (if newPos prs (kpr + 1) pos ≠ pos then moveTo idx pos (newPos prs (kpr + 1) pos) else idx, moveTo (kids.modify pos Tr.incr) pos (newPos prs (kpr + 1) pos), newPos prs (kpr + 1) pos) := by
  unfold bump; rw [hprs]; dsimp only; rw [hprio]
 have hmem : ∀ j, j < kids.length → ∃ (b : Nat) (kv hv : Value) (t : T0), bs[j]? = some b ∧ prs[j]? = some t.pr ∧ (⟨b, true, .row (nodeR t.path t.idx t.wild t.nt t.pr kv hv t.full) 107 (0, 0)⟩ : Ent) ∈ Hk1 := by
  intro j hj
  obtain ⟨t, ht⟩ : ∃ t, (kids.modify pos Tr.incr)[j]? = some t := ⟨_, List.getElem?_eq_getElem (by rw [hml]; exact hj)⟩
  obtain ⟨b, kv, hv, h1, h2⟩ := hk1.mem ht
  exact ⟨b, kv, hv, t, h1, by rw [hprs, List.getElem?_map, ht]; rfl, h2⟩
 have hmrow : ∀ j i, j ≤ pos → i < kids.length → (((moveTo bs pos j).map (Pt · 0) : List Value) ++ spare)[i]? = ((moveTo bs pos j)[i]?).map (Pt · 0) := by
  intro j i hj hi
  rw [List.getElem?_append_left (by rw [List.length_map, moveTo_len bs hj (by omega)]; omega), List.getElem?_map]
 refine GC.reg ?_
 refine G.m1 ?_
 refine G.m2 ?_
 refine G.nil ?_
 refine GC.seq ?_
 refine GC.block ?_
 refine GC.loopJ (fun N fr' H' => ∃ j, j = N ∧ j ≤ pos ∧ newPos prs (kpr + 1) pos = newPos prs (kpr + 1) j ∧ Sub [(0, Pt nb 0), (1, I (pos : Int)), (5, (.slice (some ⟨rb, 0, none⟩) kids.length cap)), (6, .int .u32 (((kpr + 1) % 4294967296 : Nat) : Int)), (7, I ((j : Nat) : Int))] fr' ∧ H' = ⟨rb, true, .row ((moveTo bs pos j).map (Pt · 0) ++ spare) 89 (0, 0)⟩ :: ⟨nb, true, .row (nodeR path idx wild nt pr (.slice (some ⟨rb, 0, none⟩) kids.length cap) hv full) 107 (0, 0)⟩ :: Hk1) pos
  ⟨pos, rfl, Nat.le_refl _, rfl, .of rfl, by rw [moveTo_self bs (by omega)]⟩ ?_
 rintro N fr' H' ⟨j, hjN, hjp, hnp, hs5, rfl⟩ ih
 refine GC.weak hs5 ?_
 clear hs5
 refine GC.seq ?_
 refine GC.seq ?_
 refine GC.join (fun fr' H' => ∃ t : Bool, (t = true → 0 < j ∧ newPos prs (kpr + 1) j = newPos prs (kpr + 1) (j - 1)) ∧ (t = false → newPos prs (kpr + 1) j = j) ∧ Sub [(0, Pt nb 0), (1, I (pos : Int)), (5, (.slice (some ⟨rb, 0, none⟩) kids.length cap)), (6, .int .u32 (((kpr + 1) % 4294967296 : Nat) : Int)), (7, I ((j : Nat) : Int)), (43, .bool t)] fr' ∧ H' = ⟨rb, true, .row ((moveTo bs pos j).map (Pt · 0) ++ spare) 89 (0, 0)⟩ :: ⟨nb, true, .row (nodeR path idx wild nt pr (.slice (some ⟨rb, 0, none⟩) kids.length cap) hv full) 107 (0, 0)⟩ :: Hk1) (fun J5 => ?_) ?_
 ·refine GC.reg ?_
  refine G.m1 ?_
  refine G.v (V.gt rfl rfl) rfl ?_
  refine G.m1 ?_
  refine G.bc 32 rfl (fun h32 => ?_) (fun h32 => ?_)
  ·have hj0 : 0 < j := by have := of_decide_eq_true h32; omega
   obtain ⟨b2, kv2, hv2, t2, hb2, hp2, hm2⟩ := hmem (j - 1) (by omega)
   have hnpj : newPos prs (kpr + 1) j = if t2.pr % 4294967296 < (kpr + 1) % 4294967296 then newPos prs (kpr + 1) (j - 1) else j := by
    obtain ⟨q, rfl⟩ : ∃ q, j = q + 1 := ⟨j - 1, by omega⟩
    rw [Nat.add_sub_cancel] at hp2
    conv => lhs; unfold newPos
    rw [List.getD_eq_getElem?_getD, hp2]; rfl
   refine G.m5 ?_
   refine G.m5 ?_
   refine G.vg rfl rfl (V.subI (r := ((j - 1 : Nat) : Int)) rfl rfl (by omega) (by omega) (by omega)) rfl ?_
   refine G.vg rfl rfl (V.ia (i := j - 1) Try.underlying105 Try.sizeOf89 rfl rfl (by omega)) rfl ?_
   refine G.vg rfl rfl (V.ld (b := rb) (off := 0 + (j - 1) * 1) (wf := true) (l := (moveTo bs pos j).map (Pt · 0) ++ spare) (T := 89) (fz := (0, 0)) (v := Pt b2 0) Try.isAgg89 rfl (.head _) (by rw [nth_eq, Nat.zero_add, Nat.mul_one, hmrow j _ hjp (by omega), moveTo_get bs hjp (by omega), if_pos (by omega), hb2]; rfl)) rfl ?_
   refine G.vg rfl rfl (V.nc rfl) rfl ?_
   refine G.vg rfl rfl (V.fa F107_4 rfl) rfl ?_
   refine G.vg rfl rfl (V.ld (b := b2) (off := 0 + 4) (wf := true) (l := nodeR t2.path t2.idx t2.wild t2.nt t2.pr kv2 hv2 t2.full) (T := 107) (fz := (0, 0)) (v := .int .u32 ((t2.pr % 4294967296 : Nat) : Int)) Try.isAgg104 rfl (.tail _ (.tail _ hm2)) rfl) rfl ?_
   refine G.m5 ?_
   refine G.vg rfl rfl (V.lt rfl rfl) rfl ?_
   refine G.m3 ?_
   refine G.nil ?_
   refine J5 _ _ ⟨_, fun h => ⟨hj0, ?_⟩, fun h => ?_, .of rfl, rfl⟩
   ·rw [hnpj, if_pos (by have := of_decide_eq_true h; omega)]
   ·rw [hnpj, if_neg (by have := of_decide_eq_false h; omega)]
  ·refine G.s1 ?_
   refine G.s1 ?_
   refine G.s1 ?_
   refine G.s1 ?_
   refine G.s1 ?_
   refine G.s1 ?_
   refine G.s1 ?_
   refine G.s1 ?_
   refine G.s1 ?_
   refine G.s1 ?_
   refine G.m4 ?_
   refine G.nil ?_
   refine J5 _ _ ⟨false, fun h => (by cases h), fun _ => ?_, .of rfl, rfl⟩
   have : j = 0 := by have := of_decide_eq_false h32; omega
   subst this; rfl
 rintro fr' H' ⟨t, ht1, ht2, hs6, rfl⟩
 refine GC.weak hs6 ?_
 clear hs6
 refine GC.cond rfl (fun h43 => ?_) (fun h43 => ?_)
 ·refine GC.skip ?_
  refine GC.seq ?_
  refine GC.block ?_
  obtain ⟨hj0, hnp2⟩ := ht1 h43
  obtain ⟨y, hy⟩ : ∃ y, bs[j - 1]? = some y := ⟨_, List.getElem?_eq_getElem (by omega)⟩
  have hrl : (((moveTo bs pos j).map (Pt · 0) : List Value) ++ spare).length = kids.length + spare.length := by rw [List.length_append, List.length_map, moveTo_len bs hjp (by omega), hbl]
  have hjx : (moveTo bs pos j)[j]? = some b := by rw [moveTo_get bs hjp (by omega), if_neg (by omega), if_pos rfl, hbp]
  have hjy : (moveTo bs pos j)[j - 1]? = some y := by rw [moveTo_get bs hjp (by omega), if_pos (by omega), hy]
  refine GC.join (fun fr' H' => Sub [(0, Pt nb 0), (1, I (pos : Int)), (5, (.slice (some ⟨rb, 0, none⟩) kids.length cap)), (6, .int .u32 (((kpr + 1) % 4294967296 : Nat) : Int)), (7, I ((j : Nat) : Int))] fr' ∧ H' = ⟨rb, true, .row (setL (setL ((moveTo bs pos j).map (Pt · 0) ++ spare) (0 + (j - 1) * 1) (Pt b 0)) (0 + j * 1) (Pt y 0)) 89 (0, 0)⟩ :: ⟨nb, true, .row (nodeR path idx wild nt pr (.slice (some ⟨rb, 0, none⟩) kids.length cap) hv full) 107 (0, 0)⟩ :: Hk1) (fun J7 => ?_) ?_
  ·refine GC.regA (fun _ => True) mixed ?_
   refine GA.p 0 rfl (by kernel_rfl) (fun _ _ => trivial) (fun _ => V.mv rfl) rfl ?_
   refine GA.p 1 rfl (by kernel_rfl) (fun _ _ => trivial) (fun _ => V.mv rfl) rfl ?_
   refine GA.p 2 rfl (by kernel_rfl) (fun _ _ => trivial) (fun _ => V.subI (r := ((j - 1 : Nat) : Int)) rfl rfl (by omega) (by omega) (by omega)) rfl ?_
   refine GA.p 3 rfl (by kernel_rfl) (fun _ _ => trivial) (fun _ => V.mv rfl) rfl ?_
   refine GA.p 4 rfl (by kernel_rfl) (fun _ _ => trivial) (fun _ => V.mv rfl) rfl ?_
   refine GA.p 5 rfl (by kernel_rfl) (fun _ _ => trivial) (fun _ => V.mv rfl) rfl ?_
   refine GA.p 6 rfl (by kernel_rfl) (fun _ _ => trivial) (fun _ => V.mv rfl) rfl ?_
   refine GA.p 7 rfl (by kernel_rfl) (fun _ _ => trivial) (fun _ => V.ia (i := j) Try.underlying105 Try.sizeOf89 rfl rfl (by omega)) rfl ?_
   refine GA.p 9 rfl (by kernel_rfl) (fun _ _ => trivial) (fun _ => V.mv rfl) rfl ?_
   refine GA.p 10 rfl (by kernel_rfl) (fun _ _ => trivial) (fun _ => V.mv rfl) rfl ?_
   refine GA.p 11 rfl (by kernel_rfl) (fun _ _ => trivial) (fun _ => V.subI (r := ((j - 1 : Nat) : Int)) rfl rfl (by omega) (by omega) (by omega)) rfl ?_
   refine GA.p 12 rfl (by kernel_rfl) (fun _ _ => trivial) (fun _ => V.ia (i := j - 1) Try.underlying105 Try.sizeOf89 rfl rfl (by omega)) rfl ?_
   refine GA.two 8 13 rfl rfl (by kernel_rfl) ?_ ?_
   ·refine GB.v (V.ld (b := rb) (off := 0 + j * 1) (wf := true) (l := (moveTo bs pos j).map (Pt · 0) ++ spare) (T := 89) (fz := (0, 0)) (v := Pt b 0) Try.isAgg89 rfl (.head _) (by rw [nth_eq, Nat.zero_add, Nat.mul_one, hmrow j _ hjp (by omega), hjx]; rfl)) (fun _ _ => trivial) rfl ?_
    refine GA.one 13 rfl (by kernel_rfl) ?_
    refine GB.v (V.ld (b := rb) (off := 0 + (j - 1) * 1) (wf := true) (l := (moveTo bs pos j).map (Pt · 0) ++ spare) (T := 89) (fz := (0, 0)) (v := Pt y 0) Try.isAgg89 rfl (.head _) (by rw [nth_eq, Nat.zero_add, Nat.mul_one, hmrow j _ hjp (by omega), hjy]; rfl)) (fun _ _ => trivial) rfl ?_
    refine GA.p 14 rfl (by kernel_rfl) (fun _ _ => trivial) (fun _ => V.ia (i := j - 1) Try.underlying105 Try.sizeOf89 rfl rfl (by omega)) rfl ?_
    refine GA.one 15 rfl (by kernel_rfl) ?_
    refine GB.st (b := rb) (off := 0 + (j - 1) * 1) (l := (moveTo bs pos j).map (Pt · 0) ++ spare) (T := 89) (fz := (0, 0)) (v := Pt b 0) Try.sizeOf89 rfl rfl rfl .z (by rw [nth_eq, List.getElem?_eq_getElem (by rw [hrl]; omega)]; rfl) rfl (fun _ _ => trivial) ?_
    refine GA.p 16 rfl (by kernel_rfl) (fun _ _ => trivial) (fun _ => V.ia (i := j) Try.underlying105 Try.sizeOf89 rfl rfl (by omega)) rfl ?_
    refine GA.one 17 rfl (by kernel_rfl) ?_
    refine GB.st (b := rb) (off := 0 + j * 1) (T := 89) (fz := (0, 0)) (v := Pt y 0) Try.sizeOf89 rfl rfl rfl .z (by rw [nth_eq, setL_eq, List.getElem?_eq_getElem (by rw [List.length_set, hrl]; omega)]; rfl) rfl (fun _ _ => trivial) ?_
    refine GA.done (by kernel_rfl) ?_
    exact J7 _ _ ⟨.of rfl, rfl⟩
   ·refine GB.v (V.ld (b := rb) (off := 0 + (j - 1) * 1) (wf := true) (l := (moveTo bs pos j).map (Pt · 0) ++ spare) (T := 89) (fz := (0, 0)) (v := Pt y 0) Try.isAgg89 rfl (.head _) (by rw [nth_eq, Nat.zero_add, Nat.mul_one, hmrow j _ hjp (by omega), hjy]; rfl)) (fun _ _ => trivial) rfl ?_
    refine GA.one 8 rfl (by kernel_rfl) ?_
    refine GB.v (V.ld (b := rb) (off := 0 + j * 1) (wf := true) (l := (moveTo bs pos j).map (Pt · 0) ++ spare) (T := 89) (fz := (0, 0)) (v := Pt b 0) Try.isAgg89 rfl (.head _) (by rw [nth_eq, Nat.zero_add, Nat.mul_one, hmrow j _ hjp (by omega), hjx]; rfl)) (fun _ _ => trivial) rfl ?_
    refine GA.p 14 rfl (by kernel_rfl) (fun _ _ => trivial) (fun _ => V.ia (i := j - 1) Try.underlying105 Try.sizeOf89 rfl rfl (by omega)) rfl ?_
    refine GA.one 15 rfl (by kernel_rfl) ?_
    refine GB.st (b := rb) (off := 0 + (j - 1) * 1) (l := (moveTo bs pos j).map (Pt · 0) ++ spare) (T := 89) (fz := (0, 0)) (v := Pt b 0) Try.sizeOf89 rfl rfl rfl .z (by rw [nth_eq, List.getElem?_eq_getElem (by rw [hrl]; omega)]; rfl) rfl (fun _ _ => trivial) ?_
    refine GA.p 16 rfl (by kernel_rfl) (fun _ _ => trivial) (fun _ => V.ia (i := j) Try.underlying105 Try.sizeOf89 rfl rfl (by omega)) rfl ?_
    refine GA.one 17 rfl (by kernel_rfl) ?_
    refine GB.st (b := rb) (off := 0 + j * 1) (T := 89) (fz := (0, 0)) (v := Pt y 0) Try.sizeOf89 rfl rfl rfl .z (by rw [nth_eq, setL_eq, List.getElem?_eq_getElem (by rw [List.length_set, hrl]; omega)]; rfl) rfl (fun _ _ => trivial) ?_
    refine GA.done (by kernel_rfl) ?_
    exact J7 _ _ ⟨.of rfl, rfl⟩
  rintro fr' H' ⟨hs7, rfl⟩
  refine GC.weak hs7 ?_
  clear hs7
  have erow : setL (setL ((moveTo bs pos j).map (Pt · 0) ++ spare) (0 + (j - 1) * 1) (Pt b 0)) (0 + j * 1) (Pt y 0) = (moveTo bs pos (j - 1)).map (Pt · 0) ++ spare := by
   rw [setL_eq, setL_eq, Nat.zero_add, Nat.zero_add, Nat.mul_one, Nat.mul_one, ← moveTo_swap bs hj0 hjp (by omega) hbp hy]
   have hml2 : ((moveTo bs pos j).map (Pt · 0) : List Value).length = bs.length := by rw [List.length_map, moveTo_len bs hjp (by omega)]
   rw [List.set_append_left _ _ (by rw [hml2]; omega), List.set_append_left _ _ (by rw [List.length_set, hml2]; omega), List.map_set, List.map_set]
  rw [erow]
  refine GC.inBlock ?_
  refine GC.reg ?_
  refine G.m1 ?_
  refine G.v (V.subI (r := ((j - 1 : Nat) : Int)) rfl rfl (by omega) (by omega) (by omega)) rfl ?_
  refine G.m2 ?_
  refine G.nil ?_
  exact ih (j - 1) _ _ (by omega) ⟨j - 1, rfl, by omega, by rw [hnp, hnp2], .of rfl, rfl⟩
 refine GC.exit rfl ?_
 refine GC.seq ?_
 refine GC.seq ?_
 have hnpe : newPos prs (kpr + 1) pos = j := by rw [hnp]; exact ht2 (by simpa using h43)
 refine GC.reg ?_
 refine G.m1 ?_
 refine G.m1 ?_
 refine G.v (V.neI rfl rfl) rfl ?_
 refine G.nil ?_
 refine GC.cond rfl (fun h64 => ?_) (fun h64 => ?_)
 ·have hne : j ≠ pos := fun e => by rw [e] at h64; simp at h64
  refine GC.regT 32 mixed (by kernel_rfl) rfl rfl ?_
  refine GS.v (V.mv rfl) rfl ?_
  refine GS.v (V.mv rfl) rfl ?_
  refine GS.v (V.nc rfl) rfl ?_
  refine GS.v (V.fa F107_1 rfl) rfl ?_
  refine GS.v (V.ld (b := nb) (off := 0 + 1) (wf := true) (l := nodeR path idx wild nt pr (.slice (some ⟨rb, 0, none⟩) kids.length cap) hv full) (T := 107) (fz := (0, 0)) (v := S idx) Try.isAgg9 rfl (.tail _ (.head _)) rfl) rfl ?_
  refine GS.v (V.mv rfl) rfl ?_
  refine GS.v (V.slH (j := j) Try.underlying9 rfl rfl (by omega)) rfl ?_
  refine GS.v (V.mv rfl) rfl ?_
  refine GS.v (V.nc rfl) rfl ?_
  refine GS.v (V.fa F107_1 rfl) rfl ?_
  refine GS.v (V.ld (b := nb) (off := 0 + 1) (wf := true) (l := nodeR path idx wild nt pr (.slice (some ⟨rb, 0, none⟩) kids.length cap) hv full) (T := 107) (fz := (0, 0)) (v := S idx) Try.isAgg9 rfl (.tail _ (.head _)) rfl) rfl ?_
  refine GS.v (V.mv rfl) rfl ?_
  refine GS.v (V.mv rfl) rfl ?_
  refine GS.v (V.addI (r := ((pos + 1 : Nat) : Int)) rfl rfl rfl (by omega) (by omega)) rfl ?_
  refine GS.v (V.slLHe (i := pos) (j := pos + 1) (l' := (idx.drop pos).take 1) Try.underlying9 rfl rfl rfl (by omega) (by omega) (by rw [List.take_drop, Nat.add_comm])) rfl ?_
  refine GS.v (V.cat rfl rfl (by simp; omega)) rfl ?_
  refine GS.v (V.mv rfl) rfl ?_
  refine GS.v (V.nc rfl) rfl ?_
  refine GS.v (V.fa F107_1 rfl) rfl ?_
  refine GS.v (V.ld (b := nb) (off := 0 + 1) (wf := true) (l := nodeR path idx wild nt pr (.slice (some ⟨rb, 0, none⟩) kids.length cap) hv full) (T := 107) (fz := (0, 0)) (v := S idx) Try.isAgg9 rfl (.tail _ (.head _)) rfl) rfl ?_
  refine GS.v (V.mv rfl) rfl ?_
  refine GS.v (V.mv rfl) rfl ?_
  refine GS.v (V.slLH (i := j) (j := pos) Try.underlying9 rfl rfl rfl (by omega) (by omega)) rfl ?_
  refine GS.v (V.cat rfl rfl (by simp; omega)) rfl ?_
  refine GS.v (V.mv rfl) rfl ?_
  refine GS.v (V.nc rfl) rfl ?_
  refine GS.v (V.fa F107_1 rfl) rfl ?_
  refine GS.v (V.ld (b := nb) (off := 0 + 1) (wf := true) (l := nodeR path idx wild nt pr (.slice (some ⟨rb, 0, none⟩) kids.length cap) hv full) (T := 107) (fz := (0, 0)) (v := S idx) Try.isAgg9 rfl (.tail _ (.head _)) rfl) rfl ?_
  refine GS.v (V.mv rfl) rfl ?_
  refine GS.v (V.addI (r := ((pos + 1 : Nat) : Int)) rfl rfl rfl (by omega) (by omega)) rfl ?_
  refine GS.v (V.slL (i := pos + 1) Try.underlying9 rfl rfl (by omega)) rfl ?_
  refine GS.v (V.cat rfl rfl (by simp; omega)) rfl ?_
  refine GS.nil ?_
  refine G.v (V.nc rfl) rfl ?_
  refine G.v (V.fa F107_1 rfl) rfl ?_
  refine G.st (b := nb) (off := 0 + 1) (l := nodeR path idx wild nt pr (.slice (some ⟨rb, 0, none⟩) kids.length cap) hv full) (T := 107) (fz := (0, 0)) (v := S (moveTo idx pos j)) Try.sizeOf9 rfl rfl rfl (.s .z) rfl rfl ?_
  refine G.nil ?_
  refine GC.seq ?_
  refine GC.reg ?_
  refine G.m1 ?_
  refine G.m2 ?_
  refine G.nil ?_
  obtain ⟨Hk2, hk2, hperm2⟩ := hk1.move (pos := pos) (np := j) hjp
  refine GC.ret1 rfl rfl fun w' hw' => ⟨by rw [hbump, hnpe], _, Hk2, by rw [hbump, hnpe]; exact Own.turn (ys := (moveTo bs pos j).map (Pt · 0)) hs (by rw [List.length_map, List.length_map, moveTo_len bs hjp (by omega)]), by rw [hbump, hnpe]; exact hk2, ?_⟩
  rw [hbump, hnpe, if_pos hne]
  refine HF.perm hw' ?_
  exact (List.Perm.swap _ _ _).trans (.cons _ (.cons _ hperm2.symm))
 refine GC.skip ?_
 refine GC.seq ?_
 refine GC.reg ?_
 refine G.m1 ?_
 refine G.m2 ?_
 refine G.nil ?_
 obtain ⟨Hk2, hk2, hperm2⟩ := hk1.move (pos := pos) (np := j) hjp
 refine GC.ret1 rfl rfl fun w' hw' => ⟨by rw [hbump, hnpe], _, Hk2, by rw [hbump, hnpe]; exact Own.turn (ys := (moveTo bs pos j).map (Pt · 0)) hs (by rw [List.length_map, List.length_map, moveTo_len bs hjp (by omega)]), by rw [hbump, hnpe]; exact hk2, ?_⟩
 rw [hbump, hnpe, if_neg (by simp at h64; omega)]
 refine HF.perm hw' ?_
 exact (List.Perm.swap _ _ _).trans (.cons _ (.cons _ hperm2.symm))
end Go.Proofs

/- Routes as tokens; their texts; where a text parts from a node's path. No program in sight. -/
namespace Gt
open Gs
inductive Tok where
  | b (c : UInt8) | P (n : List UInt8) | A (n : List UInt8)
deriving DecidableEq
def txt : List Tok → List UInt8
  | [] => []
  | .b c :: s => c :: txt s
  | .P n :: s => 58 :: (n ++ txt s)
  | .A n :: s => 42 :: (n ++ txt s)
def bs (l : List UInt8) : List Tok := l.map .b
def plainB (c : UInt8) : Prop := c ≠ 58 ∧ c ≠ 42
def word (n : List UInt8) : Prop := n ≠ [] ∧ ∀ c ∈ n, c ≠ 47 ∧ c ≠ 58 ∧ c ≠ 42
/-- tokens that may follow; sl: a slash is ahead -/
def Ok : Bool → List Tok → Prop
  | _, [] => True
  | _, .b c :: s => plainB c ∧ Ok (c == 47) s
  | sl, .P n :: s => sl = true ∧ word n ∧ (s = [] ∨ ∃ r, s = .b 47 :: r) ∧ Ok false s
  | sl, .A n :: s => sl = true ∧ word n ∧ s = []
def noA : List Tok → Bool
  | .A _ :: _ => false
  | _ => true
def parts : Tok → Tok → Bool
  | .A _, _ => false
  | .b _, .A _ => false
  | .P _, .A _ => false
  | .P _, .P _ => false
  | .b _, .b _ => true
  | .b _, .P _ => true
  | .P _, .b _ => true
/-- GinApart on tokens -/
def apart : List Tok → List Tok → Bool
  | [], [] => false
  | [], y :: r => noA (y :: r)
  | x :: s, [] => noA (x :: s)
  | x :: s, y :: r => if x = y then apart s r else parts x y
theorem txt_app : ∀ (s r : List Tok), txt (s ++ r) = txt s ++ txt r
  | [], r => rfl
  | .b c :: s, r => by simp [txt, txt_app s r]
  | .P n :: s, r => by simp [txt, txt_app s r]
  | .A n :: s, r => by simp [txt, txt_app s r]
theorem txt_bs : ∀ l : List UInt8, txt (bs l) = l
  | [] => rfl
  | c :: l => by simp only [bs, List.map_cons, txt, List.cons.injEq, true_and]; exact txt_bs l
theorem bs_app (a c : List UInt8) : bs (a ++ c) = bs a ++ bs c := List.map_append
theorem bs_len (a : List UInt8) : (bs a).length = a.length := List.length_map _
theorem parts_comm (x y : Tok) : parts x y = parts y x := by cases x <;> cases y <;> rfl
theorem apart_cons (x : Tok) (s r : List Tok) : apart (x :: s) (x :: r) = apart s r := by simp [apart]
theorem apart_ne {x y : Tok} (h : x ≠ y) (s r : List Tok) : apart (x :: s) (y :: r) = parts x y := by simp [apart, h]
theorem apart_comm : ∀ (s r : List Tok), apart s r = apart r s
  | [], [] => rfl
  | [], y :: r => rfl
  | x :: s, [] => rfl
  | x :: s, y :: r => by
    by_cases h : x = y
    · subst h; rw [apart_cons, apart_cons, apart_comm s r]
    · rw [apart_ne h, apart_ne fun e => h e.symm, parts_comm]
theorem apart_self : ∀ s : List Tok, apart s s = false
  | [] => rfl
  | x :: s => by rw [apart_cons]; exact apart_self s
theorem apart_app (l : List Tok) (s r : List Tok) : apart (l ++ s) (l ++ r) = apart s r := by
  induction l with
  | nil => rfl
  | cons x l ih => rw [List.cons_append, List.cons_append, apart_cons]; exact ih
theorem apart_b {c d : UInt8} (h : c ≠ d) (s r : List Tok) : apart (.b c :: s) (.b d :: r) = true := apart_ne (by simpa using h) s r
theorem apart_bP (c : UInt8) (n : List UInt8) (s r : List Tok) : apart (.b c :: s) (.P n :: r) = true := apart_ne (by simp) s r
theorem apart_PP {m n : List UInt8} (h : m ≠ n) (s r : List Tok) : apart (.P m :: s) (.P n :: r) = false := apart_ne (by simpa using h) s r
/-- where the text of tokens parts from plain bytes -/
theorem lcp_tok : ∀ (p : List UInt8) (s : List Tok), (∀ c ∈ p, plainB c) → ∃ i s', i ≤ p.length ∧ s = bs (p.take i) ++ s' ∧ lcp (txt s) p = i ∧ (txt s).drop i = txt s' ∧ (∀ c, p[i]? = some c → s'.head? ≠ some (.b c))
  | [], s, _ => ⟨0, s, Nat.le_refl _, by simp [bs], lcp_nil' _, rfl, fun c h => by simp at h⟩
  | a :: p, [], _ => ⟨0, [], Nat.zero_le _, by simp [bs], by simp [txt, lcp], rfl, fun c _ => by simp⟩
  | a :: p, .b c :: s, h => by
    by_cases e : c = a
    · subst e
      obtain ⟨i, s', h1, h2, h3, h4, h5⟩ := lcp_tok p s fun x hx => h x (.tail _ hx)
      refine ⟨i + 1, s', by simpa using h1, ?_, ?_, ?_, fun d hd => h5 d (by simpa using hd)⟩
      · simp only [List.take_succ_cons, bs, List.map_cons, List.cons_append, List.cons.injEq, true_and]; exact h2
      · simp only [txt, lcp, if_true, h3]
      · simpa [txt] using h4
    · refine ⟨0, .b c :: s, Nat.zero_le _, by simp [bs], ?_, rfl, fun d hd => ?_⟩
      · simp only [txt, lcp, if_neg e]
      · simp at hd; subst hd; simpa using e
  | a :: p, .P n :: s, h => by
    have ha := (h a (.head _)).1
    refine ⟨0, .P n :: s, Nat.zero_le _, by simp [bs], ?_, rfl, fun d _ => by simp⟩
    simp only [txt, lcp, if_neg fun e : (58 : UInt8) = a => ha e.symm]
  | a :: p, .A n :: s, h => by
    have ha := (h a (.head _)).2
    refine ⟨0, .A n :: s, Nat.zero_le _, by simp [bs], ?_, rfl, fun d _ => by simp⟩
    simp only [txt, lcp, if_neg fun e : (42 : UInt8) = a => ha e.symm]
/-! findWildcard -/
theorem fw_plain : ∀ (p : List UInt8) (i : Nat), (∀ c ∈ p, plainB c) → fw p i = none
  | [], _, _ => rfl
  | c :: p, i, h => by
    have hc := h c (.head _)
    unfold fw
    rw [if_neg (by rintro (e | e); exact hc.1 e; exact hc.2 e)]
    exact fw_plain p _ fun x hx => h x (.tail _ hx)
theorem fw_pre : ∀ (p q : List UInt8) (i : Nat), (∀ c ∈ p, plainB c) → fw (p ++ q) i = fw q (i + p.length)
  | [], q, i, _ => by simp
  | c :: p, q, i, h => by
    have hc := h c (.head _)
    rw [List.cons_append]
    conv => lhs; unfold fw
    rw [if_neg (by rintro (e | e); exact hc.1 e; exact hc.2 e), fw_pre p q _ fun x hx => h x (.tail _ hx)]
    simp; congr 1; omega
theorem takeW {n t : List UInt8} (hn : ∀ c ∈ n, c ≠ 47) (ht : t = [] ∨ ∃ r, t = 47 :: r) : (n ++ t).takeWhile (· ≠ 47) = n := by
  induction n with
  | nil => rcases ht with rfl | ⟨r, rfl⟩ <;> simp
  | cons c n ih =>
    rw [List.cons_append, List.takeWhile_cons_of_pos (by simpa using hn c (.head _)), ih fun x hx => hn x (.tail _ hx)]
theorem fw_P {pre n t : List UInt8} (hp : ∀ c ∈ pre, plainB c) (hn : word n) (ht : t = [] ∨ ∃ r, t = 47 :: r) : fw (pre ++ 58 :: (n ++ t)) 0 = some (58 :: n, pre.length) := by
  rw [fw_pre _ _ _ hp]
  unfold fw
  rw [if_pos (.inl rfl), takeW (fun c hc => (hn.2 c hc).1) ht]; simp
theorem fw_A {pre n : List UInt8} (hp : ∀ c ∈ pre, plainB c) (hn : word n) : fw (pre ++ 42 :: n) 0 = some (42 :: n, pre.length) := by
  rw [fw_pre _ _ _ hp]
  unfold fw
  rw [if_pos (.inr rfl)]
  have := takeW (t := []) (fun c hc => (hn.2 c hc).1) (.inl rfl)
  rw [List.append_nil] at this
  rw [this]; simp
/-- tokens: plain bytes, then the end or a wildcard -/
theorem tok_split : ∀ (sl : Bool) (s : List Tok), Ok sl s → ∃ (pre : List UInt8) (r : List Tok), s = bs pre ++ r ∧ (∀ c ∈ pre, plainB c) ∧ Ok (if pre = [] then sl else pre.getLast? == some 47) r ∧ (r = [] ∨ (∃ n q, r = .P n :: q) ∨ ∃ n, r = [.A n])
  | sl, [], _ => ⟨[], [], rfl, by simp, trivial, .inl rfl⟩
  | sl, .b c :: s, h => by
    obtain ⟨pre, r, h1, h2, h3, h4⟩ := tok_split (c == 47) s h.2
    refine ⟨c :: pre, r, by rw [h1]; rfl, fun x hx => ?_, ?_, h4⟩
    · rcases List.mem_cons.1 hx with rfl | hx
      · exact h.1
      · exact h2 x hx
    · rw [if_neg (by simp)]
      by_cases hp : pre = []
      · subst hp
        rw [if_pos rfl] at h3
        have : (([c] : List UInt8).getLast? == some 47) = (c == 47) := by simp
        rw [this]; exact h3
      · rw [if_neg hp] at h3
        obtain ⟨x, l, rfl⟩ := List.exists_cons_of_ne_nil hp
        rw [List.getLast?_cons_cons]; exact h3
  | sl, .P n :: q, h => ⟨[], .P n :: q, rfl, by simp, h, .inr (.inl ⟨n, q, rfl⟩)⟩
  | sl, .A n :: q, h => by
    have := h.2.2
    subst this
    exact ⟨[], [.A n], rfl, by simp, h, .inr (.inr ⟨n, rfl⟩)⟩
theorem txt_hd47 {s : List Tok} (h : s = [] ∨ ∃ r, s = .b 47 :: r) : txt s = [] ∨ ∃ r, txt s = 47 :: r := by
  rcases h with rfl | ⟨r, rfl⟩
  · exact .inl rfl
  · exact .inr ⟨_, rfl⟩
end Gt

/- findWildcard, where there is no backslash and each name is a word. Printed by wip/mk_gu5.py. -/
set_option maxRecDepth 20000
namespace Go.Proofs
open Go Bw
open Gt
theorem u_eq {x : UInt8} {k : Nat} (h : (x.toNat : Int) = (k : Int)) (hk : k < 256) : x = UInt8.ofNat k := by
 apply UInt8.toNat_inj.1
 rw [UInt8.toNat_ofNat']
 omega
theorem u58 {x : UInt8} (h : (x.toNat : Int) = 58) : x = 58 := u_eq (k := 58) h (by omega)
theorem u42 {x : UInt8} (h : (x.toNat : Int) = 42) : x = 42 := u_eq (k := 42) h (by omega)
theorem u47 {x : UInt8} (h : (x.toNat : Int) = 47) : x = 47 := u_eq (k := 47) h (by omega)
theorem u92 {x : UInt8} (h : (x.toNat : Int) = 92) : x = 92 := u_eq (k := 92) h (by omega)
theorem fw_step {p : List UInt8} {i : Nat} {x : UInt8} (hx : p[i]? = some x) (h1 : x ≠ 58) (h2 : x ≠ 42) : fw (p.drop i) i = fw (p.drop (i + 1)) (i + 1) := by
 rw [drop_cons hx]
 conv => lhs; unfold fw
 rw [if_neg (by rintro (e | e); exact h1 e; exact h2 e)]
theorem fw_hit {p : List UInt8} {i : Nat} {x : UInt8} (hx : p[i]? = some x) (h : x = 58 ∨ x = 42) : fw (p.drop i) i = some (x :: (p.drop (i + 1)).takeWhile (· ≠ 47), i) := by
 rw [drop_cons hx]
 conv => lhs; unfold fw
 rw [if_pos h]
theorem tw_stop : ∀ {q : List UInt8} {e : Nat}, (∀ k, k < e → ∀ c, q[k]? = some c → c ≠ 47) → (q[e]? = some 47 ∨ q.length ≤ e) → q.takeWhile (· ≠ 47) = q.take e
 | [], e, _, _ => by simp
 | c :: q, 0, _, h => by
  rcases h with h | h
  ·have : c = 47 := by simpa using h
   subst this; simp
  ·simp at h
 | c :: q, e + 1, h1, h2 => by
  have hc := h1 0 (by omega) c rfl
  rw [List.takeWhile_cons_of_pos (by simpa using hc), List.take_succ_cons, tw_stop (e := e) (fun k hk d hd => h1 (k + 1) (by omega) d (by simpa using hd)) (by simpa using h2)]
def fwV (o : Option (List UInt8 × Nat)) : Value := match o with
 | none => .tuple #[S [], I (-1), .bool false]
 | some (wc, i) => .tuple #[S wc, I (i : Int), .bool true]
theorem tw_app : ∀ {q : List UInt8} {k : Nat}, k < q.length → (∀ j, j < k + 1 → ∀ c, q[j]? = some c → c ≠ 47) → q.takeWhile (· ≠ 47) = q.take (k + 1) ++ (q.drop (k + 1)).takeWhile (· ≠ 47)
 | [], k, h, _ => by simp at h
 | c :: q, 0, _, h => by
  have hc := h 0 (by omega) c rfl
  rw [List.takeWhile_cons_of_pos (by simpa using hc)]; simp
 | c :: q, k + 1, hk, h => by
  have hc := h 0 (by omega) c rfl
  rw [List.takeWhile_cons_of_pos (by simpa using hc), tw_app (by simpa using hk) (fun j hj d hd => h (j + 1) (by omega) d (by simpa using hd))]
  rfl
theorem f88_any (w : World) (p : List UInt8) (h92 : ∀ c ∈ p, c ≠ 92) (hwc : ∀ wc i, fw p 0 = some (wc, i) → ∀ c ∈ wc.tail, c ≠ 58 ∧ c ≠ 42) (hl : p.length ≤ 100000) : Calls Try.prog 88 #[S p] w fun e w' => e = .returned (fwV (fw p 0)) ∧ HF w (fun _ => False) [] w' := by
 refine enter (fun _ => False) [] Try.func88 rfl Try.ntmps88 rfl rfl (HF.start w _) fun c hc => ?_
 subst hc
 refine GC.seq ?_
 refine GC.reg ?_
 refine G.m2 ?_
 refine G.m2 ?_
 refine G.m2 ?_
 refine G.nil ?_
 refine GC.seq ?_
 refine GC.reg ?_
 refine G.m2 ?_
 refine G.nil ?_
 refine GC.seq ?_
 refine GC.seq ?_
 refine GC.reg ?_
 refine G.m1 ?_
 refine G.cvSB Try.underlying9 Try.underlying68 Try.underlying5 rfl rfl (fun rb cp z fz hrb hcp => ?_)
 refine G.v (V.lenL Try.underlying68 rfl) rfl ?_
 refine G.m1 ?_
 refine G.nil ?_
 refine GC.block ?_
 refine GC.loopJ (fun N fr' H' => ∃ i, i + N = p.length ∧ fw p 0 = fw (p.drop i) i ∧ Sub [(0, S p), (5, .bool false), (11, .slice (some ⟨rb, 0, none⟩) p.length cp), (12, I (p.length : Nat)), (13, I ((i : Nat) : Int))] fr' ∧ H' = [⟨rb, true, .row (bC (p ++ z)) 5 fz⟩]) p.length
  ⟨0, by omega, rfl, .of rfl, rfl⟩ ?_
 rintro N fr' H' ⟨i, hi, hfw, hs, rfl⟩ ih
 refine GC.weak hs ?_
 clear hs
 refine GC.seq ?_
 refine GC.reg ?_
 refine G.v (V.lt rfl rfl) rfl ?_
 refine G.nil ?_
 refine GC.seq ?_
 refine GC.condD rfl (fun h14 => ?_) (fun h14 => ?_)
 ·refine GC.skip ?_
  refine GC.seq ?_
  refine GC.block ?_
  refine GC.seq ?_
  have hlt : i < p.length := by omega
  obtain ⟨x, hx⟩ : ∃ x, p[i]? = some x := ⟨_, List.getElem?_eq_getElem hlt⟩
  have hx92 := h92 x (List.mem_of_getElem? hx)
  refine GC.reg ?_
  refine G.m1 ?_
  refine G.v (V.ia (i := i) Try.underlying68 Try.sizeOf5 rfl rfl hlt) rfl ?_
  refine G.v (V.ld (b := rb) (off := 0 + i * 1) (wf := true) (l := bC (p ++ z)) (T := 5) (fz := fz) (v := .int .u8 (x.toNat : Int)) Try.isAgg5 rfl (.head _) (by rw [nth_eq, Nat.zero_add, Nat.mul_one, bC_app, List.getElem?_append_left (by rw [bC_len]; exact hlt)]; simp [bC, Lib.byteCells, hx])) rfl ?_
  refine G.m2 ?_
  refine G.m2 ?_
  refine G.nil ?_
  refine GC.seq ?_
  refine GC.seq ?_
  refine GC.reg ?_
  refine G.m1 ?_
  refine G.nil ?_
  refine GC.condF rfl ?_
  refine GC.skip ?_
  refine GC.seq ?_
  refine GC.seq ?_
  refine GC.reg ?_
  refine G.m1 ?_
  refine G.v (V.eqI rfl rfl) rfl ?_
  refine G.nil ?_
  refine GC.condD rfl (fun h26 => absurd (u92 h26) hx92) (fun h26 => ?_)
  refine GC.skip ?_
  refine GC.seq ?_
  refine GC.seq ?_
  refine GC.join (fun fr' H' => ∃ t : Bool, (t = true → x ≠ 58 ∧ x ≠ 42) ∧ (t = false → x = 58 ∨ x = 42) ∧ Sub [(0, S p), (5, .bool false), (11, .slice (some ⟨rb, 0, none⟩) p.length cp), (12, I (p.length : Nat)), (13, I ((i : Nat) : Int)), (6, I ((i : Nat) : Int)), (32, .bool t)] fr' ∧ H' = [⟨rb, true, .row (bC (p ++ z)) 5 fz⟩]) (fun J11 => ?_) ?_
  ·refine GC.reg ?_
   refine G.m1 ?_
   refine G.v (V.neI rfl rfl) rfl ?_
   refine G.m1 ?_
   refine G.bc 29 rfl (fun h29 => ?_) (fun h29 => ?_)
   ·refine G.m5 ?_
    refine G.vg rfl rfl (V.neI rfl rfl) rfl ?_
    refine G.m3 ?_
    refine G.nil ?_
    have h1 : x ≠ 58 := fun e => by rw [e] at h29; exact absurd h29 (by decide)
    refine J11 _ _ ⟨_, fun h => ⟨h1, fun e => by rw [e] at h; exact absurd h (by decide)⟩, fun h => .inr (u42 (by simpa using h)), .of rfl, rfl⟩
   ·refine G.s1 ?_
    refine G.s1 ?_
    refine G.m4 ?_
    refine G.nil ?_
    exact J11 _ _ ⟨false, fun h => (by cases h), fun _ => .inl (u58 (by simpa using h29)), .of rfl, rfl⟩
  rintro fr' H' ⟨t, ht1, ht2, hs11, rfl⟩
  refine GC.weak hs11 ?_
  clear hs11
  refine GC.cond rfl (fun h32 => ?_) (fun h32 => ?_)
  ·refine GC.exit rfl ?_
   refine GC.reg ?_
   refine G.v (V.addI (r := ((i + 1 : Nat) : Int)) rfl rfl rfl (by omega) (by omega)) rfl ?_
   refine G.m1 ?_
   refine G.nil ?_
   exact ih (N - 1) _ _ (by omega) ⟨i + 1, by omega, by rw [hfw, fw_step hx (ht1 h32).1 (ht1 h32).2], .of rfl, rfl⟩
  refine GC.skip ?_
  refine GC.seq ?_
  have hw := ht2 h32
  obtain ⟨q, hq⟩ : ∃ q, q = p.drop (i + 1) := ⟨_, rfl⟩
  have hql : q.length = p.length - (i + 1) := by rw [hq, List.length_drop]
  have hres : fw p 0 = some (x :: q.takeWhile (· ≠ 47), i) := by rw [hfw, fw_hit hx hw, hq]
  refine GC.reg ?_
  refine G.m2 ?_
  refine G.nil ?_
  refine GC.seq ?_
  refine GC.seq ?_
  refine GC.reg ?_
  refine G.m1 ?_
  refine G.m1 ?_
  refine G.v (V.addI (r := ((i + 1 : Nat) : Int)) rfl rfl rfl (by omega) (by omega)) rfl ?_
  refine G.v (V.slL (i := i + 1) Try.underlying9 rfl rfl (by omega)) rfl ?_
  rw [← hq]
  refine G.cvSB Try.underlying9 Try.underlying68 Try.underlying5 rfl rfl (fun rq cq zq fq hrq hcq => ?_)
  refine G.v (V.lenL Try.underlying68 rfl) rfl ?_
  refine G.m1 ?_
  refine G.nil ?_
  refine GC.block ?_
  refine GC.loopJ (fun N fr' H' => ∃ k, k + N = q.length ∧ (∀ j, j < k → ∀ c, q[j]? = some c → c ≠ 47) ∧ Sub [(0, S p), (4, .bool true), (6, I ((i : Nat) : Int)), (37, .slice (some ⟨rq, 0, none⟩) q.length cq), (38, I (q.length : Nat)), (39, I ((k : Nat) : Int))] fr' ∧ H' = [⟨rq, true, .row (bC (q ++ zq)) 5 fq⟩, ⟨rb, true, .row (bC (p ++ z)) 5 fz⟩]) q.length
   ⟨0, by omega, fun j h => by omega, .of rfl, rfl⟩ ?_
  rintro N2 fr' H' ⟨k, hk, hall, hs2, rfl⟩ ih2
  refine GC.weak hs2 ?_
  clear hs2
  refine GC.seq ?_
  refine GC.reg ?_
  refine G.v (V.lt rfl rfl) rfl ?_
  refine G.nil ?_
  refine GC.seq ?_
  refine GC.condD rfl (fun h40 => ?_) (fun h40 => ?_)
  ·refine GC.skip ?_
   refine GC.seq ?_
   refine GC.block ?_
   refine GC.seq ?_
   have hklt : k < q.length := by omega
   obtain ⟨y, hy⟩ : ∃ y, q[k]? = some y := ⟨_, List.getElem?_eq_getElem hklt⟩
   refine GC.reg ?_
   refine G.m1 ?_
   refine G.v (V.ia (i := k) Try.underlying68 Try.sizeOf5 rfl rfl hklt) rfl ?_
   refine G.v (V.ld (b := rq) (off := 0 + k * 1) (wf := true) (l := bC (q ++ zq)) (T := 5) (fz := fq) (v := .int .u8 (y.toNat : Int)) Try.isAgg5 rfl (.head _) (by rw [nth_eq, Nat.zero_add, Nat.mul_one, bC_app, List.getElem?_append_left (by rw [bC_len]; exact hklt)]; simp [bC, Lib.byteCells, hy])) rfl ?_
   refine G.m2 ?_
   refine G.m2 ?_
   refine G.nil ?_
   refine GC.seq ?_
   refine GC.reg ?_
   refine G.m1 ?_
   refine G.nil ?_
   refine GC.block ?_
   refine GC.seq ?_
   refine GC.reg ?_
   refine G.v (V.eqI rfl rfl) rfl ?_
   refine G.m2 ?_
   refine G.nil ?_
   refine GC.condD rfl (fun h45 => ?_) (fun h45 => ?_)
   ·refine GC.seq ?_
    refine GC.reg ?_
    refine G.m1 ?_
    refine G.m1 ?_
    refine G.m1 ?_
    refine G.v (V.addI (r := ((i + 1 : Nat) : Int)) rfl rfl rfl (by omega) (by omega)) rfl ?_
    refine G.m1 ?_
    refine G.v (V.addI (r := ((i + 1 + k : Nat) : Int)) rfl rfl (by omega) (by omega) (by omega)) rfl ?_
    have hy47 := u47 h45
    subst hy47
    have htw := tw_stop hall (.inl hy)
    have hsl : (p.take (i + 1 + k)).drop i = x :: q.takeWhile (· ≠ 47) := by
     rw [htw, hq, List.drop_take, drop_cons hx, show i + 1 + k - i = k + 1 by omega, List.take_succ_cons]
    refine G.v (V.slLHe (i := i) (j := i + 1 + k) Try.underlying9 rfl rfl rfl (by omega) (by omega) hsl) rfl ?_
    refine G.m1 ?_
    refine G.m1 ?_
    refine G.m2 ?_
    refine G.m2 ?_
    refine G.m2 ?_
    refine G.nil ?_
    refine GC.ret3 rfl rfl rfl rfl fun w' hw' => ⟨by rw [hres]; rfl, hw'.sub (List.nil_sublist _)⟩
   refine GC.seq ?_
   refine GC.seq ?_
   have hyw := h45
   have hy58 : y ∈ q.takeWhile (· ≠ 47) → y ≠ 58 ∧ y ≠ 42 := fun hm => hwc _ _ hres y hm
   have hym : y ≠ 47 := fun e => h45 (by rw [e]; rfl)
   have hyin : y ∈ q.takeWhile (· ≠ 47) := by
    have h1 : q.takeWhile (· ≠ 47) = q.take (k + 1) ++ (q.drop (k + 1)).takeWhile (· ≠ 47) := tw_app hklt (fun j hj c hc => by
     by_cases e : j = k
     ·subst e; rw [hy] at hc; cases hc; exact hym
     ·exact hall j (by omega) c hc)
    rw [h1]
    exact List.mem_append_left _ (List.mem_of_getElem? (i := k) (by rw [List.getElem?_take_of_lt (by omega)]; exact hy))
   have hyne := hy58 hyin
   refine GC.reg ?_
   refine G.v (V.eqI rfl rfl) rfl ?_
   refine G.m2 ?_
   refine G.nil ?_
   refine GC.cond rfl (fun h56 => absurd (u58 (by simpa using h56)) hyne.1) (fun h56 => ?_)
   refine GC.reg ?_
   refine G.v (V.eqI rfl rfl) rfl ?_
   refine G.m2 ?_
   refine G.nil ?_
   refine GC.cond rfl (fun h56 => absurd (u42 (by simpa using h56)) hyne.2) (fun h56 => ?_)
   refine GC.skip ?_
   refine GC.inBlock ?_
   refine GC.inBlock ?_
   refine GC.reg ?_
   refine G.v (V.addI (r := ((k + 1 : Nat) : Int)) rfl rfl rfl (by omega) (by omega)) rfl ?_
   refine G.m1 ?_
   refine G.nil ?_
   refine ih2 (N2 - 1) _ _ (by omega) ⟨k + 1, by omega, fun j hj c hc => ?_, .of rfl, rfl⟩
   by_cases e : j = k
   ·subst e; rw [hy] at hc; cases hc; exact hym
   ·exact hall j (by omega) c hc
  refine GC.exit rfl ?_
  refine GC.seq ?_
  refine GC.reg ?_
  refine G.m1 ?_
  refine G.m1 ?_
  refine G.v (V.slL (i := i) Try.underlying9 rfl rfl (by omega)) rfl ?_
  refine G.m1 ?_
  refine G.m1 ?_
  refine G.m2 ?_
  refine G.m2 ?_
  refine G.m2 ?_
  refine G.nil ?_
  have htw := tw_stop hall (.inr (by omega))
  have htk : q.take k = q := List.take_of_length_le (by omega)
  refine GC.ret3 rfl rfl rfl rfl fun w' hw' => ⟨?_, hw'.sub (List.nil_sublist _)⟩
  rw [hres, htw, htk, drop_cons hx, ← hq]; rfl
 refine GC.exit rfl ?_
 refine GC.seq ?_
 refine GC.reg ?_
 refine G.m2 ?_
 refine G.m2 ?_
 refine G.m2 ?_
 refine G.nil ?_
 have hie : i = p.length := by omega
 refine GC.ret3 rfl rfl rfl rfl fun w' hw' => ⟨?_, hw'.sub (List.nil_sublist _)⟩
 rw [hfw, hie, List.drop_length]; rfl
end Go.Proofs

/- insertChild: the pieces of its loop: no wildcard; a parameter at the end or with more behind it. Printed by wip/mk_gu6.py. -/
set_option maxRecDepth 20000
namespace Go.Proofs
open Go Bw
open Gt
theorem bd_par (wc full : List UInt8) (w : World) : (Instr.build 107 #[(3, .int .u8 2), (0, S wc), (7, S full)]).run Try.prog w = .ok (.agg (nodeR wc [] false 2 0 (.slice none 0 0) (.slice none 0 0) full).toArray) w := by
 simp [Instr.build, Try.zeroValue107, Try.runUnderlying107, Try.sizeOf9, Try.sizeOf4, Try.sizeOf103, Try.sizeOf104, Try.sizeOf105, Try.sizeOf94, cells_agg, Instr.fill, cells_str, cells_int, nodeR]
theorem bd_sub (full : List UInt8) (w : World) : (Instr.build 107 #[(4, .int .u32 1), (7, S full)]).run Try.prog w = .ok (.agg (nodeR [] [] false 0 1 (.slice none 0 0) (.slice none 0 0) full).toArray) w := by
 simp [Instr.build, Try.zeroValue107, Try.runUnderlying107, Try.sizeOf9, Try.sizeOf4, Try.sizeOf103, Try.sizeOf104, Try.sizeOf105, Try.sizeOf94, cells_agg, Instr.fill, cells_str, cells_int, nodeR]
theorem bd_ca (full : List UInt8) (w : World) : (Instr.build 107 #[(2, .bool true), (3, .int .u8 3), (7, S full)]).run Try.prog w = .ok (.agg (nodeR [] [] true 3 0 (.slice none 0 0) (.slice none 0 0) full).toArray) w := by
 simp [Instr.build, Try.zeroValue107, Try.runUnderlying107, Try.sizeOf9, Try.sizeOf4, Try.sizeOf103, Try.sizeOf104, Try.sizeOf105, Try.sizeOf94, cells_agg, Instr.fill, cells_str, cells_bool, cells_int, nodeR]
theorem bd_cb (p full : List UInt8) (hb : Nat) (w : World) : (Instr.build 107 #[(0, S p), (3, .int .u8 3), (6, .slice (some ⟨hb, 0, none⟩) 1 1), (4, .int .u32 1), (7, S full)]).run Try.prog w = .ok (.agg (nodeR p [] false 3 1 (.slice none 0 0) (.slice (some ⟨hb, 0, none⟩) 1 1) full).toArray) w := by
 simp [Instr.build, Try.zeroValue107, Try.runUnderlying107, Try.sizeOf9, Try.sizeOf4, Try.sizeOf103, Try.sizeOf104, Try.sizeOf105, Try.sizeOf94, cells_agg, Instr.fill, cells_str, cells_int, cells_sl, nodeR]
theorem bd_new (full : List UInt8) (w : World) : (Instr.build 107 #[(7, S full)]).run Try.prog w = .ok (.agg (nodeR [] [] false 0 0 (.slice none 0 0) (.slice none 0 0) full).toArray) w := by
 simp [Instr.build, Try.zeroValue107, Try.runUnderlying107, Try.sizeOf9, Try.sizeOf4, Try.sizeOf103, Try.sizeOf104, Try.sizeOf105, Try.sizeOf94, cells_agg, Instr.fill, cells_str, nodeR]
def splitLoop : Code → List Item → Option (List Item)
 | .seq a b, k => match splitLoop a (.code b :: k) with
  | some r => some r
  | none => splitLoop b k
 | .block id (.loop x), k => some (.code x :: .inLoop x :: .inBlock id :: k)
 | .scope a, k => splitLoop a (.inScope a :: k)
 | _, _ => none
/-- insertChild's loop -/
noncomputable def K79 : List Item := (splitLoop ((Try.f79.body).getD .skip) []).getD []
theorem addKid_len {α : Type} (wild : Bool) (ks : List (Tr α)) (k : Tr α) : (addKid wild ks k).length = ks.length + 1 := by
 unfold addKid
 split
 ·rename_i h
  have := List.length_pos_iff.2 h.2
  rw [List.getLast?_eq_some_getLast h.2]
  simp; omega
 ·simp
theorem addB_len (wild : Bool) (ks : List Nat) (k : Nat) : (addB wild ks k).length = ks.length + 1 := by
 unfold addB
 split
 ·rename_i h
  have := List.length_pos_iff.2 h.2
  rw [List.getLast?_eq_some_getLast h.2]
  simp; omega
 ·simp
theorem f79_none {R : Ending → World → Prop} {w : World} {D : Nat → Prop} {nb hb num : Nat} {p full tp idx : List UInt8} {wl : Bool} {nt pr : Nat} {h0 : Option Nat} {f0 : List UInt8} {kids : List T0} {bs : List Nat} {kv hv : Value} {Hs Hh Hk Hr : SH} {fr : SF}
  (hs : Own 89 1 kv kids.length (bs.map (Pt · 0)) Hs) (_hh : HV h0 hv Hh) (hk : HTs kids bs Hk) (h92 : ∀ c ∈ p, c ≠ 92) (hpl : p.length ≤ 100000) (_hkl : kids.length ≤ 90000) (hsub : Sub [(0, Pt nb 0), (1, S p), (2, S full), (3, .slice (some ⟨hb, 0, none⟩) 1 1)] fr) (hf : fw p 0 = none)
  (fin : ∀ Hn' w', HT (.node () p idx wl nt pr (some num) full kids) nb Hn' → HF w D (Hn' ++ Hr) w' → R (.returned (.tuple #[])) w') : GC Try.prog ⟨79, Try.f79, R, w, D⟩ 221 K79 fr (⟨nb, true, .row (nodeR tp idx wl nt pr kv hv f0) 107 (0, 0)⟩ :: ((Hs ++ (Hh ++ Hk)) ++ (⟨hb, true, .row [I (num : Int)] 3 (0, 0)⟩ :: Hr))) := by
 refine GC.weak hsub ?_
 clear hsub
 obtain ⟨X, hX⟩ : ∃ X, X = (Hh ++ Hk) ++ (⟨hb, true, .row [I (num : Int)] 3 (0, 0)⟩ :: Hr) := ⟨_, rfl⟩
 refine GC.turn (H' := ⟨nb, true, .row (nodeR tp idx wl nt pr kv hv f0) 107 (0, 0)⟩ :: (Hs ++ X)) (fun w1 h1 => by rw [hX, ← List.append_assoc]; exact h1) ?_
 have hkl2 := hk.len
 have h88 : ∀ w1, Calls Try.prog 88 #[S p] w1 fun e w' => e = .returned (.tuple #[S [], I (-1), .bool false]) ∧ HF w1 (fun _ => False) [] w' := by
  intro w1
  have := f88_any w1 p h92 (fun wc i h => by rw [hf] at h; cases h) hpl
  rw [hf] at this; exact this
 refine GC.block ?_
 refine GC.seq ?_
 refine GC.reg ?_
 refine G.m1 ?_
 refine G.callP Try.call88 rfl rfl (fun w1 hw1 => h88 w1) ?_
 refine G.m1 ?_
 refine G.v (V.ex rfl rfl) rfl ?_
 refine G.v (V.ex rfl rfl) rfl ?_
 refine G.v (V.ex rfl rfl) rfl ?_
 refine G.m2 ?_
 refine G.m2 ?_
 refine G.m2 ?_
 refine G.nil ?_
 refine GC.seq ?_
 refine GC.seq ?_
 refine GC.reg ?_
 refine G.m1 ?_
 refine G.v (V.lt rfl rfl) rfl ?_
 refine G.nil ?_
 refine GC.condD rfl (fun h22 => ?_) (fun h22 => absurd h22 (by decide))
 refine GC.exit rfl ?_
 refine GC.seq ?_
 refine GC.reg ?_
 refine G.m1 ?_
 refine G.m1 ?_
 refine G.v (V.nc rfl) rfl ?_
 refine G.v (V.fa F107_0 rfl) rfl ?_
 refine G.st (b := nb) (off := 0 + 0) (l := nodeR tp idx wl nt pr kv hv f0) (T := 107) (fz := (0, 0)) (v := S p) Try.sizeOf9 rfl rfl rfl (.z) rfl rfl ?_
 refine G.nil ?_
 refine GC.seq ?_
 refine GC.turn (H' := ⟨nb, true, .row (nodeR p idx wl nt pr kv hv f0) 107 (0, 0)⟩ :: (Hs ++ X)) (fun w1 h1 => h1) ?_
 refine GC.reg ?_
 refine G.m1 ?_
 refine G.m1 ?_
 refine G.v (V.nc rfl) rfl ?_
 refine G.v (V.fa F107_6 rfl) rfl ?_
 refine G.st (b := nb) (off := 0 + 6) (l := nodeR p idx wl nt pr kv hv f0) (T := 107) (fz := (0, 0)) (v := .slice (some ⟨hb, 0, none⟩) 1 1) Try.sizeOf94 rfl rfl rfl (.z) rfl rfl ?_
 refine G.nil ?_
 refine GC.turn (H' := ⟨nb, true, .row (nodeR p idx wl nt pr kv (.slice (some ⟨hb, 0, none⟩) 1 1) f0) 107 (0, 0)⟩ :: (Hs ++ X)) (fun w1 h1 => h1) ?_
 refine GC.reg ?_
 refine G.m1 ?_
 refine G.m1 ?_
 refine G.v (V.nc rfl) rfl ?_
 refine G.v (V.fa F107_7 rfl) rfl ?_
 refine G.st (b := nb) (off := 0 + 7) (l := nodeR p idx wl nt pr kv (.slice (some ⟨hb, 0, none⟩) 1 1) f0) (T := 107) (fz := (0, 0)) (v := S full) Try.sizeOf9 rfl rfl rfl (.z) rfl rfl ?_
 refine G.nil ?_
 refine GC.turn (H' := ⟨nb, true, .row (nodeR p idx wl nt pr kv (.slice (some ⟨hb, 0, none⟩) 1 1) full) 107 (0, 0)⟩ :: (Hs ++ X)) (fun w1 h1 => h1) ?_
 refine GC.end0 rfl fun w' hw' => fin _ w' (HT.mk hs (HV.row (k := num) (hb := hb)) hk) ?_
 rw [hX] at hw'
 have p1 := perm_idx [[⟨nb, true, .row (nodeR p idx wl nt pr kv (.slice (some ⟨hb, 0, none⟩) 1 1) full) 107 (0, 0)⟩], Hs, Hh, Hk, [⟨hb, true, .row [I (num : Int)] 3 (0, 0)⟩], Hr] [0, 1, 2, 3, 4, 5] [2, 0, 1, 4, 3, 5] (by decide)
 have h2 := hw'.perm (H' := Hh ++ ((⟨nb, true, .row (nodeR p idx wl nt pr kv (.slice (some ⟨hb, 0, none⟩) 1 1) full) 107 (0, 0)⟩ :: (Hs ++ ([⟨hb, true, .row [I (num : Int)] 3 (0, 0)⟩] ++ Hk))) ++ Hr)) (by simpa using p1)
 exact h2.sub (List.sublist_append_right _ _)
/-- the node behind the parameter's insertion: a node whose path is cut at the wildcard -/
def cutP (tp p : List UInt8) (i : Nat) : List UInt8 := if 0 < i then p.take i else tp
theorem f79_pend {R : Ending → World → Prop} {w : World} {D : Nat → Prop} {nb hb num : Nat} {p full tp idx : List UInt8} {wl : Bool} {nt pr : Nat} {h0 : Option Nat} {f0 : List UInt8} {kids : List T0} {bs : List Nat} {kv hv : Value} {Hs Hh Hk Hr : SH} {fr : SF}
  (hs : Own 89 1 kv kids.length (bs.map (Pt · 0)) Hs) (hh : HV h0 hv Hh) (hk : HTs kids bs Hk) (h92 : ∀ c ∈ p, c ≠ 92) (hpl : p.length ≤ 100000) (hkl : kids.length ≤ 90000) (hsub : Sub [(0, Pt nb 0), (1, S p), (2, S full), (3, .slice (some ⟨hb, 0, none⟩) 1 1)] fr) (wc : List UInt8) (i : Nat) (hf : fw p 0 = some (58 :: wc, i)) (hwc : ∀ c ∈ wc, c ≠ 58 ∧ c ≠ 42) (hwn : wc ≠ []) (hi : i ≤ p.length) (hend : p.length = i + (wc.length + 1))
  (fin : ∀ Hn' w', HT (.node () (cutP tp p i) idx true nt pr h0 f0 (addKid wl kids (.node () (58 :: wc) [] false 2 1 (some num) full []))) nb Hn' → HF w D (Hn' ++ Hr) w' → R (.returned (.tuple #[])) w') : GC Try.prog ⟨79, Try.f79, R, w, D⟩ 221 K79 fr (⟨nb, true, .row (nodeR tp idx wl nt pr kv hv f0) 107 (0, 0)⟩ :: ((Hs ++ (Hh ++ Hk)) ++ (⟨hb, true, .row [I (num : Int)] 3 (0, 0)⟩ :: Hr))) := by
 refine GC.weak hsub ?_
 clear hsub
 obtain ⟨X, hX⟩ : ∃ X, X = (Hh ++ Hk) ++ (⟨hb, true, .row [I (num : Int)] 3 (0, 0)⟩ :: Hr) := ⟨_, rfl⟩
 refine GC.turn (H' := ⟨nb, true, .row (nodeR tp idx wl nt pr kv hv f0) 107 (0, 0)⟩ :: (Hs ++ X)) (fun w1 h1 => by rw [hX, ← List.append_assoc]; exact h1) ?_
 have hkl2 := hk.len
 have h88 : ∀ w1, Calls Try.prog 88 #[S p] w1 fun e w' => e = .returned (.tuple #[S (58 :: wc), I (i : Int), .bool true]) ∧ HF w1 (fun _ => False) [] w' := by
  intro w1
  have := f88_any w1 p h92 (fun wc2 i2 h => by rw [hf] at h; cases h; exact hwc) hpl
  rw [hf] at this; exact this
 have hwl := List.length_pos_iff.2 hwn
 have hcl : (58 :: wc).length = wc.length + 1 := rfl
 refine GC.block ?_
 refine GC.seq ?_
 refine GC.reg ?_
 refine G.m1 ?_
 refine G.callP Try.call88 rfl rfl (fun w1 hw1 => h88 w1) ?_
 refine G.m1 ?_
 refine G.v (V.ex rfl rfl) rfl ?_
 refine G.v (V.ex rfl rfl) rfl ?_
 refine G.v (V.ex rfl rfl) rfl ?_
 refine G.m2 ?_
 refine G.m2 ?_
 refine G.m2 ?_
 refine G.nil ?_
 refine GC.seq ?_
 refine GC.seq ?_
 refine GC.reg ?_
 refine G.m1 ?_
 refine G.v (V.lt rfl rfl) rfl ?_
 refine G.nil ?_
 refine GC.condD rfl (fun h22 => absurd h22 (by omega)) (fun h22 => ?_)
 refine GC.skip ?_
 refine GC.seq ?_
 refine GC.seq ?_
 refine GC.reg ?_
 refine G.m1 ?_
 refine G.v (V.not rfl) rfl ?_
 refine G.nil ?_
 refine GC.cond rfl (fun h24 => absurd h24 (by decide)) (fun h24 => ?_)
 refine GC.skip ?_
 refine GC.seq ?_
 refine GC.seq ?_
 refine GC.reg ?_
 refine G.m1 ?_
 refine G.v (V.lenS Try.underlying9 rfl) rfl ?_
 refine G.v (V.lt rfl rfl) rfl ?_
 refine G.nil ?_
 refine GC.condD rfl (fun h34 => absurd h34 (by rw [hcl]; omega)) (fun h34 => ?_)
 refine GC.skip ?_
 refine GC.seq ?_
 refine GC.seq ?_
 refine GC.reg ?_
 refine G.m1 ?_
 refine G.v (V.idx (i := 0) (b := 58) Try.underlying9 rfl rfl rfl) rfl ?_
 refine G.v (V.eqI rfl rfl) rfl ?_
 refine G.nil ?_
 refine GC.condD rfl (fun h41 => ?_) (fun h41 => absurd h41 (by decide))
 refine GC.seq ?_
 refine GC.seq ?_
 refine GC.reg ?_
 refine G.m1 ?_
 refine G.v (V.gt rfl rfl) rfl ?_
 refine G.nil ?_
 refine GC.join (fun fr' H' => Sub [(0, Pt nb 0), (1, S (p.drop i)), (2, S full), (3, .slice (some ⟨hb, 0, none⟩) 1 1), (8, S (58 :: wc)), (9, I (i : Int))] fr' ∧ H' = ⟨nb, true, .row (nodeR (cutP tp p i) idx wl nt pr kv hv f0) 107 (0, 0)⟩ :: (Hs ++ X)) (fun J43 => ?_) ?_
 ·refine GC.condD rfl (fun h43 => ?_) (fun h43 => ?_)
  ·refine GC.seq ?_
   refine GC.reg ?_
   refine G.m1 ?_
   refine G.m1 ?_
   refine G.m1 ?_
   refine G.v (V.slH (j := i) Try.underlying9 rfl rfl hi) rfl ?_
   refine G.v (V.nc rfl) rfl ?_
   refine G.v (V.fa F107_0 rfl) rfl ?_
   refine G.st (b := nb) (off := 0 + 0) (l := nodeR tp idx wl nt pr kv hv f0) (T := 107) (fz := (0, 0)) (v := S (p.take i)) Try.sizeOf9 rfl rfl rfl (.z) rfl rfl ?_
   refine G.nil ?_
   refine GC.reg ?_
   refine G.m1 ?_
   refine G.m1 ?_
   refine G.v (V.slL (i := i) Try.underlying9 rfl rfl hi) rfl ?_
   refine G.m2 ?_
   refine G.nil ?_
   have hi0 : 0 < i := by omega
   refine J43 _ _ ⟨.of rfl, ?_⟩
   unfold cutP
   rw [if_pos hi0]
   rfl
  refine GC.skip ?_
  have hi0 : i = 0 := by omega
  subst hi0
  refine J43 _ _ ⟨.of rfl, ?_⟩
  unfold cutP
  rw [if_neg (by omega)]
 rintro fr' H' ⟨hs43, rfl⟩
 refine GC.weak hs43 ?_
 clear hs43
 refine GC.seq ?_
 refine GC.reg ?_
 refine G.m1 ?_
 refine G.m1 ?_
 refine G.v (V.bd (vs := [(3, .int .u8 2), (0, S (58 :: wc)), (7, S full)]) rfl (fun w1 => bd_par _ _ w1)) rfl ?_
 refine G.bx (l := nodeR (58 :: wc) [] false 2 0 (.slice none 0 0) (.slice none 0 0) full) rfl (by simp [cells_agg, nodeR]) rfl (fun pb hpb => ?_)
 refine G.m2 ?_
 refine G.nil ?_
 refine GC.seq ?_
 refine GC.reg ?_
 refine G.m1 ?_
 refine G.m1 ?_
 rw [← hkl2] at hs
 refine G.callL (H1 := ⟨nb, true, .row (nodeR (cutP tp p i) idx wl nt pr kv hv f0) 107 (0, 0)⟩ :: Hs) (Hk := ⟨pb, true, .row (nodeR (58 :: wc) [] false 2 0 (.slice none 0 0) (.slice none 0 0) full) 107 (0, 0)⟩ :: X) (fun v H1' => v = .tuple #[] ∧ ∃ kv' Hs', Own 89 1 kv' (bs.length + 1) ((addB wl bs pb).map (Pt · 0)) Hs' ∧ H1' = ⟨nb, true, .row (nodeR (cutP tp p i) idx wl nt pr kv' hv f0) 107 (0, 0)⟩ :: Hs') (List.perm_middle (l₁ := ⟨nb, true, .row (nodeR (cutP tp p i) idx wl nt pr kv hv f0) 107 (0, 0)⟩ :: Hs)).symm (fun e0 he0 => ?_) Try.call82 rfl rfl (fun w1 hw1 _ => ?_) ?_
 ·rcases List.mem_cons.1 he0 with rfl | he0
  ·rfl
  ·exact hs.w e0 he0
 ·refine (f82_any w1 _ nb pb (cutP tp p i) idx wl nt pr hv f0 kv bs Hs (by omega) hs hw1).mono fun e w' ⟨h1, kv', Hs', h2, h3⟩ => ⟨_, _, h1, fun e0 he0 => ?_, h3, rfl, kv', Hs', h2, rfl⟩
  rcases List.mem_cons.1 he0 with rfl | he0
  ·rfl
  ·exact h2.w e0 he0
 rintro v H1' ⟨rfl, kv2, Hs2, hs2, rfl⟩
 refine G.turn (H' := ⟨pb, true, .row (nodeR (58 :: wc) [] false 2 0 (.slice none 0 0) (.slice none 0 0) full) 107 (0, 0)⟩ :: ⟨nb, true, .row (nodeR (cutP tp p i) idx wl nt pr kv2 hv f0) 107 (0, 0)⟩ :: (Hs2 ++ X)) (fun w1 h1 => h1.perm (List.perm_middle (l₁ := ⟨nb, true, .row (nodeR (cutP tp p i) idx wl nt pr kv2 hv f0) 107 (0, 0)⟩ :: Hs2))) ?_
 refine G.nil ?_
 refine GC.seq ?_
 refine GC.reg ?_
 refine G.m1 ?_
 refine G.v (V.nc rfl) rfl ?_
 refine G.v (V.fa F107_2 rfl) rfl ?_
 refine G.st (b := nb) (off := 0 + 2) (l := nodeR (cutP tp p i) idx wl nt pr kv2 hv f0) (T := 107) (fz := (0, 0)) (v := .bool true) Try.sizeOf4 rfl rfl rfl (.s .z) rfl rfl ?_
 refine G.nil ?_
 refine GC.seq ?_
 refine GC.turn (H' := ⟨pb, true, .row (nodeR (58 :: wc) [] false 2 0 (.slice none 0 0) (.slice none 0 0) full) 107 (0, 0)⟩ :: ⟨nb, true, .row (nodeR (cutP tp p i) idx true nt pr kv2 hv f0) 107 (0, 0)⟩ :: (Hs2 ++ X)) (fun w1 h1 => h1) ?_
 refine GC.reg ?_
 refine G.m1 ?_
 refine G.m2 ?_
 refine G.nil ?_
 refine GC.seq ?_
 refine GC.reg ?_
 refine G.m1 ?_
 refine G.v (V.nc rfl) rfl ?_
 refine G.v (V.fa F107_4 rfl) rfl ?_
 refine G.v (V.ld (b := pb) (off := 0 + 4) (wf := true) (l := nodeR (58 :: wc) [] false 2 0 (.slice none 0 0) (.slice none 0 0) full) (T := 107) (fz := (0, 0)) (v := .int .u32 ((0 % 4294967296 : Nat) : Int)) Try.isAgg104 rfl (.head _) rfl) rfl ?_
 refine G.v (V.add rfl rfl) rfl ?_
 rw [wrapU32]
 refine G.v (V.nc rfl) rfl ?_
 refine G.v (V.fa F107_4 rfl) rfl ?_
 refine G.st (b := pb) (off := 0 + 4) (l := nodeR (58 :: wc) [] false 2 0 (.slice none 0 0) (.slice none 0 0) full) (T := 107) (fz := (0, 0)) (v := .int .u32 (((0 + 1) % 4294967296 : Nat) : Int)) Try.sizeOf104 rfl rfl rfl (.z) rfl rfl ?_
 refine G.nil ?_
 refine GC.seq ?_
 refine GC.seq ?_
 refine GC.turn (H' := ⟨pb, true, .row (nodeR (58 :: wc) [] false 2 1 (.slice none 0 0) (.slice none 0 0) full) 107 (0, 0)⟩ :: ⟨nb, true, .row (nodeR (cutP tp p i) idx true nt pr kv2 hv f0) 107 (0, 0)⟩ :: (Hs2 ++ X)) (fun w1 h1 => h1) ?_
 refine GC.reg ?_
 refine G.m1 ?_
 refine G.v (V.lenS Try.underlying9 rfl) rfl ?_
 refine G.m1 ?_
 refine G.v (V.lenS Try.underlying9 rfl) rfl ?_
 refine G.v (V.lt rfl rfl) rfl ?_
 refine G.nil ?_
 refine GC.condD rfl (fun h75 => absurd h75 (by rw [List.length_drop]; omega)) (fun h75 => ?_)
 refine GC.skip ?_
 refine GC.seq ?_
 refine GC.reg ?_
 refine G.m1 ?_
 refine G.m1 ?_
 refine G.v (V.nc rfl) rfl ?_
 refine G.v (V.fa F107_6 rfl) rfl ?_
 refine G.st (b := pb) (off := 0 + 6) (l := nodeR (58 :: wc) [] false 2 1 (.slice none 0 0) (.slice none 0 0) full) (T := 107) (fz := (0, 0)) (v := .slice (some ⟨hb, 0, none⟩) 1 1) Try.sizeOf94 rfl rfl rfl (.z) rfl rfl ?_
 refine G.nil ?_
 refine GC.turn (H' := ⟨pb, true, .row (nodeR (58 :: wc) [] false 2 1 (.slice none 0 0) (.slice (some ⟨hb, 0, none⟩) 1 1) full) 107 (0, 0)⟩ :: ⟨nb, true, .row (nodeR (cutP tp p i) idx true nt pr kv2 hv f0) 107 (0, 0)⟩ :: (Hs2 ++ X)) (fun w1 h1 => h1) ?_
 refine GC.ret0 rfl fun w' hw' => ?_
 obtain ⟨Hk2, hk2, hp2⟩ := hk.add (wild := wl) (HT.mk (path := 58 :: wc) (idx := []) (wild := false) (nt := 2) (pr := 1) (full := full) (nb := pb) Own.nil (HV.row (k := num) (hb := hb)) HTs.nil)
 rw [hkl2] at hs2
 rw [← addKid_len wl kids (.node () (58 :: wc) [] false 2 1 (some num) full [])] at hs2
 refine fin _ w' (HT.mk hs2 hh hk2) (hw'.perm ?_)
 rw [hX]
 have e1 : Hk2.Perm (⟨pb, true, .row (nodeR (58 :: wc) [] false 2 1 (.slice none 0 0) (.slice (some ⟨hb, 0, none⟩) 1 1) full) 107 (0, 0)⟩ :: ⟨hb, true, .row [I (num : Int)] 3 (0, 0)⟩ :: Hk) := by simpa using hp2
 have p1 := perm_idx [[⟨pb, true, .row (nodeR (58 :: wc) [] false 2 1 (.slice none 0 0) (.slice (some ⟨hb, 0, none⟩) 1 1) full) 107 (0, 0)⟩], [⟨nb, true, .row (nodeR (cutP tp p i) idx true nt pr kv2 hv f0) 107 (0, 0)⟩], Hs2, Hh, Hk, [⟨hb, true, .row [I (num : Int)] 3 (0, 0)⟩], Hr] [0, 1, 2, 3, 4, 5, 6] [1, 2, 3, 0, 5, 4, 6] (by decide)
 refine List.Perm.trans (l₂ := ⟨nb, true, .row (nodeR (cutP tp p i) idx true nt pr kv2 hv f0) 107 (0, 0)⟩ :: (Hs2 ++ (Hh ++ ((⟨pb, true, .row (nodeR (58 :: wc) [] false 2 1 (.slice none 0 0) (.slice (some ⟨hb, 0, none⟩) 1 1) full) 107 (0, 0)⟩ :: ⟨hb, true, .row [I (num : Int)] 3 (0, 0)⟩ :: Hk) ++ Hr)))) (by simpa using p1) ?_
 have p2 := (((e1.symm.append_right Hr).append_left Hh).append_left Hs2).cons ⟨nb, true, .row (nodeR (cutP tp p i) idx true nt pr kv2 hv f0) 107 (0, 0)⟩
 simpa using p2
theorem f79_pmore {R : Ending → World → Prop} {w : World} {D : Nat → Prop} {nb hb num : Nat} {p full tp idx : List UInt8} {wl : Bool} {nt pr : Nat} {h0 : Option Nat} {f0 : List UInt8} {kids : List T0} {bs : List Nat} {kv hv : Value} {Hs Hh Hk Hr : SH} {fr : SF}
  (hs : Own 89 1 kv kids.length (bs.map (Pt · 0)) Hs) (_hh : HV h0 hv Hh) (hk : HTs kids bs Hk) (h92 : ∀ c ∈ p, c ≠ 92) (hpl : p.length ≤ 100000) (hkl : kids.length ≤ 90000) (hsub : Sub [(0, Pt nb 0), (1, S p), (2, S full), (3, .slice (some ⟨hb, 0, none⟩) 1 1)] fr) (wc : List UInt8) (i : Nat) (hf : fw p 0 = some (58 :: wc, i)) (hwc : ∀ c ∈ wc, c ≠ 58 ∧ c ≠ 42) (hwn : wc ≠ []) (hi : i ≤ p.length) (hmore : i + (wc.length + 1) < p.length)
  (go : ∀ pb cb kv2 kv3 Hs2 Hs3 fr', Own 89 1 kv2 (bs.length + 1) ((addB wl bs pb).map (Pt · 0)) Hs2 → Own 89 1 kv3 1 [Pt cb 0] Hs3 → Sub [(0, Pt cb 0), (1, S (p.drop (i + (58 :: wc).length))), (2, S full), (3, .slice (some ⟨hb, 0, none⟩) 1 1)] fr' →
   GC Try.prog ⟨79, Try.f79, R, w, D⟩ 221 K79 fr' (⟨cb, true, .row (nodeR [] [] false 0 1 (.slice none 0 0) (.slice none 0 0) full) 107 (0, 0)⟩ :: (⟨hb, true, .row [I (num : Int)] 3 (0, 0)⟩ :: (⟨nb, true, .row (nodeR (cutP tp p i) idx true nt pr kv2 hv f0) 107 (0, 0)⟩ :: (Hs2 ++ ((Hh ++ Hk) ++ (⟨pb, true, .row (nodeR (58 :: wc) [] false 2 1 kv3 (.slice none 0 0) full) 107 (0, 0)⟩ :: (Hs3 ++ Hr)))))))) : GC Try.prog ⟨79, Try.f79, R, w, D⟩ 221 K79 fr (⟨nb, true, .row (nodeR tp idx wl nt pr kv hv f0) 107 (0, 0)⟩ :: ((Hs ++ (Hh ++ Hk)) ++ (⟨hb, true, .row [I (num : Int)] 3 (0, 0)⟩ :: Hr))) := by
 refine GC.weak hsub ?_
 clear hsub
 obtain ⟨X, hX⟩ : ∃ X, X = (Hh ++ Hk) ++ (⟨hb, true, .row [I (num : Int)] 3 (0, 0)⟩ :: Hr) := ⟨_, rfl⟩
 refine GC.turn (H' := ⟨nb, true, .row (nodeR tp idx wl nt pr kv hv f0) 107 (0, 0)⟩ :: (Hs ++ X)) (fun w1 h1 => by rw [hX, ← List.append_assoc]; exact h1) ?_
 have hkl2 := hk.len
 have h88 : ∀ w1, Calls Try.prog 88 #[S p] w1 fun e w' => e = .returned (.tuple #[S (58 :: wc), I (i : Int), .bool true]) ∧ HF w1 (fun _ => False) [] w' := by
  intro w1
  have := f88_any w1 p h92 (fun wc2 i2 h => by rw [hf] at h; cases h; exact hwc) hpl
  rw [hf] at this; exact this
 have hwl := List.length_pos_iff.2 hwn
 have hcl : (58 :: wc).length = wc.length + 1 := rfl
 refine GC.block ?_
 refine GC.seq ?_
 refine GC.reg ?_
 refine G.m1 ?_
 refine G.callP Try.call88 rfl rfl (fun w1 hw1 => h88 w1) ?_
 refine G.m1 ?_
 refine G.v (V.ex rfl rfl) rfl ?_
 refine G.v (V.ex rfl rfl) rfl ?_
 refine G.v (V.ex rfl rfl) rfl ?_
 refine G.m2 ?_
 refine G.m2 ?_
 refine G.m2 ?_
 refine G.nil ?_
 refine GC.seq ?_
 refine GC.seq ?_
 refine GC.reg ?_
 refine G.m1 ?_
 refine G.v (V.lt rfl rfl) rfl ?_
 refine G.nil ?_
 refine GC.condD rfl (fun h22 => absurd h22 (by omega)) (fun h22 => ?_)
 refine GC.skip ?_
 refine GC.seq ?_
 refine GC.seq ?_
 refine GC.reg ?_
 refine G.m1 ?_
 refine G.v (V.not rfl) rfl ?_
 refine G.nil ?_
 refine GC.cond rfl (fun h24 => absurd h24 (by decide)) (fun h24 => ?_)
 refine GC.skip ?_
 refine GC.seq ?_
 refine GC.seq ?_
 refine GC.reg ?_
 refine G.m1 ?_
 refine G.v (V.lenS Try.underlying9 rfl) rfl ?_
 refine G.v (V.lt rfl rfl) rfl ?_
 refine G.nil ?_
 refine GC.condD rfl (fun h34 => absurd h34 (by rw [hcl]; omega)) (fun h34 => ?_)
 refine GC.skip ?_
 refine GC.seq ?_
 refine GC.seq ?_
 refine GC.reg ?_
 refine G.m1 ?_
 refine G.v (V.idx (i := 0) (b := 58) Try.underlying9 rfl rfl rfl) rfl ?_
 refine G.v (V.eqI rfl rfl) rfl ?_
 refine G.nil ?_
 refine GC.condD rfl (fun h41 => ?_) (fun h41 => absurd h41 (by decide))
 refine GC.seq ?_
 refine GC.seq ?_
 refine GC.reg ?_
 refine G.m1 ?_
 refine G.v (V.gt rfl rfl) rfl ?_
 refine G.nil ?_
 refine GC.join (fun fr' H' => Sub [(0, Pt nb 0), (1, S (p.drop i)), (2, S full), (3, .slice (some ⟨hb, 0, none⟩) 1 1), (8, S (58 :: wc)), (9, I (i : Int))] fr' ∧ H' = ⟨nb, true, .row (nodeR (cutP tp p i) idx wl nt pr kv hv f0) 107 (0, 0)⟩ :: (Hs ++ X)) (fun J43 => ?_) ?_
 ·refine GC.condD rfl (fun h43 => ?_) (fun h43 => ?_)
  ·refine GC.seq ?_
   refine GC.reg ?_
   refine G.m1 ?_
   refine G.m1 ?_
   refine G.m1 ?_
   refine G.v (V.slH (j := i) Try.underlying9 rfl rfl hi) rfl ?_
   refine G.v (V.nc rfl) rfl ?_
   refine G.v (V.fa F107_0 rfl) rfl ?_
   refine G.st (b := nb) (off := 0 + 0) (l := nodeR tp idx wl nt pr kv hv f0) (T := 107) (fz := (0, 0)) (v := S (p.take i)) Try.sizeOf9 rfl rfl rfl (.z) rfl rfl ?_
   refine G.nil ?_
   refine GC.reg ?_
   refine G.m1 ?_
   refine G.m1 ?_
   refine G.v (V.slL (i := i) Try.underlying9 rfl rfl hi) rfl ?_
   refine G.m2 ?_
   refine G.nil ?_
   have hi0 : 0 < i := by omega
   refine J43 _ _ ⟨.of rfl, ?_⟩
   unfold cutP
   rw [if_pos hi0]
   rfl
  refine GC.skip ?_
  have hi0 : i = 0 := by omega
  subst hi0
  refine J43 _ _ ⟨.of rfl, ?_⟩
  unfold cutP
  rw [if_neg (by omega)]
 rintro fr' H' ⟨hs43, rfl⟩
 refine GC.weak hs43 ?_
 clear hs43
 refine GC.seq ?_
 refine GC.reg ?_
 refine G.m1 ?_
 refine G.m1 ?_
 refine G.v (V.bd (vs := [(3, .int .u8 2), (0, S (58 :: wc)), (7, S full)]) rfl (fun w1 => bd_par _ _ w1)) rfl ?_
 refine G.bx (l := nodeR (58 :: wc) [] false 2 0 (.slice none 0 0) (.slice none 0 0) full) rfl (by simp [cells_agg, nodeR]) rfl (fun pb hpb => ?_)
 refine G.m2 ?_
 refine G.nil ?_
 refine GC.seq ?_
 refine GC.reg ?_
 refine G.m1 ?_
 refine G.m1 ?_
 rw [← hkl2] at hs
 refine G.callL (H1 := ⟨nb, true, .row (nodeR (cutP tp p i) idx wl nt pr kv hv f0) 107 (0, 0)⟩ :: Hs) (Hk := ⟨pb, true, .row (nodeR (58 :: wc) [] false 2 0 (.slice none 0 0) (.slice none 0 0) full) 107 (0, 0)⟩ :: X) (fun v H1' => v = .tuple #[] ∧ ∃ kv' Hs', Own 89 1 kv' (bs.length + 1) ((addB wl bs pb).map (Pt · 0)) Hs' ∧ H1' = ⟨nb, true, .row (nodeR (cutP tp p i) idx wl nt pr kv' hv f0) 107 (0, 0)⟩ :: Hs') (List.perm_middle (l₁ := ⟨nb, true, .row (nodeR (cutP tp p i) idx wl nt pr kv hv f0) 107 (0, 0)⟩ :: Hs)).symm (fun e0 he0 => ?_) Try.call82 rfl rfl (fun w1 hw1 _ => ?_) ?_
 ·rcases List.mem_cons.1 he0 with rfl | he0
  ·rfl
  ·exact hs.w e0 he0
 ·refine (f82_any w1 _ nb pb (cutP tp p i) idx wl nt pr hv f0 kv bs Hs (by omega) hs hw1).mono fun e w' ⟨h1, kv', Hs', h2, h3⟩ => ⟨_, _, h1, fun e0 he0 => ?_, h3, rfl, kv', Hs', h2, rfl⟩
  rcases List.mem_cons.1 he0 with rfl | he0
  ·rfl
  ·exact h2.w e0 he0
 rintro v H1' ⟨rfl, kv2, Hs2, hs2, rfl⟩
 refine G.turn (H' := ⟨pb, true, .row (nodeR (58 :: wc) [] false 2 0 (.slice none 0 0) (.slice none 0 0) full) 107 (0, 0)⟩ :: ⟨nb, true, .row (nodeR (cutP tp p i) idx wl nt pr kv2 hv f0) 107 (0, 0)⟩ :: (Hs2 ++ X)) (fun w1 h1 => h1.perm (List.perm_middle (l₁ := ⟨nb, true, .row (nodeR (cutP tp p i) idx wl nt pr kv2 hv f0) 107 (0, 0)⟩ :: Hs2))) ?_
 refine G.nil ?_
 refine GC.seq ?_
 refine GC.reg ?_
 refine G.m1 ?_
 refine G.v (V.nc rfl) rfl ?_
 refine G.v (V.fa F107_2 rfl) rfl ?_
 refine G.st (b := nb) (off := 0 + 2) (l := nodeR (cutP tp p i) idx wl nt pr kv2 hv f0) (T := 107) (fz := (0, 0)) (v := .bool true) Try.sizeOf4 rfl rfl rfl (.s .z) rfl rfl ?_
 refine G.nil ?_
 refine GC.seq ?_
 refine GC.turn (H' := ⟨pb, true, .row (nodeR (58 :: wc) [] false 2 0 (.slice none 0 0) (.slice none 0 0) full) 107 (0, 0)⟩ :: ⟨nb, true, .row (nodeR (cutP tp p i) idx true nt pr kv2 hv f0) 107 (0, 0)⟩ :: (Hs2 ++ X)) (fun w1 h1 => h1) ?_
 refine GC.reg ?_
 refine G.m1 ?_
 refine G.m2 ?_
 refine G.nil ?_
 refine GC.seq ?_
 refine GC.reg ?_
 refine G.m1 ?_
 refine G.v (V.nc rfl) rfl ?_
 refine G.v (V.fa F107_4 rfl) rfl ?_
 refine G.v (V.ld (b := pb) (off := 0 + 4) (wf := true) (l := nodeR (58 :: wc) [] false 2 0 (.slice none 0 0) (.slice none 0 0) full) (T := 107) (fz := (0, 0)) (v := .int .u32 ((0 % 4294967296 : Nat) : Int)) Try.isAgg104 rfl (.head _) rfl) rfl ?_
 refine G.v (V.add rfl rfl) rfl ?_
 rw [wrapU32]
 refine G.v (V.nc rfl) rfl ?_
 refine G.v (V.fa F107_4 rfl) rfl ?_
 refine G.st (b := pb) (off := 0 + 4) (l := nodeR (58 :: wc) [] false 2 0 (.slice none 0 0) (.slice none 0 0) full) (T := 107) (fz := (0, 0)) (v := .int .u32 (((0 + 1) % 4294967296 : Nat) : Int)) Try.sizeOf104 rfl rfl rfl (.z) rfl rfl ?_
 refine G.nil ?_
 refine GC.seq ?_
 refine GC.seq ?_
 refine GC.turn (H' := ⟨pb, true, .row (nodeR (58 :: wc) [] false 2 1 (.slice none 0 0) (.slice none 0 0) full) 107 (0, 0)⟩ :: ⟨nb, true, .row (nodeR (cutP tp p i) idx true nt pr kv2 hv f0) 107 (0, 0)⟩ :: (Hs2 ++ X)) (fun w1 h1 => h1) ?_
 refine GC.reg ?_
 refine G.m1 ?_
 refine G.v (V.lenS Try.underlying9 rfl) rfl ?_
 refine G.m1 ?_
 refine G.v (V.lenS Try.underlying9 rfl) rfl ?_
 refine G.v (V.lt rfl rfl) rfl ?_
 refine G.nil ?_
 refine GC.condD rfl (fun h75 => ?_) (fun h75 => absurd (by rw [List.length_drop, hcl]; omega) h75)
 refine GC.seq ?_
 refine GC.reg ?_
 refine G.m1 ?_
 refine G.m1 ?_
 refine G.v (V.lenS Try.underlying9 rfl) rfl ?_
 refine G.v (V.slL (i := (58 :: wc).length) Try.underlying9 rfl rfl (by rw [List.length_drop, hcl]; omega)) rfl ?_
 rw [List.drop_drop]
 refine G.m2 ?_
 refine G.nil ?_
 refine GC.seq ?_
 refine GC.reg ?_
 refine G.m1 ?_
 refine G.v (V.bd (vs := [(4, .int .u32 1), (7, S full)]) rfl (fun w1 => bd_sub _ w1)) rfl ?_
 refine G.bx (l := nodeR [] [] false 0 1 (.slice none 0 0) (.slice none 0 0) full) rfl (by simp [cells_agg, nodeR]) rfl (fun cb hcb => ?_)
 refine G.m2 ?_
 refine G.nil ?_
 refine GC.seq ?_
 refine GC.reg ?_
 refine G.m1 ?_
 refine G.m1 ?_
 refine G.callL (H1 := [⟨pb, true, .row (nodeR (58 :: wc) [] false 2 1 (.slice none 0 0) (.slice none 0 0) full) 107 (0, 0)⟩]) (Hk := ⟨cb, true, .row (nodeR [] [] false 0 1 (.slice none 0 0) (.slice none 0 0) full) 107 (0, 0)⟩ :: ⟨nb, true, .row (nodeR (cutP tp p i) idx true nt pr kv2 hv f0) 107 (0, 0)⟩ :: (Hs2 ++ X)) (fun v H1' => v = .tuple #[] ∧ ∃ kv' Hs', Own 89 1 kv' 1 [Pt cb 0] Hs' ∧ H1' = ⟨pb, true, .row (nodeR (58 :: wc) [] false 2 1 kv' (.slice none 0 0) full) 107 (0, 0)⟩ :: Hs') (List.Perm.swap _ _ _) (fun e0 he0 => ?_) Try.call82 rfl rfl (fun w1 hw1 _ => ?_) ?_
 ·rw [List.mem_singleton.1 he0]
 ·refine (f82_any w1 _ pb cb (58 :: wc) [] false 2 1 (.slice none 0 0) full (.slice none 0 0) [] [] (by simp) Own.nil hw1).mono fun e w' ⟨h1, kv', Hs', h2, h3⟩ => ⟨_, _, h1, fun e0 he0 => ?_, h3, rfl, kv', Hs', h2, rfl⟩
  rcases List.mem_cons.1 he0 with rfl | he0
  ·rfl
  ·exact h2.w e0 he0
 rintro v H1' ⟨rfl, kv3, Hs3, hs3, rfl⟩
 refine G.nil ?_
 refine GC.seq ?_
 refine GC.reg ?_
 refine G.m1 ?_
 refine G.m2 ?_
 refine G.nil ?_
 refine GC.exit rfl ?_
 refine GC.inLoop ?_
 refine GC.turn (H' := ⟨cb, true, .row (nodeR [] [] false 0 1 (.slice none 0 0) (.slice none 0 0) full) 107 (0, 0)⟩ :: (⟨hb, true, .row [I (num : Int)] 3 (0, 0)⟩ :: (⟨nb, true, .row (nodeR (cutP tp p i) idx true nt pr kv2 hv f0) 107 (0, 0)⟩ :: (Hs2 ++ ((Hh ++ Hk) ++ (⟨pb, true, .row (nodeR (58 :: wc) [] false 2 1 kv3 (.slice none 0 0) full) 107 (0, 0)⟩ :: (Hs3 ++ Hr))))))) (fun w1 h1 => ?_) (go pb cb kv2 kv3 Hs2 Hs3 _ hs2 hs3 (.of rfl))
 rw [hX] at h1
 have p1 := perm_idx [[⟨pb, true, .row (nodeR (58 :: wc) [] false 2 1 kv3 (.slice none 0 0) full) 107 (0, 0)⟩], Hs3, [⟨cb, true, .row (nodeR [] [] false 0 1 (.slice none 0 0) (.slice none 0 0) full) 107 (0, 0)⟩], [⟨nb, true, .row (nodeR (cutP tp p i) idx true nt pr kv2 hv f0) 107 (0, 0)⟩], Hs2, Hh, Hk, [⟨hb, true, .row [I (num : Int)] 3 (0, 0)⟩], Hr] [0, 1, 2, 3, 4, 5, 6, 7, 8] [2, 7, 3, 4, 5, 6, 0, 1, 8] (by decide)
 exact h1.perm (by simpa using p1)
end Go.Proofs

/- insertChild: a catch-all is put in, or refused. Printed by wip/mk_gu7.py. -/
set_option maxRecDepth 20000
namespace Go.Proofs
open Go Bw
open Gt
theorem f79_cat {R : Ending → World → Prop} {w : World} {D : Nat → Prop} {nb hb num : Nat} {p full tp idx : List UInt8} {wl : Bool} {nt pr : Nat} {h0 : Option Nat} {f0 : List UInt8} {kids : List T0} {bs : List Nat} {kv hv : Value} {Hs Hh Hk Hr : SH} {fr : SF}
  (hs : Own 89 1 kv kids.length (bs.map (Pt · 0)) Hs) (hh : HV h0 hv Hh) (hk : HTs kids bs Hk) (h92 : ∀ c ∈ p, c ≠ 92) (hpl : p.length ≤ 100000) (hkl : kids.length ≤ 90000) (hsub : Sub [(0, Pt nb 0), (1, S p), (2, S full), (3, .slice (some ⟨hb, 0, none⟩) 1 1)] fr) (wc : List UInt8) (i : Nat) (hf : fw p 0 = some (42 :: wc, i)) (hwc : ∀ c ∈ wc, c ≠ 58 ∧ c ≠ 42) (hwn : wc ≠ []) (hend : p.length = i + (wc.length + 1)) (h47 : 0 < i → p[i - 1]? = some 47) (htl : tp.length ≤ 100000) (htp : tp.getLast? ≠ some 47) (hi0 : 0 < i)
  (fin : ∀ Hn' w', HT (.node () (p.take (i - 1)) [47] wl nt pr h0 f0 (addKid wl kids (.node () [] [] true 3 1 none full [.node () (p.drop (i - 1)) [] false 3 1 (some num) full []]))) nb Hn' → HF w D (Hn' ++ Hr) w' → R (.returned (.tuple #[])) w') : GC Try.prog ⟨79, Try.f79, R, w, D⟩ 221 K79 fr (⟨nb, true, .row (nodeR tp idx wl nt pr kv hv f0) 107 (0, 0)⟩ :: ((Hs ++ (Hh ++ Hk)) ++ (⟨hb, true, .row [I (num : Int)] 3 (0, 0)⟩ :: Hr))) := by
 refine GC.weak hsub ?_
 clear hsub
 obtain ⟨X, hX⟩ : ∃ X, X = (Hh ++ Hk) ++ (⟨hb, true, .row [I (num : Int)] 3 (0, 0)⟩ :: Hr) := ⟨_, rfl⟩
 refine GC.turn (H' := ⟨nb, true, .row (nodeR tp idx wl nt pr kv hv f0) 107 (0, 0)⟩ :: (Hs ++ X)) (fun w1 h1 => by rw [hX, ← List.append_assoc]; exact h1) ?_
 have hkl2 := hk.len
 have h88 : ∀ w1, Calls Try.prog 88 #[S p] w1 fun e w' => e = .returned (.tuple #[S (42 :: wc), I (i : Int), .bool true]) ∧ HF w1 (fun _ => False) [] w' := by
  intro w1
  have := f88_any w1 p h92 (fun wc2 i2 h => by rw [hf] at h; cases h; exact hwc) hpl
  rw [hf] at this; exact this
 have hwl := List.length_pos_iff.2 hwn
 have hcl : (42 :: wc).length = wc.length + 1 := rfl
 refine GC.block ?_
 refine GC.seq ?_
 refine GC.reg ?_
 refine G.m1 ?_
 refine G.callP Try.call88 rfl rfl (fun w1 hw1 => h88 w1) ?_
 refine G.m1 ?_
 refine G.v (V.ex rfl rfl) rfl ?_
 refine G.v (V.ex rfl rfl) rfl ?_
 refine G.v (V.ex rfl rfl) rfl ?_
 refine G.m2 ?_
 refine G.m2 ?_
 refine G.m2 ?_
 refine G.nil ?_
 refine GC.seq ?_
 refine GC.seq ?_
 refine GC.reg ?_
 refine G.m1 ?_
 refine G.v (V.lt rfl rfl) rfl ?_
 refine G.nil ?_
 refine GC.condD rfl (fun h22 => absurd h22 (by omega)) (fun h22 => ?_)
 refine GC.skip ?_
 refine GC.seq ?_
 refine GC.seq ?_
 refine GC.reg ?_
 refine G.m1 ?_
 refine G.v (V.not rfl) rfl ?_
 refine G.nil ?_
 refine GC.cond rfl (fun h24 => absurd h24 (by decide)) (fun h24 => ?_)
 refine GC.skip ?_
 refine GC.seq ?_
 refine GC.seq ?_
 refine GC.reg ?_
 refine G.m1 ?_
 refine G.v (V.lenS Try.underlying9 rfl) rfl ?_
 refine G.v (V.lt rfl rfl) rfl ?_
 refine G.nil ?_
 refine GC.condD rfl (fun h34 => absurd h34 (by rw [hcl]; omega)) (fun h34 => ?_)
 refine GC.skip ?_
 refine GC.seq ?_
 refine GC.seq ?_
 refine GC.reg ?_
 refine G.m1 ?_
 refine G.v (V.idx (i := 0) (b := 42) Try.underlying9 rfl rfl rfl) rfl ?_
 refine G.v (V.eqI rfl rfl) rfl ?_
 refine G.nil ?_
 refine GC.condD rfl (fun h41 => absurd h41 (by decide)) (fun h41 => ?_)
 refine GC.skip ?_
 refine GC.seq ?_
 refine GC.seq ?_
 refine GC.reg ?_
 refine G.m1 ?_
 refine G.m1 ?_
 refine G.v (V.lenS Try.underlying9 rfl) rfl ?_
 refine G.v (V.addI (r := ((i + (wc.length + 1) : Nat) : Int)) rfl rfl (by rw [hcl]; omega) (by omega) (by omega)) rfl ?_
 refine G.m1 ?_
 refine G.v (V.lenS Try.underlying9 rfl) rfl ?_
 refine G.v (V.neI rfl rfl) rfl ?_
 refine G.nil ?_
 refine GC.cond rfl (fun h97 => absurd h97 (by rw [hend]; simp)) (fun h97 => ?_)
 refine GC.skip ?_
 refine GC.seq ?_
 refine GC.seq ?_
 refine GC.join (fun fr' H' => ∃ t : Bool, (t = true ↔ tp.getLast? = some 47) ∧ Sub [(0, Pt nb 0), (1, S p), (2, S full), (3, .slice (some ⟨hb, 0, none⟩) 1 1), (8, S (42 :: wc)), (9, I (i : Int)), (121, .bool t)] fr' ∧ H' = ⟨nb, true, .row (nodeR tp idx wl nt pr kv hv f0) 107 (0, 0)⟩ :: (Hs ++ X)) (fun J23 => ?_) ?_
 ·refine GC.regQ mixed (by kernel_rfl) ?_
  refine GQ.v (V.mv rfl) rfl ?_
  refine GQ.v (V.nc rfl) rfl ?_
  refine GQ.v (V.fa F107_0 rfl) rfl ?_
  refine GQ.v (V.ld (b := nb) (off := 0 + 0) (wf := true) (l := nodeR tp idx wl nt pr kv hv f0) (T := 107) (fz := (0, 0)) (v := S tp) Try.isAgg9 rfl (.head _) rfl) rfl ?_
  refine GQ.v (V.lenS Try.underlying9 rfl) rfl ?_
  refine GQ.v (V.gt rfl rfl) rfl ?_
  refine GQ.v (V.mv rfl) rfl ?_
  refine GQ.bc 108 rfl (fun h108 => ?_) (fun h108 => ?_)
  ·have htp : tp ≠ [] := fun e => by rw [e] at h108; simp at h108
   have htl := List.length_pos_iff.2 htp
   obtain ⟨y, hy⟩ : ∃ y, tp[tp.length - 1]? = some y := ⟨_, List.getElem?_eq_getElem (by omega)⟩
   refine GQ.vg rfl rfl (V.mv rfl) rfl ?_
   refine GQ.vg rfl rfl (V.nc rfl) rfl ?_
   refine GQ.vg rfl rfl (V.fa F107_0 rfl) rfl ?_
   refine GQ.vg rfl rfl (V.ld (b := nb) (off := 0 + 0) (wf := true) (l := nodeR tp idx wl nt pr kv hv f0) (T := 107) (fz := (0, 0)) (v := S tp) Try.isAgg9 rfl (.head _) rfl) rfl ?_
   refine GQ.vg rfl rfl (V.mv rfl) rfl ?_
   refine GQ.vg rfl rfl (V.nc rfl) rfl ?_
   refine GQ.vg rfl rfl (V.fa F107_0 rfl) rfl ?_
   refine GQ.vg rfl rfl (V.ld (b := nb) (off := 0 + 0) (wf := true) (l := nodeR tp idx wl nt pr kv hv f0) (T := 107) (fz := (0, 0)) (v := S tp) Try.isAgg9 rfl (.head _) rfl) rfl ?_
   refine GQ.vg rfl rfl (V.lenS Try.underlying9 rfl) rfl ?_
   refine GQ.vg rfl rfl (V.subI (r := ((tp.length - 1 : Nat) : Int)) rfl rfl (by omega) (by omega) (by omega)) rfl ?_
   refine GQ.vg rfl rfl (V.idx (i := tp.length - 1) (b := y) Try.underlying9 rfl rfl hy) rfl ?_
   refine GQ.vg rfl rfl (V.eqI rfl rfl) rfl ?_
   refine GQ.v (V.pickT rfl rfl) rfl ?_
   refine GQ.nil ?_
   refine J23 _ _ ⟨_, ?_, .of rfl, rfl⟩
   rw [decide_eq_true_eq, List.getLast?_eq_getElem?, hy]
   exact ⟨fun e => by rw [u47 e], fun e => by rw [Option.some.inj e]; rfl⟩
  ·refine GQ.sg rfl rfl rfl rfl rfl rfl ?_
   refine GQ.sg rfl rfl rfl rfl rfl rfl ?_
   refine GQ.sg rfl rfl rfl rfl rfl rfl ?_
   refine GQ.sg rfl rfl rfl rfl rfl rfl ?_
   refine GQ.sg rfl rfl rfl rfl rfl rfl ?_
   refine GQ.sg rfl rfl rfl rfl rfl rfl ?_
   refine GQ.sg rfl rfl rfl rfl rfl rfl ?_
   refine GQ.sg rfl rfl rfl rfl rfl rfl ?_
   refine GQ.sg rfl rfl rfl rfl rfl rfl ?_
   refine GQ.sg rfl rfl rfl rfl rfl rfl ?_
   refine GQ.sg rfl rfl rfl rfl rfl rfl ?_
   refine GQ.sg rfl rfl rfl rfl rfl rfl ?_
   refine GQ.v (V.pickF rfl rfl) rfl ?_
   refine GQ.nil ?_
   refine J23 _ _ ⟨false, ⟨fun h => (by cases h), fun h => ?_⟩, .of rfl, rfl⟩
   have htp : tp = [] := List.length_eq_zero_iff.1 (by have := of_decide_eq_false h108; omega)
   rw [htp] at h; cases h
 rintro fr' H' ⟨t, ht, hs23, rfl⟩
 refine GC.weak hs23 ?_
 clear hs23
 refine GC.cond rfl (fun h121 => absurd (ht.1 h121) htp) (fun h121 => ?_)
 refine GC.skip ?_
 refine GC.seq ?_
 refine GC.reg ?_
 refine G.m1 ?_
 refine G.v (V.subI (r := ((i - 1 : Nat) : Int)) rfl rfl (by omega) (by omega) (by omega)) rfl ?_
 refine G.m2 ?_
 refine G.nil ?_
 refine GC.seq ?_
 refine GC.seq ?_
 refine GC.join (fun fr' H' => Sub [(0, Pt nb 0), (1, S p), (2, S full), (3, .slice (some ⟨hb, 0, none⟩) 1 1), (9, I ((i - 1 : Nat) : Int)), (169, .bool false)] fr' ∧ H' = ⟨nb, true, .row (nodeR tp idx wl nt pr kv hv f0) 107 (0, 0)⟩ :: (Hs ++ X)) (fun J29 => ?_) ?_
 ·refine GC.reg ?_
  refine G.m1 ?_
  refine G.v (V.lt rfl rfl) rfl ?_
  refine G.m1 ?_
  refine G.bc 164 rfl (fun h164 => ?_) (fun h164 => ?_)
  ·refine G.s1 ?_
   refine G.s1 ?_
   refine G.s1 ?_
   refine G.s1 ?_
   refine G.m3 ?_
   refine G.nil ?_
   exact absurd (of_decide_eq_true h164) (by omega)
  ·refine G.m5 ?_
   refine G.m5 ?_
   refine G.vg rfl rfl (V.idx (i := i - 1) (b := 47) Try.underlying9 rfl rfl (h47 hi0)) rfl ?_
   refine G.vg rfl rfl (V.neI rfl rfl) rfl ?_
   refine G.m4 ?_
   refine G.nil ?_
   exact J29 _ _ ⟨.of rfl, rfl⟩
 rintro fr' H' ⟨hs29, rfl⟩
 refine GC.weak hs29 ?_
 clear hs29
 refine GC.condF rfl ?_
 refine GC.skip ?_
 refine GC.seq ?_
 refine GC.reg ?_
 refine G.m1 ?_
 refine G.m1 ?_
 refine G.m1 ?_
 refine G.v (V.slH (j := i - 1) Try.underlying9 rfl rfl (by omega)) rfl ?_
 refine G.v (V.nc rfl) rfl ?_
 refine G.v (V.fa F107_0 rfl) rfl ?_
 refine G.st (b := nb) (off := 0 + 0) (l := nodeR tp idx wl nt pr kv hv f0) (T := 107) (fz := (0, 0)) (v := S (p.take (i - 1))) Try.sizeOf9 rfl rfl rfl (.z) rfl rfl ?_
 refine G.nil ?_
 refine GC.seq ?_
 refine GC.turn (H' := ⟨nb, true, .row (nodeR (p.take (i - 1)) idx wl nt pr kv hv f0) 107 (0, 0)⟩ :: (Hs ++ X)) (fun w1 h1 => h1) ?_
 refine GC.reg ?_
 refine G.m1 ?_
 refine G.v (V.bd (vs := [(2, .bool true), (3, .int .u8 3), (7, S full)]) rfl (fun w1 => bd_ca _ w1)) rfl ?_
 refine G.bx (l := nodeR [] [] true 3 0 (.slice none 0 0) (.slice none 0 0) full) rfl (by simp [cells_agg, nodeR]) rfl (fun pb hpb => ?_)
 refine G.m2 ?_
 refine G.nil ?_
 refine GC.seq ?_
 refine GC.reg ?_
 refine G.m1 ?_
 refine G.m1 ?_
 rw [← hkl2] at hs
 refine G.callL (H1 := ⟨nb, true, .row (nodeR (p.take (i - 1)) idx wl nt pr kv hv f0) 107 (0, 0)⟩ :: Hs) (Hk := ⟨pb, true, .row (nodeR [] [] true 3 0 (.slice none 0 0) (.slice none 0 0) full) 107 (0, 0)⟩ :: X) (fun v H1' => v = .tuple #[] ∧ ∃ kv' Hs', Own 89 1 kv' (bs.length + 1) ((addB wl bs pb).map (Pt · 0)) Hs' ∧ H1' = ⟨nb, true, .row (nodeR (p.take (i - 1)) idx wl nt pr kv' hv f0) 107 (0, 0)⟩ :: Hs') (List.perm_middle (l₁ := ⟨nb, true, .row (nodeR (p.take (i - 1)) idx wl nt pr kv hv f0) 107 (0, 0)⟩ :: Hs)).symm (fun e0 he0 => ?_) Try.call82 rfl rfl (fun w1 hw1 _ => ?_) ?_
 ·rcases List.mem_cons.1 he0 with rfl | he0
  ·rfl
  ·exact hs.w e0 he0
 ·refine (f82_any w1 _ nb pb (p.take (i - 1)) idx wl nt pr hv f0 kv bs Hs (by omega) hs hw1).mono fun e w' ⟨h1, kv', Hs', h2, h3⟩ => ⟨_, _, h1, fun e0 he0 => ?_, h3, rfl, kv', Hs', h2, rfl⟩
  rcases List.mem_cons.1 he0 with rfl | he0
  ·rfl
  ·exact h2.w e0 he0
 rintro v H1' ⟨rfl, kv2, Hs2, hs2, rfl⟩
 refine G.turn (H' := ⟨pb, true, .row (nodeR [] [] true 3 0 (.slice none 0 0) (.slice none 0 0) full) 107 (0, 0)⟩ :: ⟨nb, true, .row (nodeR (p.take (i - 1)) idx wl nt pr kv2 hv f0) 107 (0, 0)⟩ :: (Hs2 ++ X)) (fun w1 h1 => h1.perm (List.perm_middle (l₁ := ⟨nb, true, .row (nodeR (p.take (i - 1)) idx wl nt pr kv2 hv f0) 107 (0, 0)⟩ :: Hs2))) ?_
 refine G.nil ?_
 refine GC.seq ?_
 refine GC.reg ?_
 refine G.m1 ?_
 refine G.v (V.nc rfl) rfl ?_
 refine G.v (V.fa F107_1 rfl) rfl ?_
 refine G.st (b := nb) (off := 0 + 1) (l := nodeR (p.take (i - 1)) idx wl nt pr kv2 hv f0) (T := 107) (fz := (0, 0)) (v := S [47]) Try.sizeOf9 rfl rfl rfl (.s .z) rfl rfl ?_
 refine G.nil ?_
 refine GC.seq ?_
 refine GC.turn (H' := ⟨pb, true, .row (nodeR [] [] true 3 0 (.slice none 0 0) (.slice none 0 0) full) 107 (0, 0)⟩ :: ⟨nb, true, .row (nodeR (p.take (i - 1)) [47] wl nt pr kv2 hv f0) 107 (0, 0)⟩ :: (Hs2 ++ X)) (fun w1 h1 => h1) ?_
 refine GC.reg ?_
 refine G.m1 ?_
 refine G.m2 ?_
 refine G.nil ?_
 refine GC.seq ?_
 refine GC.reg ?_
 refine G.m1 ?_
 refine G.v (V.nc rfl) rfl ?_
 refine G.v (V.fa F107_4 rfl) rfl ?_
 refine G.v (V.ld (b := pb) (off := 0 + 4) (wf := true) (l := nodeR [] [] true 3 0 (.slice none 0 0) (.slice none 0 0) full) (T := 107) (fz := (0, 0)) (v := .int .u32 ((0 % 4294967296 : Nat) : Int)) Try.isAgg104 rfl (.head _) rfl) rfl ?_
 refine G.v (V.add rfl rfl) rfl ?_
 rw [wrapU32]
 refine G.v (V.nc rfl) rfl ?_
 refine G.v (V.fa F107_4 rfl) rfl ?_
 refine G.st (b := pb) (off := 0 + 4) (l := nodeR [] [] true 3 0 (.slice none 0 0) (.slice none 0 0) full) (T := 107) (fz := (0, 0)) (v := .int .u32 (((0 + 1) % 4294967296 : Nat) : Int)) Try.sizeOf104 rfl rfl rfl (.z) rfl rfl ?_
 refine G.nil ?_
 refine GC.seq ?_
 refine GC.turn (H' := ⟨pb, true, .row (nodeR [] [] true 3 1 (.slice none 0 0) (.slice none 0 0) full) 107 (0, 0)⟩ :: ⟨nb, true, .row (nodeR (p.take (i - 1)) [47] wl nt pr kv2 hv f0) 107 (0, 0)⟩ :: (Hs2 ++ X)) (fun w1 h1 => h1) ?_
 refine GC.reg ?_
 refine G.m1 ?_
 refine G.m1 ?_
 refine G.v (V.slL (i := i - 1) Try.underlying9 rfl rfl (by omega)) rfl ?_
 refine G.m1 ?_
 refine G.m1 ?_
 refine G.v (V.bd (vs := [(0, S (p.drop (i - 1))), (3, .int .u8 3), (6, .slice (some ⟨hb, 0, none⟩) 1 1), (4, .int .u32 1), (7, S full)]) rfl (fun w1 => bd_cb _ _ _ w1)) rfl ?_
 refine G.bx (l := nodeR (p.drop (i - 1)) [] false 3 1 (.slice none 0 0) (.slice (some ⟨hb, 0, none⟩) 1 1) full) rfl (by simp [cells_agg, nodeR]) rfl (fun cb hcb => ?_)
 refine G.m2 ?_
 refine G.nil ?_
 refine GC.seq ?_
 refine GC.reg ?_
 refine G.m1 ?_
 refine G.m1 ?_
 refine G.bs (BS.one Try.underlying105 Try.sizeOf89 Try.zeroValue89 (v := Pt cb 0) rfl) rfl rfl (fun sb hsb => ?_)
 refine G.v (V.nc rfl) rfl ?_
 refine G.v (V.fa F107_5 rfl) rfl ?_
 refine G.st (b := pb) (off := 0 + 5) (l := nodeR [] [] true 3 1 (.slice none 0 0) (.slice none 0 0) full) (T := 107) (fz := (0, 0)) (v := .slice (some ⟨sb, 0, none⟩) 1 1) Try.sizeOf105 rfl rfl rfl (.s (.s .z)) rfl rfl ?_
 refine G.nil ?_
 refine GC.turn (H' := ⟨sb, true, .row [Pt cb 0] 89 (0, 0)⟩ :: ⟨cb, true, .row (nodeR (p.drop (i - 1)) [] false 3 1 (.slice none 0 0) (.slice (some ⟨hb, 0, none⟩) 1 1) full) 107 (0, 0)⟩ :: ⟨pb, true, .row (nodeR [] [] true 3 1 (.slice (some ⟨sb, 0, none⟩) 1 1) (.slice none 0 0) full) 107 (0, 0)⟩ :: ⟨nb, true, .row (nodeR (p.take (i - 1)) [47] wl nt pr kv2 hv f0) 107 (0, 0)⟩ :: (Hs2 ++ X)) (fun w1 h1 => h1) ?_
 refine GC.ret0 rfl fun w' hw' => ?_
 have hkid := HT.mk (path := p.drop (i - 1)) (idx := []) (wild := false) (nt := 3) (pr := 1) (full := full) (nb := cb) Own.nil (HV.row (k := num) (hb := hb)) HTs.nil
 have hown : Own 89 1 (.slice (some ⟨sb, 0, none⟩) 1 1) 1 ([cb].map (Pt · 0)) [⟨sb, true, .row [Pt cb 0] 89 (0, 0)⟩] := Own.row (xs := [Pt cb 0]) (spare := []) rfl rfl (Nat.le_refl _)
 obtain ⟨Hk2, hk2, hp2⟩ := hk.add (wild := wl) (HT.mk (path := []) (idx := []) (wild := true) (nt := 3) (pr := 1) (full := full) (nb := pb) (kids := [.node () (p.drop (i - 1)) [] false 3 1 (some num) full []]) hown HV.nil (HTs.one hkid))
 rw [hkl2] at hs2
 rw [← addKid_len wl kids (.node () [] [] true 3 1 none full [.node () (p.drop (i - 1)) [] false 3 1 (some num) full []])] at hs2
 refine fin _ w' (HT.mk hs2 hh hk2) (hw'.perm ?_)
 rw [hX]
 have e1 : Hk2.Perm (⟨pb, true, .row (nodeR [] [] true 3 1 (.slice (some ⟨sb, 0, none⟩) 1 1) (.slice none 0 0) full) 107 (0, 0)⟩ :: ⟨sb, true, .row [Pt cb 0] 89 (0, 0)⟩ :: ⟨cb, true, .row (nodeR (p.drop (i - 1)) [] false 3 1 (.slice none 0 0) (.slice (some ⟨hb, 0, none⟩) 1 1) full) 107 (0, 0)⟩ :: ⟨hb, true, .row [I (num : Int)] 3 (0, 0)⟩ :: Hk) := by simpa using hp2
 have p1 := perm_idx [[⟨sb, true, .row [Pt cb 0] 89 (0, 0)⟩], [⟨cb, true, .row (nodeR (p.drop (i - 1)) [] false 3 1 (.slice none 0 0) (.slice (some ⟨hb, 0, none⟩) 1 1) full) 107 (0, 0)⟩], [⟨pb, true, .row (nodeR [] [] true 3 1 (.slice (some ⟨sb, 0, none⟩) 1 1) (.slice none 0 0) full) 107 (0, 0)⟩], [⟨nb, true, .row (nodeR (p.take (i - 1)) [47] wl nt pr kv2 hv f0) 107 (0, 0)⟩], Hs2, Hh, Hk, [⟨hb, true, .row [I (num : Int)] 3 (0, 0)⟩], Hr] [0, 1, 2, 3, 4, 5, 6, 7, 8] [3, 4, 5, 2, 0, 1, 7, 6, 8] (by decide)
 refine List.Perm.trans (l₂ := ⟨nb, true, .row (nodeR (p.take (i - 1)) [47] wl nt pr kv2 hv f0) 107 (0, 0)⟩ :: (Hs2 ++ (Hh ++ ((⟨pb, true, .row (nodeR [] [] true 3 1 (.slice (some ⟨sb, 0, none⟩) 1 1) (.slice none 0 0) full) 107 (0, 0)⟩ :: ⟨sb, true, .row [Pt cb 0] 89 (0, 0)⟩ :: ⟨cb, true, .row (nodeR (p.drop (i - 1)) [] false 3 1 (.slice none 0 0) (.slice (some ⟨hb, 0, none⟩) 1 1) full) 107 (0, 0)⟩ :: ⟨hb, true, .row [I (num : Int)] 3 (0, 0)⟩ :: Hk) ++ Hr)))) (by simpa using p1) ?_
 have p2 := (((e1.symm.append_right Hr).append_left Hh).append_left Hs2).cons ⟨nb, true, .row (nodeR (p.take (i - 1)) [47] wl nt pr kv2 hv f0) 107 (0, 0)⟩
 simpa using p2
theorem f79_catx {R : Ending → World → Prop} {w : World} {D : Nat → Prop} {nb hb num : Nat} {p full tp idx : List UInt8} {wl : Bool} {nt pr : Nat} {h0 : Option Nat} {f0 : List UInt8} {kids : List T0} {bs : List Nat} {kv hv : Value} {Hs Hh Hk Hr : SH} {fr : SF}
  (hs : Own 89 1 kv kids.length (bs.map (Pt · 0)) Hs) (_hh : HV h0 hv Hh) (hk : HTs kids bs Hk) (h92 : ∀ c ∈ p, c ≠ 92) (hpl : p.length ≤ 100000) (_hkl : kids.length ≤ 90000) (hsub : Sub [(0, Pt nb 0), (1, S p), (2, S full), (3, .slice (some ⟨hb, 0, none⟩) 1 1)] fr) (wc : List UInt8) (i : Nat) (hf : fw p 0 = some (42 :: wc, i)) (hwc : ∀ c ∈ wc, c ≠ 58 ∧ c ≠ 42) (hwn : wc ≠ []) (hend : p.length = i + (wc.length + 1)) (_h47 : 0 < i → p[i - 1]? = some 47) (htl : tp.length ≤ 100000) (hx : tp.getLast? = some 47 ∨ i = 0) (hfl : full.length ≤ 100000) (hkp : ∀ k ∈ kids, k.path.length ≤ 100000)
  (pan : ∀ e w', onePanic e → HF w D [] w' → R e w') : GC Try.prog ⟨79, Try.f79, R, w, D⟩ 221 K79 fr (⟨nb, true, .row (nodeR tp idx wl nt pr kv hv f0) 107 (0, 0)⟩ :: ((Hs ++ (Hh ++ Hk)) ++ (⟨hb, true, .row [I (num : Int)] 3 (0, 0)⟩ :: Hr))) := by
 refine GC.weak hsub ?_
 clear hsub
 obtain ⟨X, hX⟩ : ∃ X, X = (Hh ++ Hk) ++ (⟨hb, true, .row [I (num : Int)] 3 (0, 0)⟩ :: Hr) := ⟨_, rfl⟩
 refine GC.turn (H' := ⟨nb, true, .row (nodeR tp idx wl nt pr kv hv f0) 107 (0, 0)⟩ :: (Hs ++ X)) (fun w1 h1 => by rw [hX, ← List.append_assoc]; exact h1) ?_
 have hkl2 := hk.len
 obtain ⟨ad, cap, rfl⟩ := hs.slice
 have h88 : ∀ w1, Calls Try.prog 88 #[S p] w1 fun e w' => e = .returned (.tuple #[S (42 :: wc), I (i : Int), .bool true]) ∧ HF w1 (fun _ => False) [] w' := by
  intro w1
  have := f88_any w1 p h92 (fun wc2 i2 h => by rw [hf] at h; cases h; exact hwc) hpl
  rw [hf] at this; exact this
 have hwl := List.length_pos_iff.2 hwn
 have hcl : (42 :: wc).length = wc.length + 1 := rfl
 refine GC.block ?_
 refine GC.seq ?_
 refine GC.reg ?_
 refine G.m1 ?_
 refine G.callP Try.call88 rfl rfl (fun w1 hw1 => h88 w1) ?_
 refine G.m1 ?_
 refine G.v (V.ex rfl rfl) rfl ?_
 refine G.v (V.ex rfl rfl) rfl ?_
 refine G.v (V.ex rfl rfl) rfl ?_
 refine G.m2 ?_
 refine G.m2 ?_
 refine G.m2 ?_
 refine G.nil ?_
 refine GC.seq ?_
 refine GC.seq ?_
 refine GC.reg ?_
 refine G.m1 ?_
 refine G.v (V.lt rfl rfl) rfl ?_
 refine G.nil ?_
 refine GC.condD rfl (fun h22 => absurd h22 (by omega)) (fun h22 => ?_)
 refine GC.skip ?_
 refine GC.seq ?_
 refine GC.seq ?_
 refine GC.reg ?_
 refine G.m1 ?_
 refine G.v (V.not rfl) rfl ?_
 refine G.nil ?_
 refine GC.cond rfl (fun h24 => absurd h24 (by decide)) (fun h24 => ?_)
 refine GC.skip ?_
 refine GC.seq ?_
 refine GC.seq ?_
 refine GC.reg ?_
 refine G.m1 ?_
 refine G.v (V.lenS Try.underlying9 rfl) rfl ?_
 refine G.v (V.lt rfl rfl) rfl ?_
 refine G.nil ?_
 refine GC.condD rfl (fun h34 => absurd h34 (by rw [hcl]; omega)) (fun h34 => ?_)
 refine GC.skip ?_
 refine GC.seq ?_
 refine GC.seq ?_
 refine GC.reg ?_
 refine G.m1 ?_
 refine G.v (V.idx (i := 0) (b := 42) Try.underlying9 rfl rfl rfl) rfl ?_
 refine G.v (V.eqI rfl rfl) rfl ?_
 refine G.nil ?_
 refine GC.condD rfl (fun h41 => absurd h41 (by decide)) (fun h41 => ?_)
 refine GC.skip ?_
 refine GC.seq ?_
 refine GC.seq ?_
 refine GC.reg ?_
 refine G.m1 ?_
 refine G.m1 ?_
 refine G.v (V.lenS Try.underlying9 rfl) rfl ?_
 refine G.v (V.addI (r := ((i + (wc.length + 1) : Nat) : Int)) rfl rfl (by rw [hcl]; omega) (by omega) (by omega)) rfl ?_
 refine G.m1 ?_
 refine G.v (V.lenS Try.underlying9 rfl) rfl ?_
 refine G.v (V.neI rfl rfl) rfl ?_
 refine G.nil ?_
 refine GC.cond rfl (fun h97 => absurd h97 (by rw [hend]; simp)) (fun h97 => ?_)
 refine GC.skip ?_
 refine GC.seq ?_
 refine GC.seq ?_
 refine GC.join (fun fr' H' => ∃ t : Bool, (t = true ↔ tp.getLast? = some 47) ∧ Sub [(0, Pt nb 0), (1, S p), (2, S full), (3, .slice (some ⟨hb, 0, none⟩) 1 1), (8, S (42 :: wc)), (9, I (i : Int)), (121, .bool t)] fr' ∧ H' = ⟨nb, true, .row (nodeR tp idx wl nt pr (.slice ad kids.length cap) hv f0) 107 (0, 0)⟩ :: (Hs ++ X)) (fun J23 => ?_) ?_
 ·refine GC.regQ mixed (by kernel_rfl) ?_
  refine GQ.v (V.mv rfl) rfl ?_
  refine GQ.v (V.nc rfl) rfl ?_
  refine GQ.v (V.fa F107_0 rfl) rfl ?_
  refine GQ.v (V.ld (b := nb) (off := 0 + 0) (wf := true) (l := nodeR tp idx wl nt pr (.slice ad kids.length cap) hv f0) (T := 107) (fz := (0, 0)) (v := S tp) Try.isAgg9 rfl (.head _) rfl) rfl ?_
  refine GQ.v (V.lenS Try.underlying9 rfl) rfl ?_
  refine GQ.v (V.gt rfl rfl) rfl ?_
  refine GQ.v (V.mv rfl) rfl ?_
  refine GQ.bc 108 rfl (fun h108 => ?_) (fun h108 => ?_)
  ·have htp : tp ≠ [] := fun e => by rw [e] at h108; simp at h108
   have htl := List.length_pos_iff.2 htp
   obtain ⟨y, hy⟩ : ∃ y, tp[tp.length - 1]? = some y := ⟨_, List.getElem?_eq_getElem (by omega)⟩
   refine GQ.vg rfl rfl (V.mv rfl) rfl ?_
   refine GQ.vg rfl rfl (V.nc rfl) rfl ?_
   refine GQ.vg rfl rfl (V.fa F107_0 rfl) rfl ?_
   refine GQ.vg rfl rfl (V.ld (b := nb) (off := 0 + 0) (wf := true) (l := nodeR tp idx wl nt pr (.slice ad kids.length cap) hv f0) (T := 107) (fz := (0, 0)) (v := S tp) Try.isAgg9 rfl (.head _) rfl) rfl ?_
   refine GQ.vg rfl rfl (V.mv rfl) rfl ?_
   refine GQ.vg rfl rfl (V.nc rfl) rfl ?_
   refine GQ.vg rfl rfl (V.fa F107_0 rfl) rfl ?_
   refine GQ.vg rfl rfl (V.ld (b := nb) (off := 0 + 0) (wf := true) (l := nodeR tp idx wl nt pr (.slice ad kids.length cap) hv f0) (T := 107) (fz := (0, 0)) (v := S tp) Try.isAgg9 rfl (.head _) rfl) rfl ?_
   refine GQ.vg rfl rfl (V.lenS Try.underlying9 rfl) rfl ?_
   refine GQ.vg rfl rfl (V.subI (r := ((tp.length - 1 : Nat) : Int)) rfl rfl (by omega) (by omega) (by omega)) rfl ?_
   refine GQ.vg rfl rfl (V.idx (i := tp.length - 1) (b := y) Try.underlying9 rfl rfl hy) rfl ?_
   refine GQ.vg rfl rfl (V.eqI rfl rfl) rfl ?_
   refine GQ.v (V.pickT rfl rfl) rfl ?_
   refine GQ.nil ?_
   refine J23 _ _ ⟨_, ?_, .of rfl, rfl⟩
   rw [decide_eq_true_eq, List.getLast?_eq_getElem?, hy]
   exact ⟨fun e => by rw [u47 e], fun e => by rw [Option.some.inj e]; rfl⟩
  ·refine GQ.sg rfl rfl rfl rfl rfl rfl ?_
   refine GQ.sg rfl rfl rfl rfl rfl rfl ?_
   refine GQ.sg rfl rfl rfl rfl rfl rfl ?_
   refine GQ.sg rfl rfl rfl rfl rfl rfl ?_
   refine GQ.sg rfl rfl rfl rfl rfl rfl ?_
   refine GQ.sg rfl rfl rfl rfl rfl rfl ?_
   refine GQ.sg rfl rfl rfl rfl rfl rfl ?_
   refine GQ.sg rfl rfl rfl rfl rfl rfl ?_
   refine GQ.sg rfl rfl rfl rfl rfl rfl ?_
   refine GQ.sg rfl rfl rfl rfl rfl rfl ?_
   refine GQ.sg rfl rfl rfl rfl rfl rfl ?_
   refine GQ.sg rfl rfl rfl rfl rfl rfl ?_
   refine GQ.v (V.pickF rfl rfl) rfl ?_
   refine GQ.nil ?_
   refine J23 _ _ ⟨false, ⟨fun h => (by cases h), fun h => ?_⟩, .of rfl, rfl⟩
   have htp : tp = [] := List.length_eq_zero_iff.1 (by have := of_decide_eq_false h108; omega)
   rw [htp] at h; cases h
 rintro fr' H' ⟨t, ht, hs23, rfl⟩
 refine GC.weak hs23 ?_
 clear hs23
 refine GC.cond rfl (fun h121 => ?_) (fun h121 => ?_)
 ·refine GC.seq ?_
  refine GC.reg ?_
  refine G.m2 ?_
  refine G.nil ?_
  refine GC.seq ?_
  refine GC.seq ?_
  refine GC.reg ?_
  refine G.m1 ?_
  refine G.v (V.nc rfl) rfl ?_
  refine G.v (V.fa F107_5 rfl) rfl ?_
  refine G.v (V.ld (b := nb) (off := 0 + 5) (wf := true) (l := nodeR tp idx wl nt pr (.slice ad kids.length cap) hv f0) (T := 107) (fz := (0, 0)) (v := (.slice ad kids.length cap)) Try.isAgg105 rfl (.head _) rfl) rfl ?_
  refine G.v (V.lenL Try.underlying105 rfl) rfl ?_
  refine G.v (V.neI rfl rfl) rfl ?_
  refine G.nil ?_
  refine GC.join (fun fr' H' => ∃ sg : List UInt8, sg.length ≤ 100000 ∧ Sub [(0, Pt nb 0), (1, S p), (2, S full), (13, S sg)] fr' ∧ H' = ⟨nb, true, .row (nodeR tp idx wl nt pr (.slice ad kids.length cap) hv f0) 107 (0, 0)⟩ :: (Hs ++ X)) (fun J127 => ?_) ?_
  ·refine GC.cond rfl (fun h127 => ?_) (fun h127 => ?_)
   ·have hk0 : 0 < kids.length := by
     rcases Nat.eq_zero_or_pos kids.length with e | e
     ·rw [e] at h127; simp at h127
     ·exact e
    obtain ⟨rb, cap2, spare, e1, rfl⟩ := hs.at hk0
    cases e1
    obtain ⟨k0, hk00⟩ : ∃ k0, kids[0]? = some k0 := ⟨_, List.getElem?_eq_getElem hk0⟩
    obtain ⟨b0, kv0, hv0, hb0, hm0⟩ := hk.mem hk00
    have hkp0 := hkp k0 (List.mem_of_getElem? hk00)
    refine GC.reg ?_
    refine G.m1 ?_
    refine G.v (V.nc rfl) rfl ?_
    refine G.v (V.fa F107_5 rfl) rfl ?_
    refine G.v (V.ld (b := nb) (off := 0 + 5) (wf := true) (l := nodeR tp idx wl nt pr (.slice (some ⟨rb, 0, none⟩) kids.length cap) hv f0) (T := 107) (fz := (0, 0)) (v := .slice (some ⟨rb, 0, none⟩) kids.length cap) Try.isAgg105 rfl (.head _) rfl) rfl ?_
    refine G.v (V.ia (i := 0) Try.underlying105 Try.sizeOf89 rfl rfl hk0) rfl ?_
    refine G.v (V.ld (b := rb) (off := 0 + 0 * 1) (wf := true) (l := bs.map (Pt · 0) ++ spare) (T := 89) (fz := (0, 0)) (v := Pt b0 0) Try.isAgg89 rfl (.tail _ (.head _)) (by rw [nth_eq, List.getElem?_append_left (by rw [List.length_map, hkl2]; exact hk0), List.getElem?_map, hb0]; rfl)) rfl ?_
    refine G.v (V.nc rfl) rfl ?_
    refine G.v (V.fa F107_0 rfl) rfl ?_
    refine G.v (V.ld (b := b0) (off := 0 + 0) (wf := true) (l := nodeR k0.path k0.idx k0.wild k0.nt k0.pr kv0 hv0 k0.full) (T := 107) (fz := (0, 0)) (v := S k0.path) Try.isAgg9 rfl (.tail _ (List.mem_append_right _ (by rw [hX]; exact List.mem_append_left _ (List.mem_append_right _ hm0)))) rfl) rfl ?_
    refine G.callW (fun v H2 => ∃ a b t, a <+: k0.path ∧ v = .tuple #[S a, S b, .bool t] ∧ H2 = ⟨nb, true, .row (nodeR tp idx wl nt pr (.slice (some ⟨rb, 0, none⟩) kids.length cap) hv f0) 107 (0, 0)⟩ :: ([⟨rb, true, .row (bs.map (Pt · 0) ++ spare) 89 (0, 0)⟩] ++ X)) Try.call83 rfl rfl (fun w1 hw1 => (f83_any w1 k0.path [47] (by omega) (by simp)).mono fun e w' ⟨a, b, t, h1, h2, h3⟩ => ⟨_, _, h2, hw1.after0 h3 (fun e he => by cases he), a, b, t, h1, rfl, rfl⟩) ?_
    rintro v H2 ⟨a, b, t2, hpre, rfl, rfl⟩
    refine G.m1 ?_
    refine G.v (V.ex rfl rfl) rfl ?_
    refine G.v (V.ex rfl rfl) rfl ?_
    refine G.v (V.ex rfl rfl) rfl ?_
    refine G.m2 ?_
    refine G.nil ?_
    exact J127 _ _ ⟨a, Nat.le_trans hpre.length_le hkp0, .of rfl, rfl⟩
   refine GC.skip ?_
   exact J127 _ _ ⟨[], by simp, .of rfl, rfl⟩
  rintro fr' H' ⟨sg, hsg, hs127, rfl⟩
  refine GC.weak hs127 ?_
  clear hs127
  refine GC.reg ?_
  refine G.m1 ?_
  refine G.v (V.cat rfl rfl (by simp; omega)) rfl ?_
  refine G.v (V.cat rfl rfl (by simp; omega)) rfl ?_
  refine G.m1 ?_
  refine G.v (V.cat rfl rfl (by simp; omega)) rfl ?_
  refine G.v (V.cat rfl rfl (by simp; omega)) rfl ?_
  refine G.m1 ?_
  refine G.v (V.cat rfl rfl (by simp; omega)) rfl ?_
  refine G.v (V.cat rfl rfl (by simp; omega)) rfl ?_
  refine G.m1 ?_
  refine G.v (V.nc rfl) rfl ?_
  refine G.v (V.fa F107_0 rfl) rfl ?_
  refine G.v (V.ld (b := nb) (off := 0 + 0) (wf := true) (l := nodeR tp idx wl nt pr (.slice ad kids.length cap) hv f0) (T := 107) (fz := (0, 0)) (v := S tp) Try.isAgg9 rfl (.head _) rfl) rfl ?_
  refine G.v (V.cat rfl rfl (by simp; omega)) rfl ?_
  refine G.m1 ?_
  refine G.v (V.cat rfl rfl (by simp; omega)) rfl ?_
  refine G.v (V.cat rfl rfl (by simp; omega)) rfl ?_
  refine G.v (V.miS Try.underlying9 rfl) rfl ?_
  refine G.panic rfl fun w' hw' => pan _ _ ⟨_, _, rfl⟩ (hw'.sub (List.nil_sublist _))
 refine GC.skip ?_
 refine GC.seq ?_
 have hi0 : i = 0 := by
  rcases hx with h | h
  ·exact absurd (ht.2 h) (by simp [h121])
  ·exact h
 refine GC.reg ?_
 refine G.m1 ?_
 refine G.v (V.subI (r := ((i : Int) - 1)) rfl rfl rfl (by omega) (by omega)) rfl ?_
 refine G.m2 ?_
 refine G.nil ?_
 refine GC.seq ?_
 refine GC.seq ?_
 refine GC.join (fun fr' H' => Sub [(2, S full), (169, .bool true)] fr' ∧ H' = ⟨nb, true, .row (nodeR tp idx wl nt pr (.slice ad kids.length cap) hv f0) 107 (0, 0)⟩ :: (Hs ++ X)) (fun J29 => ?_) ?_
 ·refine GC.reg ?_
  refine G.m1 ?_
  refine G.v (V.lt rfl rfl) rfl ?_
  refine G.m1 ?_
  refine G.bc 164 rfl (fun h164 => ?_) (fun h164 => ?_)
  ·refine G.s1 ?_
   refine G.s1 ?_
   refine G.s1 ?_
   refine G.s1 ?_
   refine G.m3 ?_
   refine G.nil ?_
   exact J29 _ _ ⟨.of rfl, rfl⟩
  ·exact absurd (of_decide_eq_false h164) (by omega)
 rintro fr' H' ⟨hs29, rfl⟩
 refine GC.weak hs29 ?_
 clear hs29
 refine GC.condT rfl ?_
 refine GC.reg ?_
 refine G.m1 ?_
 refine G.v (V.cat rfl rfl (by simp; omega)) rfl ?_
 refine G.v (V.cat rfl rfl (by simp; omega)) rfl ?_
 refine G.v (V.miS Try.underlying9 rfl) rfl ?_
 refine G.panic rfl fun w' hw' => pan _ _ ⟨_, _, rfl⟩ (hw'.sub (List.nil_sublist _))
end Go.Proofs

/- insertChild does what insT says. -/
set_option maxRecDepth 20000
namespace Go.Proofs
open Go Bw Gt
theorem f79_loop {R : Ending → World → Prop} {w : World} {D : Nat → Prop} {hb num : Nat} {full : List UInt8} (hfl : full.length ≤ 100000) : ∀ (g : Nat) (sl : Bool) (s : List Tok) (t : T0) (nb : Nat) (Hn Hr : SH) (fr : SF) (res : Option T0), Ok sl s → (∀ c ∈ txt s, c ≠ 92) → (txt s).length ≤ 100000 →
  t.kids.length ≤ 90000 → t.path.length ≤ 100000 → (∀ k ∈ t.kids, k.path.length ≤ 100000) → HT t nb Hn → insT g t (txt s) full num = some res → Sub [(0, Pt nb 0), (1, S (txt s)), (2, S full), (3, .slice (some ⟨hb, 0, none⟩) 1 1)] fr →
  (∀ t', res = some t' → ∀ Hn' w', HT t' nb Hn' → HF w D (Hn' ++ Hr) w' → R (.returned (.tuple #[])) w') → (res = none → ∀ e w', onePanic e → HF w D [] w' → R e w') →
  GC Try.prog ⟨79, Try.f79, R, w, D⟩ 221 K79 fr (Hn ++ (⟨hb, true, .row [I (num : Int)] 3 (0, 0)⟩ :: Hr))
 | 0, sl, s, t, nb, Hn, Hr, fr, res, _, _, _, _, _, _, _, h, _, _, _ => by unfold insT at h; cases h
 | g + 1, sl, s, t, nb, Hn, Hr, fr, res, hok, h92, hpl, hkl, htl, hkp, ht, h, hsub, fin, pan => by
  cases ht with
  | @mk tp idx wl nt pr h0 f0 kids _ bs kv hv Hs Hh Hk hs hh hk =>
  obtain ⟨pre, r, rfl, hp, hr, hcase⟩ := tok_split sl s hok
  simp only [Tr.kids, Tr.path] at hkl htl hkp
  rw [txt_app, txt_bs] at h92 hpl h hsub
  rcases hcase with rfl | ⟨n, q, rfl⟩ | ⟨n, rfl⟩
  ·have hf := fw_plain pre 0 hp
   simp only [txt, List.append_nil] at h92 hpl h hsub
   unfold insT at h
   simp only [hf] at h
   cases h
   exact f79_none hs hh hk h92 hpl hkl hsub hf (fin _ rfl)
  ·obtain ⟨h1, hn, hq, hq2⟩ := hr
   have hn0 : 0 < n.length := List.length_pos_iff.2 hn.1
   have hf := fw_P (t := txt q) hp hn (txt_hd47 hq)
   have hwc : ∀ c ∈ n, c ≠ 58 ∧ c ≠ 42 := fun c hc => (hn.2 c hc).2
   simp only [txt] at h92 hpl h hsub
   have hpl2 : (pre ++ 58 :: (n ++ txt q)).length = pre.length + (n.length + 1) + (txt q).length := by simp; omega
   unfold insT at h
   have hl : ¬ (58 :: n).length < 2 := by simp; omega
   have hd : (58 :: (n ++ txt q)).drop (58 :: n).length = txt q := by simp
   simp only [hf, hl, if_false, List.head?_cons, if_true, List.drop_left, hd] at h
   have hcut : (if 0 < pre.length then (pre ++ 58 :: (n ++ txt q)).take pre.length else tp) = cutP tp (pre ++ 58 :: (n ++ txt q)) pre.length := rfl
   rw [hcut] at h
   rcases hq with rfl | ⟨q', rfl⟩
   ·have h2 : ¬ (58 :: n).length < (58 :: (n ++ txt [])).length := by simp [txt]
    rw [if_neg h2] at h
    cases h
    exact f79_pend hs hh hk h92 hpl hkl hsub n pre.length hf hwc hn.1 (by simp) (by simp [txt]) (fin _ rfl)
   ·have h2 : (58 :: n).length < (58 :: (n ++ txt (.b 47 :: q'))).length := by simp [txt]
    rw [if_pos h2] at h
    obtain ⟨r2, hr2, hres⟩ := Option.map_eq_some_iff.1 h
    refine f79_pmore hs hh hk h92 hpl hkl hsub n pre.length hf hwc hn.1 (by simp) (by simp [txt]) fun pb cb kv2 kv3 Hs2 Hs3 fr' hs2 hs3 hsub' => ?_
    have e1 : (pre ++ 58 :: (n ++ txt (.b 47 :: q'))).drop (pre.length + (58 :: n).length) = txt (.b 47 :: q') := by
     rw [← List.drop_drop, List.drop_left]; simp
    rw [e1] at hsub'
    have hkl2 := hk.len
    refine f79_loop hfl g false (.b 47 :: q') (.node () [] [] false 0 1 none full []) cb [_] _ fr' r2 hq2 (fun c hc => h92 c (by simp [hc])) (by rw [hpl2] at hpl; omega) (by simp [Tr.kids]) (by simp [Tr.path]) (by simp [Tr.kids]) (HT.mk Own.nil HV.nil HTs.nil) hr2 hsub' ?_ ?_
    ·intro c2 hc2 Hn2 w' hc hw'
     subst hc2
     obtain ⟨Hk2, hk2, hp2⟩ := hk.add (wild := wl) (HT.mk (path := 58 :: n) (idx := []) (wild := false) (nt := 2) (pr := 1) (h := none) (full := full) (nb := pb) (kids := [c2]) (bs := [cb]) hs3 HV.nil (HTs.one hc))
     rw [hkl2] at hs2
     rw [← addKid_len wl kids (.node () (58 :: n) [] false 2 1 none full [c2])] at hs2
     refine fin _ hres.symm _ w' (HT.mk hs2 hh hk2) (hw'.perm ?_)
     generalize (⟨nb, true, .row (nodeR (cutP tp (pre ++ 58 :: (n ++ txt (.b 47 :: q'))) pre.length) idx true nt pr kv2 hv f0) 107 (0, 0)⟩ : Ent) = EC at *
     generalize (⟨pb, true, .row (nodeR (58 :: n) [] false 2 1 kv3 (.slice none 0 0) full) 107 (0, 0)⟩ : Ent) = PE at *
     have e2 : Hk2.Perm (PE :: (Hs3 ++ Hn2) ++ Hk) := by simpa using hp2
     have p1 := perm_idx [Hn2, [EC], Hs2, Hh, Hk, [PE], Hs3, Hr] [0, 1, 2, 3, 4, 5, 6, 7] [1, 2, 3, 5, 6, 0, 4, 7] (by decide)
     refine List.Perm.trans (l₂ := EC :: (Hs2 ++ (Hh ++ ((PE :: (Hs3 ++ Hn2) ++ Hk) ++ Hr)))) (by simpa using p1) ?_
     have p2 := (((e2.symm.append_right Hr).append_left Hh).append_left Hs2).cons EC
     simpa using p2
    ·intro hr0
     subst hr0
     exact pan hres.symm
  ·obtain ⟨h1, hn, _⟩ := hr
   have hn0 : 0 < n.length := List.length_pos_iff.2 hn.1
   have hwc : ∀ c ∈ n, c ≠ 58 ∧ c ≠ 42 := fun c hc => (hn.2 c hc).2
   have e1 : txt [.A n] = 42 :: n := by simp [txt]
   rw [e1] at h92 hpl h hsub
   have hf := fw_A hp hn
   have h47 : 0 < pre.length → (pre ++ 42 :: n)[pre.length - 1]? = some 47 := by
    intro h0
    have hne : pre ≠ [] := List.length_pos_iff.1 h0
    rw [if_neg hne] at h1
    rw [List.getElem?_append_left (by omega), ← List.getLast?_eq_getElem?]
    simpa using h1
   have hlen : (pre ++ 42 :: n).length = pre.length + (n.length + 1) := by simp
   unfold insT at h
   have hl : ¬ (42 :: n).length < 2 := by simp; omega
   have hh2 : ¬ ((some 42 : Option UInt8) = some 58) := by decide
   have hl2 : ¬ (pre.length + (42 :: n).length ≠ (pre ++ 42 :: n).length) := by simp
   simp only [hf, hl, if_false, List.head?_cons, hh2, hl2] at h
   by_cases htp : tp.getLast? = some 47
   ·rw [if_pos htp] at h
    cases h
    exact f79_catx hs hh hk h92 hpl hkl hsub n pre.length hf hwc hn.1 hlen h47 htl (.inl htp) hfl hkp (pan rfl)
   rw [if_neg htp] at h
   by_cases h0 : pre.length = 0
   ·rw [if_pos (.inl h0)] at h
    cases h
    exact f79_catx hs hh hk h92 hpl hkl hsub n pre.length hf hwc hn.1 hlen h47 htl (.inr h0) hfl hkp (pan rfl)
   ·have h3 := h47 (by omega)
    rw [if_neg (by rintro (e | e); exact h0 e; exact e h3)] at h
    cases h
    exact f79_cat hs hh hk h92 hpl hkl hsub n pre.length hf hwc hn.1 hlen h47 htl htp (by omega) (fin _ rfl)
/-- insertChild -/
theorem f79_any (w : World) (D : Nat → Prop) {hb num : Nat} {full : List UInt8} (hfl : full.length ≤ 100000) (g : Nat) (sl : Bool) (s : List Tok) (t : T0) (nb : Nat) (Hn Hr : SH) (res : Option T0) (hok : Ok sl s) (h92 : ∀ c ∈ txt s, c ≠ 92) (hpl : (txt s).length ≤ 100000)
  (hkl : t.kids.length ≤ 90000) (htl : t.path.length ≤ 100000) (hkp : ∀ k ∈ t.kids, k.path.length ≤ 100000) (ht : HT t nb Hn) (hres : insT g t (txt s) full num = some res) (hH : HF w D (Hn ++ (⟨hb, true, .row [I (num : Int)] 3 (0, 0)⟩ :: Hr)) w) :
  Calls Try.prog 79 #[Pt nb 0, S (txt s), S full, .slice (some ⟨hb, 0, none⟩) 1 1] w fun e w' => (∃ t' Hn', res = some t' ∧ e = .returned (.tuple #[]) ∧ HT t' nb Hn' ∧ HF w D (Hn' ++ Hr) w') ∨ (res = none ∧ onePanic e ∧ HF w D [] w') := by
 refine enter D (Hn ++ (⟨hb, true, .row [I (num : Int)] 3 (0, 0)⟩ :: Hr)) Try.func79 rfl Try.ntmps79 rfl rfl hH fun c hc => ?_
 subst hc
 refine GC.seq ?_
 refine GC.block ?_
 refine GC.loop ?_
 exact f79_loop hfl g sl s t nb Hn Hr _ res hok h92 hpl hkl htl hkp ht hres (.of rfl) (fun t' h1 Hn' w' h2 h3 => .inl ⟨t', Hn', h1, rfl, h2, h3⟩) (fun h1 e w' h2 h3 => .inr ⟨h1, h2, h3⟩)
end Go.Proofs

/- addRoute: the head of its loop: an edge is split. Printed by wip/mk_gu9.py. -/
set_option maxRecDepth 20000
namespace Go.Proofs
open Go Bw
open Gt
theorem _root_.Bw.V.sub32 {P : Program} {c : Cx} {n : Nat} {fr : SF} {H : SH} {ty t u : TypeId} {x y : Operand} {p q : Nat} (hq : q = p + 4294967295) (hx : ev fr x = some (.int .u32 ((p % 4294967296 : Nat) : Int))) (hy : ev fr y = some (.int .u32 1)) : Val P c n (.binOp .sub t x y u) ty fr H (.int .u32 ((q % 4294967296 : Nat) : Int)) := by
 subst hq
 have := V.sub (P := P) (c := c) (n := n) (H := H) (ty := ty) (t := t) (u := u) hx hy
 rw [wrapU32m] at this; exact this
theorem bd_all (a b f : List UInt8) (wl : Bool) (k1 k2 : Option Addr) (n1 c1 n2 c2 p : Nat) (w : World) : (Instr.build 107 #[(0, S a), (2, .bool wl), (3, .int .u8 0), (1, S b), (5, .slice k1 n1 c1), (6, .slice k2 n2 c2), (4, .int .u32 ((p % 4294967296 : Nat) : Int)), (7, S f)]).run Try.prog w = .ok (.agg (nodeR a b wl 0 p (.slice k1 n1 c1) (.slice k2 n2 c2) f).toArray) w := by
 simp [Instr.build, Try.zeroValue107, Try.runUnderlying107, Try.sizeOf9, Try.sizeOf4, Try.sizeOf103, Try.sizeOf104, Try.sizeOf105, Try.sizeOf94, cells_agg, Instr.fill, cells_str, cells_bool, cells_int, cells_sl, nodeR]
def sR : Code → Code
 | .seq _ b => b
 | c => c
def mid3 : List Item → List Item
 | .code (.block id y) :: k => .code (sR (sR y)) :: .inBlock id :: k
 | k => k
/-- addRoute's loop; .. behind the split -/
noncomputable def K72 : List Item := (splitLoop ((Try.f72.body).getD .skip) []).getD []
noncomputable def K72m : List Item := mid3 K72
theorem f72_split {R : Ending → World → Prop} {w : World} {D : Nat → Prop} {nb hb num pfi : Nat} {p full tp idx : List UInt8} {wl : Bool} {nt pr : Nat} {h0 : Option Nat} {f0 : List UInt8} {kids : List T0} {bs : List Nat} {kv hv : Value} {Hs Hh Hk Hr : SH} {fr : SF}
  (hs : Own 89 1 kv kids.length (bs.map (Pt · 0)) Hs) (hh : HV h0 hv Hh) (hk : HTs kids bs Hk) (hpl : p.length ≤ 100000) (hfl : full.length ≤ 100000) (hpf : pfi + p.length ≤ full.length) (hsub : Sub [(0, Pt nb 0), (1, S p), (2, .slice (some ⟨hb, 0, none⟩) 1 1), (6, S full), (7, I (pfi : Int))] fr)
  (go : ∀ Hn1 fr', HT (if Gs.lcp p tp < tp.length then split (.node () tp idx wl nt pr h0 f0 kids) () (Gs.lcp p tp) (full.take (pfi + Gs.lcp p tp)) else .node () tp idx wl nt pr h0 f0 kids) nb Hn1 → Sub [(0, Pt nb 0), (1, S p), (2, .slice (some ⟨hb, 0, none⟩) 1 1), (6, S full), (7, I (pfi : Int)), (8, I (Gs.lcp p tp : Nat))] fr' → GC Try.prog ⟨72, Try.f72, R, w, D⟩ 377 K72m fr' (Hn1 ++ (⟨hb, true, .row [I (num : Int)] 3 (0, 0)⟩ :: Hr))) :
  GC Try.prog ⟨72, Try.f72, R, w, D⟩ 377 K72 fr (⟨nb, true, .row (nodeR tp idx wl nt pr kv hv f0) 107 (0, 0)⟩ :: ((Hs ++ (Hh ++ Hk)) ++ (⟨hb, true, .row [I (num : Int)] 3 (0, 0)⟩ :: Hr))) := by
 refine GC.weak hsub ?_
 clear hsub
 obtain ⟨X, hX⟩ : ∃ X, X = (Hh ++ Hk) ++ (⟨hb, true, .row [I (num : Int)] 3 (0, 0)⟩ :: Hr) := ⟨_, rfl⟩
 refine GC.turn (H' := ⟨nb, true, .row (nodeR tp idx wl nt pr kv hv f0) 107 (0, 0)⟩ :: (Hs ++ X)) (fun w1 h1 => by rw [hX, ← List.append_assoc]; exact h1) ?_
 have hkl2 := hk.len
 obtain ⟨pr2, hpr2⟩ : ∃ q, q = pr + 4294967295 := ⟨_, rfl⟩
 have hle := Gs.lcp_le p tp
 obtain ⟨ad, cap, rfl⟩ := hs.slice
 obtain ⟨ad2, l2, c2, rfl, hnn⟩ := hh.slice
 generalize hi : Gs.lcp p tp = i at *
 have htk : p.take i = tp.take i := by rw [← hi]; exact (Gs.lcp_take p tp)
 refine GC.block ?_
 refine GC.seq ?_
 refine GC.reg ?_
 refine G.m1 ?_
 refine G.m1 ?_
 refine G.v (V.nc rfl) rfl ?_
 refine G.v (V.fa F107_0 rfl) rfl ?_
 refine G.v (V.ld (b := nb) (off := 0 + 0) (wf := true) (l := nodeR tp idx wl nt pr (.slice ad kids.length cap) (.slice ad2 l2 c2) f0) (T := 107) (fz := (0, 0)) (v := S tp) Try.isAgg9 rfl (.head _) rfl) rfl ?_
 refine G.callP Try.call80 rfl rfl (fun w1 hw1 => by have := f80_any w1 p tp (by omega); rw [hi] at this; exact this) ?_
 refine G.m2 ?_
 refine G.nil ?_
 refine GC.seq ?_
 refine GC.seq ?_
 refine GC.reg ?_
 refine G.m1 ?_
 refine G.m1 ?_
 refine G.v (V.nc rfl) rfl ?_
 refine G.v (V.fa F107_0 rfl) rfl ?_
 refine G.v (V.ld (b := nb) (off := 0 + 0) (wf := true) (l := nodeR tp idx wl nt pr (.slice ad kids.length cap) (.slice ad2 l2 c2) f0) (T := 107) (fz := (0, 0)) (v := S tp) Try.isAgg9 rfl (.head _) rfl) rfl ?_
 refine G.v (V.lenS Try.underlying9 rfl) rfl ?_
 refine G.v (V.lt rfl rfl) rfl ?_
 refine G.nil ?_
 refine GC.join (fun fr' H' => ∃ Hn1, HT (if i < tp.length then split (.node () tp idx wl nt pr h0 f0 kids) () i (full.take (pfi + i)) else .node () tp idx wl nt pr h0 f0 kids) nb Hn1 ∧ Sub [(0, Pt nb 0), (1, S p), (2, .slice (some ⟨hb, 0, none⟩) 1 1), (6, S full), (7, I (pfi : Int)), (8, I (i : Nat))] fr' ∧ (∀ w1, HF w D H' w1 → HF w D (Hn1 ++ (⟨hb, true, .row [I (num : Int)] 3 (0, 0)⟩ :: Hr)) w1)) (fun J58 => ?_) ?_
 ·refine GC.condD rfl (fun h58 => ?_) (fun h58 => ?_)
  ·refine GC.seq ?_
   refine GC.regM 33 (fun w1 => w1.heap[nb]? = some (Blk.den (.row (nodeR tp idx wl nt pr (.slice ad kids.length cap) (.slice ad2 l2 c2) f0) 107 (0, 0)))) mixed (by kernel_rfl) ?_
   refine GM.p 0 rfl (by kernel_rfl) (by kernel_rfl) (fun w1 h1 => h1.has ⟨nb, true, .row (nodeR tp idx wl nt pr (.slice ad kids.length cap) (.slice ad2 l2 c2) f0) 107 (0, 0)⟩ (by first | exact .head _ | exact .tail _ (.head _))) (fun _ => V.mv rfl) rfl ?_
   refine GM.p 1 rfl (by kernel_rfl) (by kernel_rfl) (fun w1 h1 => h1.has ⟨nb, true, .row (nodeR tp idx wl nt pr (.slice ad kids.length cap) (.slice ad2 l2 c2) f0) 107 (0, 0)⟩ (by first | exact .head _ | exact .tail _ (.head _))) (fun _ => V.nc rfl) rfl ?_
   refine GM.p 2 rfl (by kernel_rfl) (by kernel_rfl) (fun w1 h1 => h1.has ⟨nb, true, .row (nodeR tp idx wl nt pr (.slice ad kids.length cap) (.slice ad2 l2 c2) f0) 107 (0, 0)⟩ (by first | exact .head _ | exact .tail _ (.head _))) (fun _ => V.fa F107_0 rfl) rfl ?_
   refine GM.ld 3 rfl (by kernel_rfl) (by kernel_rfl) (fun w1 h1 => h1.has ⟨nb, true, .row (nodeR tp idx wl nt pr (.slice ad kids.length cap) (.slice ad2 l2 c2) f0) 107 (0, 0)⟩ (by first | exact .head _ | exact .tail _ (.head _))) Try.isAgg9 rfl (fun w1 h1 => cellB h1 rfl) rfl ?_
   refine GM.p 4 rfl (by kernel_rfl) (by kernel_rfl) (fun w1 h1 => h1.has ⟨nb, true, .row (nodeR tp idx wl nt pr (.slice ad kids.length cap) (.slice ad2 l2 c2) f0) 107 (0, 0)⟩ (by first | exact .head _ | exact .tail _ (.head _))) (fun _ => V.mv rfl) rfl ?_
   refine GM.p 5 rfl (by kernel_rfl) (by kernel_rfl) (fun w1 h1 => h1.has ⟨nb, true, .row (nodeR tp idx wl nt pr (.slice ad kids.length cap) (.slice ad2 l2 c2) f0) 107 (0, 0)⟩ (by first | exact .head _ | exact .tail _ (.head _))) (fun _ => V.slL (i := i) Try.underlying9 rfl rfl (by omega)) rfl ?_
   refine GM.p 6 rfl (by kernel_rfl) (by kernel_rfl) (fun w1 h1 => h1.has ⟨nb, true, .row (nodeR tp idx wl nt pr (.slice ad kids.length cap) (.slice ad2 l2 c2) f0) 107 (0, 0)⟩ (by first | exact .head _ | exact .tail _ (.head _))) (fun _ => V.mv rfl) rfl ?_
   refine GM.p 7 rfl (by kernel_rfl) (by kernel_rfl) (fun w1 h1 => h1.has ⟨nb, true, .row (nodeR tp idx wl nt pr (.slice ad kids.length cap) (.slice ad2 l2 c2) f0) 107 (0, 0)⟩ (by first | exact .head _ | exact .tail _ (.head _))) (fun _ => V.nc rfl) rfl ?_
   refine GM.p 8 rfl (by kernel_rfl) (by kernel_rfl) (fun w1 h1 => h1.has ⟨nb, true, .row (nodeR tp idx wl nt pr (.slice ad kids.length cap) (.slice ad2 l2 c2) f0) 107 (0, 0)⟩ (by first | exact .head _ | exact .tail _ (.head _))) (fun _ => V.fa F107_2 rfl) rfl ?_
   refine GM.ld 9 rfl (by kernel_rfl) (by kernel_rfl) (fun w1 h1 => h1.has ⟨nb, true, .row (nodeR tp idx wl nt pr (.slice ad kids.length cap) (.slice ad2 l2 c2) f0) 107 (0, 0)⟩ (by first | exact .head _ | exact .tail _ (.head _))) Try.isAgg4 rfl (fun w1 h1 => cellB h1 rfl) rfl ?_
   refine GM.p 10 rfl (by kernel_rfl) (by kernel_rfl) (fun w1 h1 => h1.has ⟨nb, true, .row (nodeR tp idx wl nt pr (.slice ad kids.length cap) (.slice ad2 l2 c2) f0) 107 (0, 0)⟩ (by first | exact .head _ | exact .tail _ (.head _))) (fun _ => V.mv rfl) rfl ?_
   refine GM.p 11 rfl (by kernel_rfl) (by kernel_rfl) (fun w1 h1 => h1.has ⟨nb, true, .row (nodeR tp idx wl nt pr (.slice ad kids.length cap) (.slice ad2 l2 c2) f0) 107 (0, 0)⟩ (by first | exact .head _ | exact .tail _ (.head _))) (fun _ => V.nc rfl) rfl ?_
   refine GM.p 12 rfl (by kernel_rfl) (by kernel_rfl) (fun w1 h1 => h1.has ⟨nb, true, .row (nodeR tp idx wl nt pr (.slice ad kids.length cap) (.slice ad2 l2 c2) f0) 107 (0, 0)⟩ (by first | exact .head _ | exact .tail _ (.head _))) (fun _ => V.fa F107_1 rfl) rfl ?_
   refine GM.ld 13 rfl (by kernel_rfl) (by kernel_rfl) (fun w1 h1 => h1.has ⟨nb, true, .row (nodeR tp idx wl nt pr (.slice ad kids.length cap) (.slice ad2 l2 c2) f0) 107 (0, 0)⟩ (by first | exact .head _ | exact .tail _ (.head _))) Try.isAgg9 rfl (fun w1 h1 => cellB h1 rfl) rfl ?_
   refine GM.p 14 rfl (by kernel_rfl) (by kernel_rfl) (fun w1 h1 => h1.has ⟨nb, true, .row (nodeR tp idx wl nt pr (.slice ad kids.length cap) (.slice ad2 l2 c2) f0) 107 (0, 0)⟩ (by first | exact .head _ | exact .tail _ (.head _))) (fun _ => V.mv rfl) rfl ?_
   refine GM.p 15 rfl (by kernel_rfl) (by kernel_rfl) (fun w1 h1 => h1.has ⟨nb, true, .row (nodeR tp idx wl nt pr (.slice ad kids.length cap) (.slice ad2 l2 c2) f0) 107 (0, 0)⟩ (by first | exact .head _ | exact .tail _ (.head _))) (fun _ => V.nc rfl) rfl ?_
   refine GM.p 16 rfl (by kernel_rfl) (by kernel_rfl) (fun w1 h1 => h1.has ⟨nb, true, .row (nodeR tp idx wl nt pr (.slice ad kids.length cap) (.slice ad2 l2 c2) f0) 107 (0, 0)⟩ (by first | exact .head _ | exact .tail _ (.head _))) (fun _ => V.fa F107_5 rfl) rfl ?_
   refine GM.ld 17 rfl (by kernel_rfl) (by kernel_rfl) (fun w1 h1 => h1.has ⟨nb, true, .row (nodeR tp idx wl nt pr (.slice ad kids.length cap) (.slice ad2 l2 c2) f0) 107 (0, 0)⟩ (by first | exact .head _ | exact .tail _ (.head _))) Try.isAgg105 rfl (fun w1 h1 => cellB h1 rfl) rfl ?_
   refine GM.p 18 rfl (by kernel_rfl) (by kernel_rfl) (fun w1 h1 => h1.has ⟨nb, true, .row (nodeR tp idx wl nt pr (.slice ad kids.length cap) (.slice ad2 l2 c2) f0) 107 (0, 0)⟩ (by first | exact .head _ | exact .tail _ (.head _))) (fun _ => V.mv rfl) rfl ?_
   refine GM.p 19 rfl (by kernel_rfl) (by kernel_rfl) (fun w1 h1 => h1.has ⟨nb, true, .row (nodeR tp idx wl nt pr (.slice ad kids.length cap) (.slice ad2 l2 c2) f0) 107 (0, 0)⟩ (by first | exact .head _ | exact .tail _ (.head _))) (fun _ => V.nc rfl) rfl ?_
   refine GM.p 20 rfl (by kernel_rfl) (by kernel_rfl) (fun w1 h1 => h1.has ⟨nb, true, .row (nodeR tp idx wl nt pr (.slice ad kids.length cap) (.slice ad2 l2 c2) f0) 107 (0, 0)⟩ (by first | exact .head _ | exact .tail _ (.head _))) (fun _ => V.fa F107_6 rfl) rfl ?_
   refine GM.ld 21 rfl (by kernel_rfl) (by kernel_rfl) (fun w1 h1 => h1.has ⟨nb, true, .row (nodeR tp idx wl nt pr (.slice ad kids.length cap) (.slice ad2 l2 c2) f0) 107 (0, 0)⟩ (by first | exact .head _ | exact .tail _ (.head _))) Try.isAgg94 rfl (fun w1 h1 => cellB h1 rfl) rfl ?_
   refine GM.p 22 rfl (by kernel_rfl) (by kernel_rfl) (fun w1 h1 => h1.has ⟨nb, true, .row (nodeR tp idx wl nt pr (.slice ad kids.length cap) (.slice ad2 l2 c2) f0) 107 (0, 0)⟩ (by first | exact .head _ | exact .tail _ (.head _))) (fun _ => V.mv rfl) rfl ?_
   refine GM.p 23 rfl (by kernel_rfl) (by kernel_rfl) (fun w1 h1 => h1.has ⟨nb, true, .row (nodeR tp idx wl nt pr (.slice ad kids.length cap) (.slice ad2 l2 c2) f0) 107 (0, 0)⟩ (by first | exact .head _ | exact .tail _ (.head _))) (fun _ => V.nc rfl) rfl ?_
   refine GM.p 24 rfl (by kernel_rfl) (by kernel_rfl) (fun w1 h1 => h1.has ⟨nb, true, .row (nodeR tp idx wl nt pr (.slice ad kids.length cap) (.slice ad2 l2 c2) f0) 107 (0, 0)⟩ (by first | exact .head _ | exact .tail _ (.head _))) (fun _ => V.fa F107_4 rfl) rfl ?_
   refine GM.ld 25 rfl (by kernel_rfl) (by kernel_rfl) (fun w1 h1 => h1.has ⟨nb, true, .row (nodeR tp idx wl nt pr (.slice ad kids.length cap) (.slice ad2 l2 c2) f0) 107 (0, 0)⟩ (by first | exact .head _ | exact .tail _ (.head _))) Try.isAgg104 rfl (fun w1 h1 => cellB h1 rfl) rfl ?_
   refine GM.p 26 rfl (by kernel_rfl) (by kernel_rfl) (fun w1 h1 => h1.has ⟨nb, true, .row (nodeR tp idx wl nt pr (.slice ad kids.length cap) (.slice ad2 l2 c2) f0) 107 (0, 0)⟩ (by first | exact .head _ | exact .tail _ (.head _))) (fun _ => V.sub32 hpr2 rfl rfl) rfl ?_
   refine GM.p 27 rfl (by kernel_rfl) (by kernel_rfl) (fun w1 h1 => h1.has ⟨nb, true, .row (nodeR tp idx wl nt pr (.slice ad kids.length cap) (.slice ad2 l2 c2) f0) 107 (0, 0)⟩ (by first | exact .head _ | exact .tail _ (.head _))) (fun _ => V.mv rfl) rfl ?_
   refine GM.p 28 rfl (by kernel_rfl) (by kernel_rfl) (fun w1 h1 => h1.has ⟨nb, true, .row (nodeR tp idx wl nt pr (.slice ad kids.length cap) (.slice ad2 l2 c2) f0) 107 (0, 0)⟩ (by first | exact .head _ | exact .tail _ (.head _))) (fun _ => V.nc rfl) rfl ?_
   refine GM.p 29 rfl (by kernel_rfl) (by kernel_rfl) (fun w1 h1 => h1.has ⟨nb, true, .row (nodeR tp idx wl nt pr (.slice ad kids.length cap) (.slice ad2 l2 c2) f0) 107 (0, 0)⟩ (by first | exact .head _ | exact .tail _ (.head _))) (fun _ => V.fa F107_7 rfl) rfl ?_
   refine GM.ld 30 rfl (by kernel_rfl) (by kernel_rfl) (fun w1 h1 => h1.has ⟨nb, true, .row (nodeR tp idx wl nt pr (.slice ad kids.length cap) (.slice ad2 l2 c2) f0) 107 (0, 0)⟩ (by first | exact .head _ | exact .tail _ (.head _))) Try.isAgg9 rfl (fun w1 h1 => cellB h1 rfl) rfl ?_
   refine GM.p 31 rfl (by kernel_rfl) (by kernel_rfl) (fun w1 h1 => h1.has ⟨nb, true, .row (nodeR tp idx wl nt pr (.slice ad kids.length cap) (.slice ad2 l2 c2) f0) 107 (0, 0)⟩ (by first | exact .head _ | exact .tail _ (.head _))) (fun _ => V.bd (vs := [(0, S (tp.drop i)), (2, .bool wl), (3, .int .u8 0), (1, S idx), (5, .slice ad kids.length cap), (6, .slice ad2 l2 c2), (4, .int .u32 ((pr2 % 4294967296 : Nat) : Int)), (7, S f0)]) rfl (fun w1 => bd_all _ _ _ _ _ _ _ _ _ _ _ w1)) rfl ?_
   refine GM.one 32 rfl (by kernel_rfl) ?_
   refine GMB.al (l := nodeR [] [] false 0 0 (.slice none 0 0) (.slice none 0 0) []) Try.zeroValue107 (by simp [cells_agg, nodeR]) (fun w1 h1 => h1.has ⟨nb, true, .row (nodeR tp idx wl nt pr (.slice ad kids.length cap) (.slice ad2 l2 c2) f0) 107 (0, 0)⟩ (.head _)) rfl (fun cb => ?_)
   refine GM.tl (by kernel_rfl) ?_
   refine G.stA (l := nodeR [] [] false 0 0 (.slice none 0 0) (.slice none 0 0) []) (cs := nodeR (tp.drop i) idx wl 0 pr2 (.slice ad kids.length cap) (.slice ad2 l2 c2) f0) Try.sizeOf107 rfl rfl (nodeR_one rfl rfl) .z rfl ?_
   refine G.nil ?_
   refine GC.seq ?_
   refine GC.turn (H' := ⟨cb, true, .row (nodeR (tp.drop i) idx wl 0 pr2 (.slice ad kids.length cap) (.slice ad2 l2 c2) f0) 107 (0, 0)⟩ :: ⟨nb, true, .row (nodeR tp idx wl nt pr (.slice ad kids.length cap) (.slice ad2 l2 c2) f0) 107 (0, 0)⟩ :: (Hs ++ X)) (fun w1 h1 => h1) ?_
   refine GC.reg ?_
   refine G.m1 ?_
   refine G.bs (BS.one Try.underlying105 Try.sizeOf89 Try.zeroValue89 (v := Pt cb 0) rfl) rfl rfl (fun sb hsb => ?_)
   refine G.v (V.nc rfl) rfl ?_
   refine G.v (V.fa F107_5 rfl) rfl ?_
   refine G.st (b := nb) (off := 0 + 5) (l := nodeR tp idx wl nt pr (.slice ad kids.length cap) (.slice ad2 l2 c2) f0) (T := 107) (fz := (0, 0)) (v := .slice (some ⟨sb, 0, none⟩) 1 1) Try.sizeOf105 rfl rfl rfl (.s (.s .z)) rfl rfl ?_
   refine G.nil ?_
   refine GC.seq ?_
   refine GC.turn (H' := ⟨sb, true, .row [Pt cb 0] 89 (0, 0)⟩ :: ⟨cb, true, .row (nodeR (tp.drop i) idx wl 0 pr2 (.slice ad kids.length cap) (.slice ad2 l2 c2) f0) 107 (0, 0)⟩ :: ⟨nb, true, .row (nodeR tp idx wl nt pr (.slice (some ⟨sb, 0, none⟩) 1 1) (.slice ad2 l2 c2) f0) 107 (0, 0)⟩ :: (Hs ++ X)) (fun w1 h1 => h1) ?_
   have hlt : i < tp.length := by omega
   obtain ⟨x, hx⟩ : ∃ x, tp[i]? = some x := ⟨_, List.getElem?_eq_getElem hlt⟩
   refine GC.reg ?_
   refine G.m1 ?_
   refine G.m1 ?_
   refine G.v (V.nc rfl) rfl ?_
   refine G.v (V.fa F107_0 rfl) rfl ?_
   refine G.v (V.ld (b := nb) (off := 0 + 0) (wf := true) (l := nodeR tp idx wl nt pr (.slice (some ⟨sb, 0, none⟩) 1 1) (.slice ad2 l2 c2) f0) (T := 107) (fz := (0, 0)) (v := S tp) Try.isAgg9 rfl (m2 (.head _)) rfl) rfl ?_
   refine G.m1 ?_
   refine G.v (V.idx (i := i) (b := x) Try.underlying9 rfl rfl hx) rfl ?_
   refine G.bs (BS.one Try.underlying68 Try.sizeOf5 Try.zeroValue5 (v := .int .u8 (x.toNat : Int)) rfl) rfl rfl (fun tb htb => ?_)
   refine G.v (V.cvBS (l := [x]) (T := 5) (wf := true) Try.underlying68 Try.underlying5 Try.underlying9 rfl (.head _) (by simp)) rfl ?_
   refine G.v (V.nc rfl) rfl ?_
   refine G.v (V.fa F107_1 rfl) rfl ?_
   refine G.st (b := nb) (off := 0 + 1) (l := nodeR tp idx wl nt pr (.slice (some ⟨sb, 0, none⟩) 1 1) (.slice ad2 l2 c2) f0) (T := 107) (fz := (0, 0)) (v := S [x]) Try.sizeOf9 rfl rfl rfl (.s (.s (.s .z))) rfl rfl ?_
   refine G.nil ?_
   refine GC.seq ?_
   refine GC.turn (H' := ⟨tb, true, .row (bC [x]) 5 (0, 0)⟩ :: ⟨sb, true, .row [Pt cb 0] 89 (0, 0)⟩ :: ⟨cb, true, .row (nodeR (tp.drop i) idx wl 0 pr2 (.slice ad kids.length cap) (.slice ad2 l2 c2) f0) 107 (0, 0)⟩ :: ⟨nb, true, .row (nodeR tp [x] wl nt pr (.slice (some ⟨sb, 0, none⟩) 1 1) (.slice ad2 l2 c2) f0) 107 (0, 0)⟩ :: (Hs ++ X)) (fun w1 h1 => h1) ?_
   refine GC.reg ?_
   refine G.m1 ?_
   refine G.m1 ?_
   refine G.m1 ?_
   refine G.v (V.slH (j := i) Try.underlying9 rfl rfl (by omega)) rfl ?_
   refine G.v (V.nc rfl) rfl ?_
   refine G.v (V.fa F107_0 rfl) rfl ?_
   refine G.st (b := nb) (off := 0 + 0) (l := nodeR tp [x] wl nt pr (.slice (some ⟨sb, 0, none⟩) 1 1) (.slice ad2 l2 c2) f0) (T := 107) (fz := (0, 0)) (v := S (p.take i)) Try.sizeOf9 rfl rfl rfl (.s (.s (.s .z))) rfl rfl ?_
   refine G.nil ?_
   refine GC.seq ?_
   refine GC.turn (H' := ⟨tb, true, .row (bC [x]) 5 (0, 0)⟩ :: ⟨sb, true, .row [Pt cb 0] 89 (0, 0)⟩ :: ⟨cb, true, .row (nodeR (tp.drop i) idx wl 0 pr2 (.slice ad kids.length cap) (.slice ad2 l2 c2) f0) 107 (0, 0)⟩ :: ⟨nb, true, .row (nodeR (p.take i) [x] wl nt pr (.slice (some ⟨sb, 0, none⟩) 1 1) (.slice ad2 l2 c2) f0) 107 (0, 0)⟩ :: (Hs ++ X)) (fun w1 h1 => h1) ?_
   refine GC.reg ?_
   refine G.m1 ?_
   refine G.v (V.nc rfl) rfl ?_
   refine G.v (V.fa F107_6 rfl) rfl ?_
   refine G.st (b := nb) (off := 0 + 6) (l := nodeR (p.take i) [x] wl nt pr (.slice (some ⟨sb, 0, none⟩) 1 1) (.slice ad2 l2 c2) f0) (T := 107) (fz := (0, 0)) (v := .slice none 0 0) Try.sizeOf94 rfl rfl rfl (.s (.s (.s .z))) rfl rfl ?_
   refine G.nil ?_
   refine GC.seq ?_
   refine GC.turn (H' := ⟨tb, true, .row (bC [x]) 5 (0, 0)⟩ :: ⟨sb, true, .row [Pt cb 0] 89 (0, 0)⟩ :: ⟨cb, true, .row (nodeR (tp.drop i) idx wl 0 pr2 (.slice ad kids.length cap) (.slice ad2 l2 c2) f0) 107 (0, 0)⟩ :: ⟨nb, true, .row (nodeR (p.take i) [x] wl nt pr (.slice (some ⟨sb, 0, none⟩) 1 1) (.slice none 0 0) f0) 107 (0, 0)⟩ :: (Hs ++ X)) (fun w1 h1 => h1) ?_
   refine GC.reg ?_
   refine G.m1 ?_
   refine G.v (V.nc rfl) rfl ?_
   refine G.v (V.fa F107_2 rfl) rfl ?_
   refine G.st (b := nb) (off := 0 + 2) (l := nodeR (p.take i) [x] wl nt pr (.slice (some ⟨sb, 0, none⟩) 1 1) (.slice none 0 0) f0) (T := 107) (fz := (0, 0)) (v := .bool false) Try.sizeOf4 rfl rfl rfl (.s (.s (.s .z))) rfl rfl ?_
   refine G.nil ?_
   refine GC.turn (H' := ⟨tb, true, .row (bC [x]) 5 (0, 0)⟩ :: ⟨sb, true, .row [Pt cb 0] 89 (0, 0)⟩ :: ⟨cb, true, .row (nodeR (tp.drop i) idx wl 0 pr2 (.slice ad kids.length cap) (.slice ad2 l2 c2) f0) 107 (0, 0)⟩ :: ⟨nb, true, .row (nodeR (p.take i) [x] false nt pr (.slice (some ⟨sb, 0, none⟩) 1 1) (.slice none 0 0) f0) 107 (0, 0)⟩ :: (Hs ++ X)) (fun w1 h1 => h1) ?_
   refine GC.reg ?_
   refine G.m1 ?_
   refine G.m1 ?_
   refine G.m1 ?_
   refine G.m1 ?_
   refine G.v (V.addI (r := ((pfi + i : Nat) : Int)) rfl rfl (by omega) (by omega) (by omega)) rfl ?_
   refine G.v (V.slH (j := pfi + i) Try.underlying9 rfl rfl (by omega)) rfl ?_
   refine G.v (V.nc rfl) rfl ?_
   refine G.v (V.fa F107_7 rfl) rfl ?_
   refine G.st (b := nb) (off := 0 + 7) (l := nodeR (p.take i) [x] false nt pr (.slice (some ⟨sb, 0, none⟩) 1 1) (.slice none 0 0) f0) (T := 107) (fz := (0, 0)) (v := S (full.take (pfi + i))) Try.sizeOf9 rfl rfl rfl (.s (.s (.s .z))) rfl rfl ?_
   refine G.nil ?_
   have hown : Own 89 1 (.slice (some ⟨sb, 0, none⟩) 1 1) 1 ([cb].map (Pt · 0)) [⟨sb, true, .row [Pt cb 0] 89 (0, 0)⟩] := Own.row (xs := [Pt cb 0]) (spare := []) rfl rfl (Nat.le_refl _)
   have hch := HT.mk (path := tp.drop i) (idx := idx) (wild := wl) (nt := 0) (pr := pr2) (h := h0) (full := f0) (nb := cb) hs hh hk
   have hT := HT.mk (path := p.take i) (idx := [x]) (wild := false) (nt := nt) (pr := pr) (h := none) (full := full.take (pfi + i)) (nb := nb) (kids := [.node () (tp.drop i) idx wl 0 pr2 h0 f0 kids]) hown HV.nil (HTs.one hch)
   have e0 : (if i < tp.length then split (.node () tp idx wl nt pr h0 f0 kids) () i (full.take (pfi + i)) else .node () tp idx wl nt pr h0 f0 kids) = .node () (p.take i) [x] false nt pr none (full.take (pfi + i)) [.node () (tp.drop i) idx wl 0 pr2 h0 f0 kids] := by
    rw [if_pos hlt, htk]
    have e1 : (tp.drop i).take 1 = [x] := by rw [drop_cons hx]; rfl
    unfold split
    simp only [Tr.path, Tr.an, Tr.nt, Tr.pr, Tr.idx, Tr.wild, Tr.h, Tr.full, Tr.kids, e1, hpr2]
   refine J58 _ _ ⟨_, by rw [e0]; exact hT, .of rfl, fun w1 h1 => ?_⟩
   rw [hX] at h1
   have h2 : HF w D (⟨tb, true, .row (bC [x]) 5 (0, 0)⟩ :: ⟨sb, true, .row [Pt cb 0] 89 (0, 0)⟩ :: ⟨cb, true, .row (nodeR (tp.drop i) idx wl 0 pr2 (.slice ad kids.length cap) (.slice ad2 l2 c2) f0) 107 (0, 0)⟩ :: ⟨nb, true, .row (nodeR (p.take i) [x] false nt pr (.slice (some ⟨sb, 0, none⟩) 1 1) (.slice none 0 0) (full.take (pfi + i))) 107 (0, 0)⟩ :: (Hs ++ ((Hh ++ Hk) ++ (⟨hb, true, .row [I (num : Int)] 3 (0, 0)⟩ :: Hr)))) w1 := h1
   generalize (⟨nb, true, .row (nodeR (p.take i) [x] false nt pr (.slice (some ⟨sb, 0, none⟩) 1 1) (.slice none 0 0) (full.take (pfi + i))) 107 (0, 0)⟩ : Ent) = E6 at *
   generalize (⟨cb, true, .row (nodeR (tp.drop i) idx wl 0 pr2 (.slice ad kids.length cap) (.slice ad2 l2 c2) f0) 107 (0, 0)⟩ : Ent) = C6 at *
   have p1 := perm_idx [[⟨tb, true, .row (bC [x]) 5 (0, 0)⟩], [⟨sb, true, .row [Pt cb 0] 89 (0, 0)⟩], [C6], [E6], Hs, Hh, Hk, [⟨hb, true, .row [I (num : Int)] 3 (0, 0)⟩], Hr] [0, 1, 2, 3, 4, 5, 6, 7, 8] [0, 3, 1, 2, 4, 5, 6, 7, 8] (by decide)
   have h3 := h2.perm (H' := ⟨tb, true, .row (bC [x]) 5 (0, 0)⟩ :: ((E6 :: ([⟨sb, true, .row [Pt cb 0] 89 (0, 0)⟩] ++ ([] ++ (C6 :: (Hs ++ (Hh ++ Hk)))))) ++ (⟨hb, true, .row [I (num : Int)] 3 (0, 0)⟩ :: Hr))) (by simpa using p1)
   exact h3.sub (List.sublist_cons_self _ _)
  refine GC.skip ?_
  have hge : ¬ i < tp.length := by omega
  refine J58 _ _ ⟨_, by rw [if_neg hge]; exact HT.mk hs hh hk, .of rfl, fun w1 h1 => ?_⟩
  rw [hX] at h1
  rw [List.cons_append, List.append_assoc]
  exact h1
 rintro fr' H' ⟨Hn1, hn1, hs58, hH58⟩
 exact GC.turn hH58 (go Hn1 _ hn1 hs58)
end Go.Proofs
