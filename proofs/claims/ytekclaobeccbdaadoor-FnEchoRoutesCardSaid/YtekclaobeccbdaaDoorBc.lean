/- What insertNode does, where its nodes are well formed. -/
import Derived.Test.YtekclaobeccbdaaDoorBb
/- The router's tree in memory: a table of nodes. -/
namespace Bw
open Go Go.Proofs

/-! ### local calls -/
theorem HF.loc {w0 D w} {H H1 : SH} (h : HF w0 D H w) (hs : ∀ e ∈ H1, e ∈ H) (hn : H1.Pairwise (fun x y => x.b ≠ y.b)) : HF w (fun b => ∃ e ∈ H1, e.b = b) H1 w :=
  ⟨Nat.le_refl _, fun _ _ _ => rfl, fun e he => h.has e (hs e he), fun e he _ => .inl ⟨e, he, rfl⟩, hn, rfl, rfl, rfl⟩

theorem HF.back {w0 D w w'} {H H1 Hk H1' : SH} (h : HF w0 D H w) (hp : H.Perm (H1 ++ Hk)) (ha : ∀ e ∈ H1, e.w = true) (ha' : ∀ e ∈ H1', e.w = true) (h1 : HF w (fun b => ∃ e ∈ H1, e.b = b) H1' w') : HF w0 D (H1' ++ Hk) w' := by
  have hh := h.perm hp
  have hnd := List.pairwise_append.1 hh.nd
  refine hh.after h1 (List.sublist_append_right _ _) (fun b ⟨e, he, hb⟩ => hb ▸ hh.wr e (List.mem_append_left _ he) (ha e he)) (fun e he ⟨x, hx, hb⟩ => hnd.2.2 x hx e he hb) (fun e he x hx hb => ?_)
  rcases h1.wr e he (ha' e he) with ⟨y, hy, h2⟩ | h2
  · exact hnd.2.2 y hy x hx (h2.trans hb)
  · have := hh.lt (List.mem_append_right H1 hx); omega

section
variable {P : Program} {c : Cx} {n : Nat} {k : List Item} {fr : SF} {H : SH} {ops : Array Oper} {rest : List Oper} {ty : TypeId} {pos : String} {aft : Array Edge}

/-- a call that turns the entries H1 and leaves the others -/
theorem G.callL {H1 Hk : SH} {g : FuncId} {xs : List Operand} {vs : List Value} {tys : Array TypeId} {d : Nat} (J : Value → SH → Prop) (hp : H.Perm (H1 ++ Hk)) (ha : ∀ e ∈ H1, e.w = true)
    (hg : ∀ (args : Array Value) w, (callFunc g args).run P w = .ok (.enter g args) w) (he : evs fr xs = some vs) (hd : Nat.blt d n = true)
    (hc : ∀ w, HF w (fun b => ∃ e ∈ H1, e.b = b) H1 w → (∀ e ∈ Hk, w.heap[e.b]? = some e.k.den ∧ ¬ ∃ x ∈ H1, x.b = e.b) →
      Calls P g vs.toArray w (fun e w' => ∃ v H1', e = .returned v ∧ (∀ x ∈ H1', x.w = true) ∧ HF w (fun b => ∃ e ∈ H1, e.b = b) H1' w' ∧ J v H1'))
    (hk : ∀ v H1', J v H1' → G P c n k ops rest ((d, v) :: fr) (H1' ++ Hk)) :
    G P c n k ops (⟨some d, .call ⟨.value (.func g), xs.toArray, tys⟩, ty, pos, aft, none⟩ :: rest) fr H := by
  refine G.callW (fun v H' => ∃ H1', J v H1' ∧ H' = H1' ++ Hk) hg he hd (fun w hw => ?_) (fun v H' ⟨H1', h1, h2⟩ => h2 ▸ hk v H1' h1)
  have hh := hw.perm hp
  have hnd := List.pairwise_append.1 hh.nd
  refine (hc w (hh.loc (fun e he => List.mem_append_left _ he) hnd.1) (fun e he => ⟨hh.has e (List.mem_append_right _ he), fun ⟨x, hx, hb⟩ => hnd.2.2 x hx e he hb⟩)).mono fun e w' ⟨v, H1', h1, h2, h3, h4⟩ => ?_
  exact ⟨v, _, h1, hw.back hp ha h2 h3, H1', h4, rfl⟩

/-- a call that makes a block and leaves all -/
theorem G.callN {kb : Blk} {g : FuncId} {xs : List Operand} {vs : List Value} {tys : Array TypeId} {d : Nat}
    (hg : ∀ (args : Array Value) w, (callFunc g args).run P w = .ok (.enter g args) w) (he : evs fr xs = some vs) (hd : Nat.blt d n = true)
    (hc : ∀ w, HF c.w0 c.D H w → Calls P g vs.toArray w (fun e w' => ∃ b, e = .returned (Pt b 0) ∧ HF w (fun _ => False) [⟨b, true, kb⟩] w'))
    (hk : ∀ b, c.w0.heap.size ≤ b → G P c n k ops rest ((d, Pt b 0) :: fr) (⟨b, true, kb⟩ :: H)) :
    G P c n k ops (⟨some d, .call ⟨.value (.func g), xs.toArray, tys⟩, ty, pos, aft, none⟩ :: rest) fr H := by
  refine G.callW (fun v H' => ∃ b, c.w0.heap.size ≤ b ∧ v = Pt b 0 ∧ H' = ⟨b, true, kb⟩ :: H) hg he hd (fun w hw => ?_) (fun v H' ⟨b, h0, h1, h2⟩ => h1 ▸ h2 ▸ hk b h0)
  refine (hc w hw).mono fun e w' ⟨b, h1, h2⟩ => ?_
  refine ⟨_, _, h1, hw.after0 h2 (fun e he => by simp only [List.mem_singleton] at he; subst he; rfl), b, ?_, rfl, rfl⟩
  have := (h2.wr _ (.head _) rfl).resolve_left id
  exact Nat.le_trans hw.size this

end
/-! ### the nodes -/
structure NR where
  n : Nat
  m : Nat
  par : Option Nat
  pch : Option Nat
  ach : Option Nat
  nf : Option Nat
  pre : List UInt8
  orig : List UInt8
  kids : List Nat
  ad : Option Addr
  cp : Nat
  Hs : SH
  pc : Nat
  lab : UInt8
  kd : Nat
  leaf : Bool
  hdl : Bool
  f : Nat → Option Nat
  mp : Option Nat
  kv : AL
  hdr : List UInt8
  Hm : SH

def NR.row (r : NR) : List Value := nrow r.m r.par r.pch r.ach r.nf r.pre r.orig (.slice r.ad r.kids.length r.cp) r.pc r.lab r.kd r.leaf r.hdl
def NR.mr (r : NR) : List Value := mrow r.f r.mp r.hdr
def NR.eN (r : NR) : Ent := ⟨r.n, true, .row r.row 146 (0, 0)⟩
def NR.eM (r : NR) : Ent := ⟨r.m, true, .row r.mr 155 (0, 0)⟩
def NR.ents (r : NR) : SH := r.eN :: r.eM :: (r.Hm ++ r.Hs)
def ents (T : List NR) : SH := T.flatMap NR.ents

structure NR.ok (B : Nat) (r : NR) : Prop where
  hm : MapH r.mp r.kv r.Hm
  hs : Own 136 1 (.slice r.ad r.kids.length r.cp) r.kids.length (r.kids.map (Pt · 0)) r.Hs
  nil : r.kids = [] → r.ad = none
  kvB : r.kv.length ≤ B
  keys : (∀ p ∈ r.kv, p.1.length ≤ 1000) ∧ (r.kv.map (·.1)).Nodup
  kidB : r.kids.length ≤ B

theorem _root_.Go.Proofs.MapH.w {mp : Option Nat} {kv : AL} {H : SH} (h : MapH mp kv H) : ∀ e ∈ H, e.w = true := by
  cases h with
  | nil => intro e he; cases he
  | mk => intro e he; simp only [List.mem_singleton] at he; subst he; rfl
theorem Own.w {e sz : Nat} {v : Value} {n : Nat} {xs : List Value} {H : SH} (h : Own e sz v n xs H) : ∀ x ∈ H, x.w = true := by
  cases h with
  | nil => intro e he; cases he
  | row _ _ _ => intro e he; simp only [List.mem_singleton] at he; subst he; rfl
theorem NR.ok.w {B : Nat} {r : NR} (h : r.ok B) : ∀ e ∈ r.ents, e.w = true := by
  intro e he
  simp only [NR.ents, List.mem_cons, List.mem_append] at he
  rcases he with rfl | rfl | he | he
  · rfl
  · rfl
  · exact h.hm.w e he
  · exact h.hs.w e he
theorem ents_w {B : Nat} {T : List NR} (h : ∀ r ∈ T, r.ok B) : ∀ e ∈ ents T, e.w = true := by
  intro e he
  obtain ⟨r, hr, he⟩ := List.mem_flatMap.1 he
  exact (h r hr).w e he

theorem ents_mem {T : List NR} {r : NR} (h : r ∈ T) {e : Ent} (he : e ∈ r.ents) : e ∈ ents T := List.mem_flatMap.2 ⟨r, h, he⟩
theorem ents_perm {T T' : List NR} (h : T.Perm T') : (ents T).Perm (ents T') := h.flatMap_right _
theorem ents_cons (r : NR) (T : List NR) : ents (r :: T) = r.ents ++ ents T := rfl

theorem perm_of_mem {α : Type} {T : List α} {r : α} (h : r ∈ T) : ∃ T0, T.Perm (r :: T0) := by
  obtain ⟨a, b, rfl⟩ := List.append_of_mem h
  exact ⟨a ++ b, List.perm_middle⟩

/-- the node in front of the others -/
def foc (a b z : Ent) (r : NR) (E : SH) : SH := r.eN :: r.eM :: (r.Hm ++ (a :: b :: z :: (r.Hs ++ E)))
theorem foc_perm (a b z : Ent) (r : NR) (T0 : List NR) : (a :: b :: z :: ents (r :: T0)).Perm (foc a b z r (ents T0)) := by
  simp only [foc, ents_cons, NR.ents, List.cons_append]
  refine List.Perm.trans (l₂ := r.eN :: a :: b :: z :: r.eM :: ((r.Hm ++ r.Hs) ++ ents T0)) ?_ (.cons _ ?_)
  · exact (List.perm_middle (l₁ := [a, b, z]))
  · refine (List.perm_middle (l₁ := [a, b, z])).trans (.cons _ ?_)
    rw [List.append_assoc]
    refine List.Perm.trans ?_ (List.perm_append_comm_assoc [a, b, z] r.Hm _)
    exact .refl _

/-! ### what insertNode does -/
def lcp : List UInt8 → List UInt8 → Nat
  | a :: x, b :: y => if a = b then lcp x y + 1 else 0
  | _, _ => 0
theorem lcp_le : ∀ (x y : List UInt8), lcp x y ≤ x.length ∧ lcp x y ≤ y.length
  | [], y => by simp [lcp]
  | a :: x, [] => by simp [lcp]
  | a :: x, b :: y => by
    have := lcp_le x y
    simp only [lcp]
    split <;> simp <;> omega
theorem lcp_nil_r (x : List UInt8) : lcp x [] = 0 := by cases x <;> rfl
theorem lcp_step (x y : List UInt8) (i : Nat) (a b : UInt8) (ha : x[i]? = some a) (hb : y[i]? = some b) : lcp (x.drop i) (y.drop i) = if a = b then lcp (x.drop (i + 1)) (y.drop (i + 1)) + 1 else 0 := by
  obtain ⟨h1, h2⟩ := List.getElem?_eq_some_iff.1 ha
  obtain ⟨h3, h4⟩ := List.getElem?_eq_some_iff.1 hb
  rw [List.drop_eq_getElem_cons h1, List.drop_eq_getElem_cons h3, lcp, h2, h4]

theorem aPut_nd : ∀ (kv : AL) (m : List UInt8) (h : Nat), (kv.map (·.1)).Nodup → ((aPut kv m h).map (·.1)).Nodup
  | [], m, h, _ => by simp [aPut]
  | (k, v) :: r, m, h, hn => by
    simp only [aPut]
    simp only [List.map_cons, List.nodup_cons] at hn
    split
    · rename_i e
      subst e
      simpa using hn
    · rename_i e
      simp only [List.map_cons, List.nodup_cons]
      refine ⟨fun hm => ?_, aPut_nd r m h hn.2⟩
      obtain ⟨p, hp, hpk⟩ := List.mem_map.1 hm
      rcases aPut_mem r m h p hp with h1 | ⟨x, h1, h2⟩
      · exact e (by rw [← hpk, h1])
      · exact hn.1 (List.mem_map.2 ⟨x, h1, by rw [h2, hpk]⟩)
theorem addKV_nd {kv : AL} {m : List UInt8} {h : Nat} (hn : (kv.map (·.1)).Nodup) : ((addKV kv m h).map (·.1)).Nodup := by
  unfold addKV
  split
  · exact hn
  · exact aPut_nd kv m h hn

/-- addMethod, as it is called -/
inductive AddR (h : Nat) (meth : List UInt8) (r : NR) : NR → Prop
  | nf (e : meth = nfName) : AddR h meth r { r with nf := some h }
  | mk {mp' : Option Nat} {hdr' : List UInt8} {Hm' : SH} (e : meth ≠ nfName) (h1 : MapH mp' (addKV r.kv meth h) Hm') (h2 : Hdr (addF r.f meth h) (addKV r.kv meth h) hdr') :
      AddR h meth r { r with f := addF r.f meth h, mp := mp', kv := addKV r.kv meth h, hdr := hdr', Hm := Hm', hdl := true }

theorem AddR.n {h meth r r'} (a : AddR h meth r r') : r'.n = r.n := by cases a <;> rfl
theorem AddR.m {h meth r r'} (a : AddR h meth r r') : r'.m = r.m := by cases a <;> rfl
theorem AddR.Hs {h meth r r'} (a : AddR h meth r r') : r'.Hs = r.Hs := by cases a <;> rfl
theorem AddR.ok {h meth r r'} {B : Nat} (a : AddR h meth r r') (ho : r.ok B) (hm : meth.length ≤ 1000) : r'.ok (B + 1) := by
  cases a with
  | nf e => exact ⟨ho.hm, ho.hs, ho.nil, Nat.le_succ_of_le ho.kvB, ho.keys, Nat.le_succ_of_le ho.kidB⟩
  | mk e h1 h2 => exact ⟨h1, ho.hs, ho.nil, by have := addKV_len r.kv meth h; have := ho.kvB; simp only; omega, ⟨addKV_key ho.keys.1 hm, addKV_nd ho.keys.2⟩, Nat.le_succ_of_le ho.kidB⟩

/-- .. if there is a handler -/
def AddO (h : Nat) (hp : Option Nat) (meth : List UInt8) (r r' : NR) : Prop := (hp = none ∧ r' = r) ∨ (hp.isSome = true ∧ AddR h meth r r')

theorem AddO.ok {h hp meth r r'} {B : Nat} (a : AddO h hp meth r r') (ho : r.ok B) (hm : meth.length ≤ 1000) : r'.ok (B + 1) := by
  rcases a with ⟨_, rfl⟩ | ⟨_, a⟩
  · exact ⟨ho.hm, ho.hs, ho.nil, Nat.le_succ_of_le ho.kvB, ho.keys, Nat.le_succ_of_le ho.kidB⟩
  · exact a.ok ho hm

def NR.po (hp : Option Nat) (np : Nat) (pp : List UInt8) (r : NR) : NR := if hp.isSome then { r with pc := np, orig := pp } else r
def NR.pn (hp : Option Nat) (np : Nat) (r : NR) : NR := if hp.isSome then { r with pc := np } else r
def NR.reLeaf (r : NR) : NR := { r with leaf := r.kids.isEmpty && r.pch.isNone && r.ach.isNone }
def NR.setPar (S : List Nat) (b : Nat) (r : NR) : NR := if r.n ∈ S then { r with par := some b } else r

/-- a node as newNode makes it, without children, and with no methods -/
def newN (n m par : Nat) (pre orig : List UInt8) (t : Nat) : NR :=
  { n, m, par := some par, pch := none, ach := none, nf := none, pre, orig, kids := [], ad := none, cp := 0, Hs := [], pc := 0, lab := pre.headD 0, kd := t, leaf := true, hdl := false, f := fun _ => none, mp := none, kv := [], hdr := [], Hm := [] }
/-- the lower half of a node that is split -/
def NR.low (r : NR) (b l : Nat) : NR :=
  { r with n := b, par := some r.n, pre := r.pre.drop l, lab := (r.pre.drop l).headD 0, leaf := r.kids.isEmpty && r.pch.isNone && r.ach.isNone, hdl := isH r.f r.kv }
/-- the upper half -/
def NR.top (r : NR) (m l : Nat) (kids : List Nat) (ad : Option Addr) (cp : Nat) (Hs : SH) : NR :=
  { n := r.n, m, par := r.par, pch := none, ach := none, nf := none, pre := r.pre.take l, orig := [], kids, ad, cp, Hs, pc := 0, lab := r.pre.headD 0, kd := 0, leaf := false, hdl := false, f := fun _ => none, mp := none, kv := [], hdr := [], Hm := [] }

/-- a child more -/
inductive AddC (t b : Nat) (r : NR) : NR → Prop
  | st {ad : Option Addr} {cp : Nat} {Hs : SH} (e : t = 0) (h : Own 136 1 (.slice ad (r.kids.length + 1) cp) (r.kids.length + 1) (r.kids.map (Pt · 0) ++ [Pt b 0]) Hs) : AddC t b r { r with kids := r.kids ++ [b], ad, cp, Hs }
  | par (e : t = 1) : AddC t b r { r with pch := some b }
  | any (e : t = 2) : AddC t b r { r with ach := some b }

def lbl (T : List NR) (a : Nat) : UInt8 := ((T.find? (·.n == a)).map (·.lab)).getD 0

/-- insertNode from the node n on, with the rest s of the path -/
inductive Ins (T : List NR) (h : Nat) (hp : Option Nat) (meth : List UInt8) (t np : Nat) (pp : List UInt8) : Nat → List UInt8 → List NR → Prop
  | root {r r1 : NR} {T0 : List NR} {s : List UInt8} (hT : T.Perm (r :: T0)) (hl : lcp s r.pre = 0)
      (ha : AddO h hp meth (if hp.isSome then { r with lab := s.headD 0, pre := s, kd := t } else { r with lab := s.headD 0, pre := s }) r1) :
      Ins T h hp meth t np pp r.n s ((r1.po hp np pp).reLeaf :: T0)
  | split {r r1 : NR} {T0 : List NR} {s : List UInt8} {b m : Nat} {ad : Option Addr} {cp : Nat} {Hs : SH} (hT : T.Perm (r :: T0)) (h0 : lcp s r.pre ≠ 0) (hl : lcp s r.pre < r.pre.length) (hs : lcp s r.pre = s.length)
      (ho : Own 136 1 (.slice ad 1 cp) 1 [Pt b 0] Hs) (ha : AddO h hp meth { r.top m (lcp s r.pre) [b] ad cp Hs with kd := t } r1) :
      Ins T h hp meth t np pp r.n s ((r1.po hp np pp).reLeaf :: r.low b (lcp s r.pre) :: T0.map (NR.setPar (r.kids ++ r.pch.toList ++ r.ach.toList) b))
  | split2 {r r1 : NR} {T0 : List NR} {s : List UInt8} {b m b2 m2 : Nat} {ad : Option Addr} {cp : Nat} {Hs : SH} (hT : T.Perm (r :: T0)) (h0 : lcp s r.pre ≠ 0) (hl : lcp s r.pre < r.pre.length) (hs : lcp s r.pre < s.length)
      (ho : Own 136 1 (.slice ad 2 cp) 2 [Pt b 0, Pt b2 0] Hs) (ha : AddO h hp meth (newN b2 m2 r.n (s.drop (lcp s r.pre)) [] t) r1) :
      Ins T h hp meth t np pp r.n s ((r.top m (lcp s r.pre) [b, b2] ad cp Hs).reLeaf :: r1.po hp np pp :: r.low b (lcp s r.pre) :: T0.map (NR.setPar (r.kids ++ r.pch.toList ++ r.ach.toList) b))
  | deep {r : NR} {s : List UInt8} {c : Nat} {T' : List NR} (hT : r ∈ T) (hl : lcp s r.pre = r.pre.length) (h0 : r.pre ≠ []) (hs : r.pre.length < s.length)
      (hc : fcl (r.kids.map fun a => (a, lbl T a)) r.pch r.ach ((s.drop (lcp s r.pre)).headD 0) = some c) (hI : Ins T h hp meth t np pp c (s.drop (lcp s r.pre)) T') : Ins T h hp meth t np pp r.n s T'
  | child {r r1 r2 : NR} {T0 : List NR} {s : List UInt8} {b m : Nat} (hT : T.Perm (r :: T0)) (h0 : r.pre ≠ []) (hl : lcp s r.pre = r.pre.length) (hs : r.pre.length < s.length)
      (hc : fcl (r.kids.map fun a => (a, lbl T a)) r.pch r.ach ((s.drop (lcp s r.pre)).headD 0) = none) (ha : AddO h hp meth (newN b m r.n (s.drop (lcp s r.pre)) pp t) r1) (hr : AddC t b r r2) :
      Ins T h hp meth t np pp r.n s (r2.reLeaf :: r1.pn hp np :: T0)
  | same {r r1 : NR} {T0 : List NR} {s : List UInt8} (hT : T.Perm (r :: T0)) (h0 : r.pre ≠ []) (hl : lcp s r.pre = r.pre.length) (hs : lcp s r.pre = s.length) (ha : AddO h hp meth r r1) :
      Ins T h hp meth t np pp r.n s (r1.po hp np pp :: T0)

end Bw

/- Rules for the walk through insertNode. -/
namespace Bw
open Go Go.Proofs

def rmE (h : Nat) (hp : Option Nat) (pp : List UInt8) (pad : Option Addr) (np pcp : Nat) : Ent := ⟨h, true, .row [PO hp, S pp, .slice pad np pcp] 152 (0, 0)⟩
def rtE (rb root rt eb : Nat) : Ent := ⟨rb, true, .row [Pt root 0, .map (some rt), Pt eb 0] 139 (0, 0)⟩
def ecE (eb zb : Nat) : Ent := ⟨eb, true, .row [Pt zb 1] 134 (0, 0)⟩
def zzE (zb rb z : Nat) : Ent := ⟨zb, true, .row [Pt rb 0, I (z : Int)] 93 (0, 0)⟩

theorem NR.ok.mono {B B' : Nat} {r : NR} (h : r.ok B) (hb : B ≤ B') : r.ok B' := ⟨h.hm, h.hs, h.nil, Nat.le_trans h.kvB hb, h.keys, Nat.le_trans h.kidB hb⟩
theorem NR.ok.iso {B : Nat} {r : NR} (h : r.ok B) : r.ad.isNone = r.kids.isEmpty := by
  by_cases hk : r.kids = []
  · rw [h.nil hk, hk]; rfl
  · have hs := h.hs
    cases had : r.ad with
    | some _ => cases hkk : r.kids with
      | nil => exact absurd hkk hk
      | cons => rfl
    | none =>
      exfalso
      generalize hv : Value.slice r.ad r.kids.length r.cp = v at hs
      generalize hn : r.kids.length = n at hs hv
      generalize hx : r.kids.map (Pt · 0) = xs at hs
      generalize r.Hs = Hs at hs
      cases hs with
      | nil => exact hk (List.length_eq_zero_iff.1 hn)
      | row _ _ _ => rw [had] at hv; simp at hv
theorem NR.ok.reLeaf {B : Nat} {r : NR} (h : r.ok B) : r.reLeaf.ok B := ⟨h.hm, h.hs, h.nil, h.kvB, h.keys, h.kidB⟩
theorem NR.ok.po {B : Nat} {r : NR} {hp np pp} (h : r.ok B) : (r.po hp np pp).ok B := by
  unfold NR.po; split
  · exact ⟨h.hm, h.hs, h.nil, h.kvB, h.keys, h.kidB⟩
  · exact h
theorem NR.ok.pn {B : Nat} {r : NR} {hp np} (h : r.ok B) : (r.pn hp np).ok B := by
  unfold NR.pn; split
  · exact ⟨h.hm, h.hs, h.nil, h.kvB, h.keys, h.kidB⟩
  · exact h
theorem NR.ok.setPar {B : Nat} {r : NR} {S b} (h : r.ok B) : (r.setPar S b).ok B := by
  unfold NR.setPar; split
  · exact ⟨h.hm, h.hs, h.nil, h.kvB, h.keys, h.kidB⟩
  · exact h
theorem NR.ok.low {B : Nat} {r : NR} {b l} (h : r.ok B) : (r.low b l).ok B := ⟨h.hm, h.hs, h.nil, h.kvB, h.keys, h.kidB⟩
theorem newN_ok {n m par pre orig t B} : (newN n m par pre orig t).ok B := ⟨.nil, .nil, fun _ => rfl, Nat.zero_le _, ⟨fun _ h => (by cases h), .nil⟩, Nat.zero_le _⟩
theorem NR.top_ok {r : NR} {m l b ad cp Hs B} (h : Own 136 1 (.slice ad 1 cp) 1 [Pt b 0] Hs) (hB : 1 ≤ B) : (r.top m l [b] ad cp Hs).ok B := ⟨.nil, h, fun h => (by cases h), Nat.zero_le _, ⟨fun _ h => (by cases h), .nil⟩, hB⟩
theorem NR.top_ok2 {r : NR} {m l b b2 ad cp Hs B} (h : Own 136 1 (.slice ad 2 cp) 2 [Pt b 0, Pt b2 0] Hs) (hB : 2 ≤ B) : (r.top m l [b, b2] ad cp Hs).ok B := ⟨.nil, h, fun h => (by cases h), Nat.zero_le _, ⟨fun _ h => (by cases h), .nil⟩, hB⟩
theorem AddC.ok {t b r r'} {B : Nat} (a : AddC t b r r') (h : r.ok B) : r'.ok (B + 1) := by
  cases a with
  | st e ho => exact ⟨h.hm, by simpa using ho, fun h => (by simp at h), Nat.le_succ_of_le h.kvB, h.keys, by have := h.kidB; simp; omega⟩
  | par e => exact ⟨h.hm, h.hs, h.nil, Nat.le_succ_of_le h.kvB, h.keys, Nat.le_succ_of_le h.kidB⟩
  | any e => exact ⟨h.hm, h.hs, h.nil, Nat.le_succ_of_le h.kvB, h.keys, Nat.le_succ_of_le h.kidB⟩
theorem NR.po_n {r : NR} {hp np pp} : (r.po hp np pp).n = r.n := by unfold NR.po; split <;> rfl
theorem NR.po_m {r : NR} {hp np pp} : (r.po hp np pp).m = r.m := by unfold NR.po; split <;> rfl
theorem NR.po_Hs {r : NR} {hp np pp} : (r.po hp np pp).Hs = r.Hs := by unfold NR.po; split <;> rfl
theorem NR.pn_n {r : NR} {hp np} : (r.pn hp np).n = r.n := by unfold NR.pn; split <;> rfl
theorem NR.pn_m {r : NR} {hp np} : (r.pn hp np).m = r.m := by unfold NR.pn; split <;> rfl
theorem NR.pn_Hs {r : NR} {hp np} : (r.pn hp np).Hs = r.Hs := by unfold NR.pn; split <;> rfl
theorem AddO.n {h hp meth r r'} (a : AddO h hp meth r r') : r'.n = r.n := by
  rcases a with ⟨_, rfl⟩ | ⟨_, a⟩
  · rfl
  · exact a.n
theorem AddO.m {h hp meth r r'} (a : AddO h hp meth r r') : r'.m = r.m := by
  rcases a with ⟨_, rfl⟩ | ⟨_, a⟩
  · rfl
  · exact a.m
theorem AddO.Hs {h hp meth r r'} (a : AddO h hp meth r r') : r'.Hs = r.Hs := by
  rcases a with ⟨_, rfl⟩ | ⟨_, a⟩
  · rfl
  · exact a.Hs
theorem setPar_n {S b} {r : NR} : (r.setPar S b).n = r.n := by unfold NR.setPar; split <;> rfl

theorem reLeaf_row {r : NR} {x : Bool} (h : x = (r.kids.isEmpty && r.pch.isNone && r.ach.isNone)) : setL r.row 11 (.bool x) = r.reLeaf.row := by subst h; rfl

/-- the entries of a node that stands in front -/
def fr4 (n m : Nat) (r : NR) (Q : SH) : SH := ⟨n, true, .row r.row 146 (0, 0)⟩ :: ⟨m, true, .row r.mr 155 (0, 0)⟩ :: (r.Hm ++ Q)

theorem foc_in {hE a b z : Ent} {r : NR} {T T0 : List NR} (hT : T.Perm (r :: T0)) : (hE :: a :: b :: z :: ents T).Perm (hE :: fr4 r.n r.m r (a :: b :: z :: (r.Hs ++ ents T0))) :=
  .cons _ ((((ents_perm hT).cons z).cons b |>.cons a).trans (foc_perm a b z r T0))
theorem foc_out {hE a b z : Ent} {n m : Nat} {Hs : SH} {r : NR} {T0 : List NR} (e1 : r.n = n) (e2 : r.m = m) (e3 : r.Hs = Hs) : (hE :: fr4 n m r (a :: b :: z :: (Hs ++ ents T0))).Perm (hE :: a :: b :: z :: ents (r :: T0)) := by
  subst e1; subst e2; subst e3
  exact .cons _ (foc_perm a b z r T0).symm

section
variable {c : Cx} {n : Nat} {k : List Item} {fr : SF} {H : SH} {ops : Array Oper} {rest : List Oper} {ty : TypeId} {pos : String} {aft : Array Edge}

theorem G.addM (r : NR) {B h : Nat} {hp : Option Nat} {meth pp : List UInt8} {pad : Option Addr} {np pcp : Nat} {Q : SH} {x y z : Operand} {tys : Array TypeId} {d : Nat} (ho : r.ok B) (hB : B < 1000000) (hml : meth.length ≤ 1000) (hhp : hp.isSome = true)
    (hx : ev fr x = some (Pt r.n 0)) (hy : ev fr y = some (S meth)) (hz : ev fr z = some (Pt h 0)) (hd : Nat.blt d n = true)
    (hk : ∀ r', AddR h meth r r' → G Tryd.prog c n k ops rest ((d, .tuple #[]) :: fr) (rmE h hp pp pad np pcp :: fr4 r.n r.m r' Q)) :
    G Tryd.prog c n k ops (⟨some d, .call ⟨.value (.func 139), #[x, y, z], tys⟩, ty, pos, aft, none⟩ :: rest) fr (rmE h hp pp pad np pcp :: fr4 r.n r.m r Q) := by
  obtain ⟨hh, rfl⟩ := Option.isSome_iff_exists.1 hhp
  have hp1 : (rmE h (some hh) pp pad np pcp :: fr4 r.n r.m r Q).Perm ((⟨r.n, true, .row r.row 146 (0, 0)⟩ :: ⟨r.m, true, .row r.mr 155 (0, 0)⟩ :: r.Hm) ++ (rmE h (some hh) pp pad np pcp :: Q)) :=
    (List.perm_middle (l₁ := ⟨r.n, true, .row r.row 146 (0, 0)⟩ :: ⟨r.m, true, .row r.mr 155 (0, 0)⟩ :: r.Hm)).symm
  refine G.callL (fun v H1 => v = .tuple #[] ∧ ∃ r', AddR h meth r r' ∧ H1 = ⟨r.n, true, .row r'.row 146 (0, 0)⟩ :: ⟨r.m, true, .row r'.mr 155 (0, 0)⟩ :: r'.Hm) hp1 ?_ Tryd.call139 (vs := [Pt r.n 0, S meth, Pt h 0]) (xs := [x, y, z]) (by simp [evs, hx, hy, hz]) hd ?_ ?_
  · intro e he
    simp only [List.mem_cons] at he
    rcases he with rfl | rfl | he
    · rfl
    · rfl
    · exact ho.hm.w e he
  · intro w hw hkk
    obtain ⟨k1, k2⟩ := hkk (rmE h (some hh) pp pad np pcp) (.head _)
    have hc0 : w.cell? ⟨h, 0, none⟩ = some (Pt hh 0) := by
      simp only [rmE, Blk.den] at k1
      simp [World.cell?, k1, PO]
    refine (f139_any w _ r.n r.m h hh r.row r.f r.mp r.kv r.hdr meth r.Hm hw ho.hm rfl rfl rfl hc0 k2 ho.keys.1 hml (Nat.lt_of_le_of_lt ho.kvB hB)).mono fun e w' ⟨h1, H', h2, h3⟩ => ?_
    cases h2 with
    | nf e => exact ⟨_, _, h1, by
        intro e he
        simp only [List.mem_cons] at he
        rcases he with rfl | rfl | he
        · rfl
        · rfl
        · exact ho.hm.w e he, h3, rfl, _, .nf e, rfl⟩
    | mk e m1 m2 => exact ⟨_, _, h1, by
        intro e he
        simp only [List.mem_cons] at he
        rcases he with rfl | rfl | he
        · rfl
        · rfl
        · exact m1.w e he, h3, rfl, _, .mk e m1 m2, rfl⟩
  · rintro v H1 ⟨rfl, r', h1, rfl⟩
    refine G.turn (fun w hw => hw.perm ?_) (hk r' h1)
    exact List.perm_middle (l₁ := ⟨r.n, true, .row r'.row 146 (0, 0)⟩ :: ⟨r.m, true, .row r'.mr 155 (0, 0)⟩ :: r'.Hm)

theorem V.slLe {P : Program} {t : TypeId} {x y : Operand} {l l' : List UInt8} {i : Nat} {kd : IntKind} (hU : P.underlying t = some .string) (hx : ev fr x = some (S l)) (hy : ev fr y = some (.int kd (i : Int))) (hi : i ≤ l.length) (e : l.drop i = l') : Val P c n (.slice t x (some y) none none) ty fr H (S l') :=
  e ▸ V.slL hU hx hy hi
theorem V.slHe {P : Program} {t : TypeId} {x z : Operand} {l l' : List UInt8} {j : Nat} {kd : IntKind} (hU : P.underlying t = some .string) (hx : ev fr x = some (S l)) (hz : ev fr z = some (.int kd (j : Int))) (hj : j ≤ l.length) (e : l.take j = l') : Val P c n (.slice t x none (some z) none) ty fr H (S l') :=
  e ▸ V.slH hU hx hz hj
theorem V.slLHe {P : Program} {t : TypeId} {x y z : Operand} {l l' : List UInt8} {i j : Nat} {kd kd' : IntKind} (hU : P.underlying t = some .string) (hx : ev fr x = some (S l)) (hy : ev fr y = some (.int kd (i : Int))) (hz : ev fr z = some (.int kd' (j : Int))) (hi : i ≤ j) (hj : j ≤ l.length)
    (e : (l.take j).drop i = l') : Val P c n (.slice t x (some y) (some z) none) ty fr H (S l') :=
  e ▸ V.slLH hU hx hy hz hi hj
end

/-! ### the parents' turn -/
theorem nodup_ne {T T0 : List NR} {r : NR} (hp : T.Perm (r :: T0)) (hnd : (T.map NR.n).Nodup) : ∀ x ∈ T0, x.n ≠ r.n := by
  have := (hp.map NR.n).nodup_iff.1 hnd
  rw [List.map_cons, List.nodup_cons] at this
  exact fun x hx e => this.1 (List.mem_map.2 ⟨x, hx, e⟩)

theorem par_turn {T0 : List NR} {S : List Nat} {b : Nat} {rc : NR} (hnd : (T0.map NR.n).Nodup) (h : rc ∈ T0) : ∃ rest row, (ents (T0.map (NR.setPar S b))).Perm (⟨rc.n, true, .row row 146 (0, 0)⟩ :: rest) ∧ (nth row 1).isSome = true ∧
    (⟨rc.n, true, .row (setL row 1 (Pt b 0)) 146 (0, 0)⟩ :: rest : SH).Perm (ents (T0.map (NR.setPar (S ++ [rc.n]) b))) := by
  obtain ⟨T1, hT⟩ := perm_of_mem h
  have hne := nodup_ne hT hnd
  refine ⟨(rc.setPar S b).eM :: ((rc.setPar S b).Hm ++ (rc.setPar S b).Hs) ++ ents (T1.map (NR.setPar S b)), (rc.setPar S b).row, ?_, rfl, ?_⟩
  · refine (ents_perm (hT.map _)).trans (.of_eq ?_)
    rw [List.map_cons, ents_cons, NR.ents, NR.eN, setPar_n]; rfl
  · refine List.Perm.trans (.of_eq ?_) (ents_perm (hT.map _)).symm
    have h1 : T1.map (NR.setPar (S ++ [rc.n]) b) = T1.map (NR.setPar S b) := List.map_congr_left fun x hx => by
      have := hne x hx
      simp [NR.setPar, this]
    have h2 : rc.setPar (S ++ [rc.n]) b = { rc with par := some b } := by simp [NR.setPar]
    rw [List.map_cons, ents_cons, h1, h2]
    have h3 : setL (rc.setPar S b).row 1 (Pt b 0) = NR.row { rc with par := some b } := by unfold NR.setPar; split <;> rfl
    have h4 : (rc.setPar S b).eM = NR.eM { rc with par := some b } := by unfold NR.setPar; split <;> rfl
    have h5 : (rc.setPar S b).Hm = rc.Hm := by unfold NR.setPar; split <;> rfl
    have h6 : (rc.setPar S b).Hs = rc.Hs := by unfold NR.setPar; split <;> rfl
    rw [h3, h4, h5, h6]; rfl

theorem G.stPar {P : Program} {c : Cx} {n : Nat} {k : List Item} {fr : SF} {H : SH} {ops : Array Oper} {rest : List Oper} {ty : TypeId} {pos : String} {aft : Array Edge}
    {t : TypeId} {x y : Operand} {X : SH} {T0 : List NR} {S : List Nat} {b a : Nat} {rc : NR} (hs : ∀ w, (Go.sizeOf t).run P w = .ok 1 w) (hx : ev fr x = some (Pt a 1)) (hy : ev fr y = some (Pt b 0))
    (hnd : (T0.map NR.n).Nodup) (h : rc ∈ T0) (ha : rc.n = a) (hH : H = X ++ ents (T0.map (NR.setPar S b)))
    (hk : G P c n k ops rest fr (X ++ ents (T0.map (NR.setPar (S ++ [a]) b)))) : G P c n k ops (⟨none, .store t x y, ty, pos, aft, none⟩ :: rest) fr H := by
  subst hH; subst ha
  obtain ⟨rest', row, h1, h2, h3⟩ := par_turn (S := S) (b := b) hnd h
  refine G.turn (H' := ⟨rc.n, true, .row row 146 (0, 0)⟩ :: (X ++ rest')) (fun w hw => hw.perm ?_) ?_
  · exact (List.Perm.append_left X h1).trans List.perm_middle
  refine G.st hs hx hy rfl .z h2 rfl ?_
  refine G.turn (fun w hw => HF.perm (H := ⟨rc.n, true, .row (setL row 1 (Pt b 0)) 146 (0, 0)⟩ :: (X ++ rest')) hw ?_) hk
  exact List.perm_middle.symm.trans (List.Perm.append_left X h3)

theorem mrow_nth {f : Nat → Option Nat} {mp hdr} {i : Nat} (hi : i < 11) : nth (mrow f mp hdr) i = some (PO (f i)) := by
  match i, hi with
  | 0, _ | 1, _ | 2, _ | 3, _ | 4, _ | 5, _ | 6, _ | 7, _ | 8, _ | 9, _ | 10, _ => rfl

theorem low_row {r : NR} {b l : Nat} {x : UInt8} {xs : List UInt8} (hx : r.pre.drop l = x :: xs) (hiso : r.ad.isNone = r.kids.isEmpty) :
    [Pt r.m 0, PO (some r.n), PO r.pch, PO r.ach, PO r.nf, S (x :: xs), S r.orig, .slice r.ad r.kids.length r.cp, I r.pc, .int .u8 (x.toNat : Int), .int .u8 (r.kd : Int), .bool (r.ad.isNone && r.pch.isNone && r.ach.isNone), .bool (isH r.f r.kv)] = (r.low b l).row := by
  simp [NR.row, NR.low, nrow, hx, hiso]
theorem new_row {b m par t : Nat} {x : UInt8} {xs orig : List UInt8} :
    [Pt m 0, PO (some par), PO none, PO none, PO none, S (x :: xs), S orig, .slice none 0 0, I (0 : Int), .int .u8 (x.toNat : Int), .int .u8 (t : Int), .bool ((none : Option Addr).isNone && (none : Option Nat).isNone && (none : Option Nat).isNone), .bool (isH (fun _ => none) [])] = (newN b m par (x :: xs) orig t).row := rfl
end Bw
namespace Bw
open Go Go.Proofs

theorem perm_idx {α : Type} (L : List (List α)) (i j : List Nat) (h : i.isPerm j = true) : ((i.map fun k => L.getD k []).flatten).Perm ((j.map fun k => L.getD k []).flatten) :=
  ((List.isPerm_iff.1 h).map _).flatten

theorem NR.ok.arr {B : Nat} {r : NR} (h : r.ok B) {j : Nat} (hj : j < r.kids.length) : ∃ ab spare, r.ad = some ⟨ab, 0, none⟩ ∧ r.Hs = [⟨ab, true, .row (r.kids.map (Pt · 0) ++ spare) 136 (0, 0)⟩] := by
  have hs := h.hs
  generalize hv : Value.slice r.ad r.kids.length r.cp = v at hs
  generalize hn : r.kids.length = n at hs hv hj
  generalize hx : r.kids.map (Pt · 0) = xs at hs
  generalize hq : r.Hs = Hs at hs
  cases hs with
  | nil => omega
  | row _ _ _ =>
    simp only [Value.slice.injEq] at hv
    exact ⟨_, _, hv.1, rfl⟩

theorem ents_cons' {r : NR} {n m : Nat} {Hs : SH} {T : List NR} (e1 : r.n = n) (e2 : r.m = m) (e3 : r.Hs = Hs) : ents (r :: T) = ⟨n, true, .row r.row 146 (0, 0)⟩ :: ⟨m, true, .row r.mr 155 (0, 0)⟩ :: (r.Hm ++ (Hs ++ ents T)) := by
  subst e1; subst e2; subst e3
  simp [ents_cons, NR.ents, NR.eN, NR.eM]

theorem G.addSt (r : NR) {c : Cx} {n : Nat} {k : List Item} {fr : SF} {H : SH} {ops : Array Oper} {rest : List Oper} {ty : TypeId} {pos : String} {aft : Array Edge}
    {B ch : Nat} {Q : SH} {x y : Operand} {tys : Array TypeId} {d : Nat} (ho : r.ok B) (hB : B < 1000000)
    (hp : H.Perm ((⟨r.n, true, .row r.row 146 (0, 0)⟩ :: r.Hs) ++ Q)) (hx : ev fr x = some (Pt r.n 0)) (hy : ev fr y = some (Pt ch 0)) (hd : Nat.blt d n = true)
    (hk : ∀ ad cp Hs, Own 136 1 (.slice ad (r.kids.length + 1) cp) (r.kids.length + 1) (r.kids.map (Pt · 0) ++ [Pt ch 0]) Hs →
      G Tryd.prog c n k ops rest ((d, .tuple #[]) :: fr) ((⟨r.n, true, .row ({ r with kids := r.kids ++ [ch], ad, cp, Hs } : NR).row 146 (0, 0)⟩ :: Hs) ++ Q)) :
    G Tryd.prog c n k ops (⟨some d, .call ⟨.value (.func 141), #[x, y], tys⟩, ty, pos, aft, none⟩ :: rest) fr H := by
  refine G.callL (fun v H1 => v = .tuple #[] ∧ ∃ ad cp Hs, Own 136 1 (.slice ad (r.kids.length + 1) cp) (r.kids.length + 1) (r.kids.map (Pt · 0) ++ [Pt ch 0]) Hs ∧ H1 = ⟨r.n, true, .row ({ r with kids := r.kids ++ [ch], ad, cp, Hs } : NR).row 146 (0, 0)⟩ :: Hs) hp ?_
    Tryd.call141 (vs := [Pt r.n 0, Pt ch 0]) (xs := [x, y]) (by simp [evs, hx, hy]) hd ?_ ?_
  · intro e he
    rcases List.mem_cons.1 he with rfl | he
    · rfl
    · exact ho.hs.w e he
  · intro w hw _
    refine (f141_any w _ r.n ch r.row (.slice r.ad r.kids.length r.cp) r.kids.length (r.kids.map (Pt · 0)) r.Hs hw rfl ho.hs (Nat.lt_of_le_of_lt ho.kidB hB)).mono fun e w' ⟨h1, sv', Hs', h2, h3⟩ => ?_
    obtain ⟨ad, cp, rfl⟩ := h2.slice
    refine ⟨_, _, h1, fun e he => ?_, h3, rfl, ad, cp, Hs', h2, ?_⟩
    · rcases List.mem_cons.1 he with rfl | he
      · rfl
      · exact h2.w e he
    · have : (r.kids ++ [ch]).length = r.kids.length + 1 := by simp
      simp only [NR.row, this]
      rfl
  · rintro v H1 ⟨rfl, ad, cp, Hs, h1, rfl⟩
    exact hk ad cp Hs h1

theorem fcl_mem {kids : List Nat} {g : Nat → UInt8} {pch ach : Option Nat} {l : UInt8} {c : Nat} (h : fcl (kids.map fun a => (a, g a)) pch ach l = some c) : c ∈ kids ∨ pch = some c ∨ ach = some c := by
  unfold fcl at h
  cases hf : (kids.map fun a => (a, g a)).find? (fun p => p.2 == l) with
  | some p =>
    rw [hf] at h
    simp only [Option.some.injEq] at h
    obtain ⟨a, ha, rfl⟩ := List.mem_map.1 (List.mem_of_find?_eq_some hf)
    exact .inl (h ▸ ha)
  | none =>
    rw [hf] at h
    simp only at h
    split at h
    · exact .inr (.inl h)
    · split at h
      · exact .inr (.inr h)
      · cases h
end Bw

/- insertNode. Printed by wip/mk_e5.py. -/
namespace Go.Proofs
open Go Bw
set_option maxRecDepth 20000

/-- closed: the children that the nodes speak of are nodes -/
structure Cl (T : List NR) : Prop where
  kids : ∀ r ∈ T, ∀ a ∈ r.kids, ∃ x ∈ T, x.n = a
  pch : ∀ r ∈ T, ∀ a, r.pch = some a → ∃ x ∈ T, x.n = a
  ach : ∀ r ∈ T, ∀ a, r.ach = some a → ∃ x ∈ T, x.n = a
  self : ∀ r ∈ T, r.n ∉ r.kids ∧ r.pch ≠ some r.n ∧ r.ach ≠ some r.n
  nd : (T.map NR.n).Nodup

theorem lbl_of {T : List NR} {r : NR} (hnd : (T.map NR.n).Nodup) (h : r ∈ T) : lbl T r.n = r.lab := by
  obtain ⟨a, b, rfl⟩ := List.append_of_mem h
  have h2 : a.find? (fun x => x.n == r.n) = none := by
    rw [List.find?_eq_none]
    intro x hx
    simp only [beq_iff_eq]
    intro e
    rw [List.map_append, List.nodup_append] at hnd
    exact hnd.2.2 x.n (List.mem_map.2 ⟨x, hx, rfl⟩) r.n (by simp) e
  simp [lbl, List.find?_append, h2]

theorem getD_some {l : List UInt8} {i : Nat} (h : i < l.length) : l[i]? = some (l.getD i 0) := by simp [List.getD, List.getElem?_eq_getElem h]

theorem kid_facts {w0 w : World} {D : Nat → Prop} {H : SH} {T : List NR} {r : NR} {B : Nat} (hw : HF w0 D H w) (hs : ∀ e ∈ ents T, e ∈ H) (hcl : Cl T) (hro : r.ok B) (hr : r ∈ T) :
    ∀ i p, (r.kids.map fun a => (a, lbl T a))[i]? = some p → ∃ a, r.ad = some ⟨a, 0, none⟩ ∧ w.cell? ⟨a, i, none⟩ = some (Pt p.1 0) ∧ w.cell? ⟨p.1, 9, none⟩ = some (.int .u8 (p.2.toNat : Int)) := by
  intro i p hp
  rw [List.getElem?_map] at hp
  cases hk : r.kids[i]? with
  | none => rw [hk] at hp; cases hp
  | some a =>
    rw [hk] at hp
    simp only [Option.map_some, Option.some.injEq] at hp
    subst hp
    have hi := (List.getElem?_eq_some_iff.1 hk).1
    obtain ⟨ab, spare, h1, h2⟩ := hro.arr hi
    obtain ⟨x, hx, rfl⟩ := hcl.kids r hr a (List.mem_of_getElem? hk)
    refine ⟨ab, h1, ?_, ?_⟩
    · refine cell_row hw (wf := true) (l := r.kids.map (Pt · 0) ++ spare) (t := 136) (fz := (0, 0)) (hs _ (ents_mem hr ?_)) ?_
      · simp [NR.ents, h2]
      · rw [nth_eq, List.getElem?_append_left (by simpa using hi)]; simp [hk]
    · rw [show (lbl T x.n) = x.lab from lbl_of hcl.nd hx]
      exact cell_row hw (hs _ (ents_mem hx (.head _))) rfl

theorem stdRow : (mrow (fun _ => none) none []) = [Nil, Nil, Nil, Nil, Nil, Nil, Nil, Nil, Nil, Nil, Nil, .map none, S []] := rfl

theorem f134_any (w : World) (D : Nat → Prop) (T : List NR) (rb root rt eb zb z B t np pcp : Nat) (meth path pp : List UInt8) (hp : Option Nat) (pad : Option Addr) (r0 : NR)
    (hH : HF w D (rtE rb root rt eb :: ecE eb zb :: zzE zb rb z :: ents T) w) (hcl : Cl T) (hok : ∀ r ∈ T, r.ok B) (hB : B + 2 < 1000000) (hr0 : r0 ∈ T) (hroot : r0.n = root) (hpath : path ≠ []) (hml : meth.length ≤ 1000) (hpl : path.length ≤ 1000000)
    (hprl : ∀ r ∈ T, r.pre.length ≤ 1000000) (ht : t < 3) :
    Calls Tryd.prog 134 #[Pt rb 0, S meth, S path, .int .u8 (t : Int), .agg #[PO hp, S pp, .slice pad np pcp]] w fun e w' => e = .returned (.tuple #[]) ∧ ∃ h T', Ins T h hp meth t np pp root path T' ∧ (∀ r ∈ T', r.ok (B + 2)) ∧
      HF w D (rmE h hp pp pad np pcp :: rtE rb root rt eb :: ecE eb zb :: zzE zb rb (max z np) :: ents T') w' := by
  refine enter D (rtE rb root rt eb :: ecE eb zb :: zzE zb rb z :: ents T) Tryd.func134 rfl Tryd.ntmps134 rfl rfl hH fun c hc => ?_
  subst hc
  refine GC.seq ?_
  refine GC.reg ?_  -- region 0, router.go:251
  refine G.bx (l := [PO hp, S pp, .slice pad np pcp]) rfl rfl rfl (fun h hh => ?_)
  refine G.nil ?_
  refine GC.seq ?_
  refine GC.reg ?_  -- region 1, router.go:253
  refine G.v (V.fa F152_2 rfl) rfl ?_
  refine G.v (V.ld Tryd.isAgg24 rfl (.head _) rfl) rfl ?_
  refine G.v (V.lenL Tryd.underlying24 rfl) rfl ?_
  refine G.v (V.asg rfl) rfl ?_
  refine G.nil ?_
  refine GC.seq ?_
  refine GC.seq ?_
  refine GC.reg ?_  -- region 2, router.go:254
  refine G.v (V.mv rfl) rfl ?_
  refine G.v (V.nc rfl) rfl ?_
  refine G.v (V.fa F139_2 rfl) rfl ?_
  refine G.v (V.ld Tryd.isAgg132 rfl (.tail _ (.head _)) rfl) rfl ?_
  refine G.v (V.nc rfl) rfl ?_
  refine G.v (V.fa F134_0 rfl) rfl ?_
  refine G.v (V.ld Tryd.isAgg94 rfl (.tail _ (.tail _ (.head _))) rfl) rfl ?_
  refine G.v (V.nc rfl) rfl ?_
  refine G.v (V.ld Tryd.isAgg3 rfl (.tail _ (.tail _ (.tail _ (.head _)))) rfl) rfl ?_
  refine G.v (V.mv rfl) rfl ?_
  refine G.v (V.lt rfl rfl) rfl ?_
  refine G.nil ?_
  refine GC.join (fun fr' H' => Sub [(0, Pt rb 0), (1, S meth), (3, .int .u8 (t : Int)), (9, Pt h 0), (2, S path)] fr' ∧ H' = rmE h hp pp pad np pcp :: rtE rb root rt eb :: ecE eb zb :: zzE zb rb (max z np) :: ents T) (fun J35 => ?_) ?_
  · refine GC.condD rfl (fun h35 => ?_) (fun h35 => ?_)
    · refine GC.reg ?_  -- region 3, router.go:255
      refine G.v (V.mv rfl) rfl ?_
      refine G.v (V.nc rfl) rfl ?_
      refine G.v (V.fa F139_2 rfl) rfl ?_
      refine G.v (V.ld Tryd.isAgg132 rfl (.tail _ (.head _)) rfl) rfl ?_
      refine G.v (V.nc rfl) rfl ?_
      refine G.v (V.fa F134_0 rfl) rfl ?_
      refine G.v (V.ld Tryd.isAgg94 rfl (.tail _ (.tail _ (.head _))) rfl) rfl ?_
      refine G.v (V.mv rfl) rfl ?_
      refine G.v (V.nc rfl) rfl ?_
      refine G.st Tryd.sizeOf3 rfl rfl rfl (.s (.s (.s .z))) rfl rfl ?_
      refine G.nil ?_
      exact J35 _ _ ⟨.cons rfl (.cons rfl (.cons rfl (.cons rfl (.cons rfl .nil)))), by rw [show max z np = np by omega]; rfl⟩
    refine GC.skip ?_
    exact J35 _ _ ⟨.cons rfl (.cons rfl (.cons rfl (.cons rfl (.cons rfl .nil)))), by rw [show max z np = z by omega]; rfl⟩
  rintro fr' H' ⟨hs, rfl⟩
  refine GC.weak hs ?_
  clear hs
  refine GC.seq ?_
  refine GC.reg ?_  -- region 4, router.go:258
  refine G.v (V.mv rfl) rfl ?_
  refine G.v (V.nc rfl) rfl ?_
  refine G.v (V.fa F139_0 rfl) rfl ?_
  refine G.v (V.ld Tryd.isAgg136 rfl (.tail _ (.head _)) rfl) rfl ?_
  refine G.v (V.asg rfl) rfl ?_
  refine G.nil ?_
  refine GC.seq ?_
  refine GC.seq ?_
  refine GC.reg ?_  -- region 5, router.go:259
  refine G.v (V.mv rfl) rfl ?_
  refine G.v (V.eqP (p := some ⟨root, 0, none⟩) Tryd.underlying136 rfl) rfl ?_
  refine G.nil ?_
  refine GC.condF rfl ?_
  refine GC.skip ?_
  refine GC.seq ?_
  refine GC.reg ?_  -- region 7, router.go:262
  refine G.v (V.mv rfl) rfl ?_
  refine G.v (V.asg rfl) rfl ?_
  refine G.nil ?_
  refine GC.block ?_
  refine GC.loopJ (fun N fr' H' => ∃ r s, List.length s = N ∧ s ≠ [] ∧ List.length s ≤ 1000000 ∧ r ∈ T ∧ Sub [(0, Pt rb 0), (1, S meth), (3, .int .u8 (t : Int)), (9, Pt h 0), (11, Pt r.n 0), (12, S s)] fr' ∧ H' = rmE h hp pp pad np pcp :: rtE rb root rt eb :: ecE eb zb :: zzE zb rb (max z np) :: ents T ∧ ∀ T', Ins T h hp meth t np pp r.n s T' → Ins T h hp meth t np pp root path T') path.length
    ⟨r0, path, rfl, hpath, hpl, hr0, by rw [hroot]; exact .cons rfl (.cons rfl (.cons rfl (.cons rfl (.cons rfl (.cons rfl .nil))))), rfl, fun T' h => hroot ▸ h⟩ ?_
  rintro N fr' H' ⟨r, s, hN, hs0, hsl, hr, hs, rfl, hIns⟩ ih
  refine GC.weak hs ?_
  clear hs
  have hrow : ⟨r.n, true, .row r.row 146 (0, 0)⟩ ∈ (rmE h hp pp pad np pcp :: rtE rb root rt eb :: ecE eb zb :: zzE zb rb (max z np) :: ents T) := .tail _ (.tail _ (.tail _ (.tail _ (ents_mem hr (.head _)))))
  have hpr := hprl r hr
  have hkb := (hok r hr).kidB
  have hro := hok r hr
  have hiso := hro.iso
  have hs0' : s[0]? = some (s.headD 0) := by cases s with | nil => exact absurd rfl hs0 | cons => rfl
  obtain ⟨T0, hT⟩ := perm_of_mem hr
  have hT0 : ∀ x ∈ T0, x ∈ T := fun x hx => hT.mem_iff.2 (.tail _ hx)
  have hndT := (hT.map NR.n).nodup_iff.1 hcl.nd
  have hnd0 : (T0.map NR.n).Nodup := (List.nodup_cons.1 hndT).2
  refine GC.block ?_
  refine GC.seq ?_
  refine GC.reg ?_  -- region 8, router.go:265
  refine G.v (V.mv rfl) rfl ?_
  refine G.v (V.lenS Tryd.underlying9 rfl) rfl ?_
  refine G.v (V.asg rfl) rfl ?_
  refine G.nil ?_
  refine GC.seq ?_
  refine GC.reg ?_  -- region 9, router.go:266
  refine G.v (V.mv rfl) rfl ?_
  refine G.v (V.nc rfl) rfl ?_
  refine G.v (V.fa F146_5 rfl) rfl ?_
  refine G.v (V.ld Tryd.isAgg9 rfl hrow rfl) rfl ?_
  refine G.v (V.lenS Tryd.underlying9 rfl) rfl ?_
  refine G.v (V.asg rfl) rfl ?_
  refine G.nil ?_
  refine GC.seq ?_
  refine GC.reg ?_  -- region 10, router.go:267
  refine G.v (V.asg rfl) rfl ?_
  refine G.nil ?_
  refine GC.seq ?_
  refine GC.reg ?_  -- region 11, router.go:270
  refine G.v (V.mv rfl) rfl ?_
  refine G.v (V.asg rfl) rfl ?_
  refine G.nil ?_
  refine GC.seq ?_
  refine GC.seq ?_
  refine GC.reg ?_  -- region 12, router.go:271
  refine G.v (V.mv rfl) rfl ?_
  refine G.v (V.mv rfl) rfl ?_
  refine G.v (V.lt rfl rfl) rfl ?_
  refine G.nil ?_
  refine GC.join (fun fr' H' => Sub [(0, Pt rb 0), (1, S meth), (3, .int .u8 (t : Int)), (9, Pt h 0), (11, Pt r.n 0), (12, S s), (13, I (s.length : Nat)), (14, I (r.pre.length : Nat)), (15, I ((0 : Nat) : Int)), (16, I ((min r.pre.length s.length : Nat) : Int))] fr' ∧ H' = rmE h hp pp pad np pcp :: rtE rb root rt eb :: ecE eb zb :: zzE zb rb (max z np) :: ents T) (fun J63 => ?_) ?_
  · refine GC.condD rfl (fun h63 => ?_) (fun h63 => ?_)
    · refine GC.reg ?_  -- region 13, router.go:272
      refine G.v (V.mv rfl) rfl ?_
      refine G.v (V.asg rfl) rfl ?_
      refine G.nil ?_
      refine J63 _ _ ⟨?_, rfl⟩
      rw [show (min r.pre.length s.length) = s.length by omega]
      exact .cons rfl (.cons rfl (.cons rfl (.cons rfl (.cons rfl (.cons rfl (.cons rfl (.cons rfl (.cons rfl (.cons rfl .nil)))))))))
    refine GC.skip ?_
    refine J63 _ _ ⟨?_, rfl⟩
    rw [show (min r.pre.length s.length) = r.pre.length by omega]
    exact .cons rfl (.cons rfl (.cons rfl (.cons rfl (.cons rfl (.cons rfl (.cons rfl (.cons rfl (.cons rfl (.cons rfl .nil)))))))))
  rintro fr' H' ⟨hs, rfl⟩
  refine GC.weak hs ?_
  clear hs
  refine GC.seq ?_
  refine GC.join (fun fr' H' => Sub [(0, Pt rb 0), (1, S meth), (3, .int .u8 (t : Int)), (9, Pt h 0), (11, Pt r.n 0), (12, S s), (13, I (s.length : Nat)), (14, I (r.pre.length : Nat)), (15, I ((lcp s r.pre : Nat) : Int))] fr' ∧ H' = rmE h hp pp pad np pcp :: rtE rb root rt eb :: ecE eb zb :: zzE zb rb (max z np) :: ents T) (fun J2 => ?_) ?_
  · refine GC.block ?_
    refine GC.loopJ (fun N fr' H' => ∃ i, i + N = min r.pre.length s.length ∧ i + lcp (s.drop i) (r.pre.drop i) = lcp s r.pre ∧ Sub [(0, Pt rb 0), (1, S meth), (3, .int .u8 (t : Int)), (9, Pt h 0), (11, Pt r.n 0), (12, S s), (13, I (s.length : Nat)), (14, I (r.pre.length : Nat)), (15, I ((i : Nat) : Int)), (16, I ((min r.pre.length s.length : Nat) : Int))] fr' ∧ H' = rmE h hp pp pad np pcp :: rtE rb root rt eb :: ecE eb zb :: zzE zb rb (max z np) :: ents T) (min r.pre.length s.length)
      ⟨0, by omega, by simp, .cons rfl (.cons rfl (.cons rfl (.cons rfl (.cons rfl (.cons rfl (.cons rfl (.cons rfl (.cons rfl (.cons rfl .nil))))))))), rfl⟩ ?_
    rintro N2 fr' H' ⟨i, hi, hl, hs, rfl⟩ ih2
    refine GC.weak hs ?_
    clear hs
    refine GC.seq ?_
    refine GC.seq ?_
    refine GC.regQ mixed (by kernel_rfl) ?_  -- region 14, router.go:274
    refine GQ.v (V.mv rfl) rfl ?_
    refine GQ.v (V.mv rfl) rfl ?_
    refine GQ.v (V.lt rfl rfl) rfl ?_
    refine GQ.v (V.mv rfl) rfl ?_
    refine GQ.bc 68 rfl (fun h68 => ?_) (fun h68 => ?_)
    · have hlt := of_decide_eq_true h68
      have hst := lcp_step s r.pre i _ _ (getD_some (by omega)) (getD_some (by omega))
      refine GQ.vg rfl rfl (V.mv rfl) rfl ?_
      refine GQ.vg rfl rfl (V.mv rfl) rfl ?_
      refine GQ.vg rfl rfl (V.idx (i := i) (b := s.getD i 0) Tryd.underlying9 rfl rfl (getD_some (by omega))) rfl ?_
      refine GQ.vg rfl rfl (V.mv rfl) rfl ?_
      refine GQ.vg rfl rfl (V.nc rfl) rfl ?_
      refine GQ.vg rfl rfl (V.fa F146_5 rfl) rfl ?_
      refine GQ.vg rfl rfl (V.ld Tryd.isAgg9 rfl hrow rfl) rfl ?_
      refine GQ.vg rfl rfl (V.mv rfl) rfl ?_
      refine GQ.vg rfl rfl (V.idx (i := i) (b := r.pre.getD i 0) Tryd.underlying9 rfl rfl (getD_some (by omega))) rfl ?_
      refine GQ.vg rfl rfl (V.eqI rfl rfl) rfl ?_
      refine GQ.v (V.pickT rfl rfl) rfl ?_
      refine GQ.nil ?_
      refine GC.condD rfl (fun h79 => ?_) (fun h79 => ?_)
      · refine GC.skip ?_
        refine GC.seq ?_
        refine GC.block ?_
        refine GC.skip ?_
        refine GC.inBlock ?_
        refine GC.reg ?_  -- region 15, router.go:274
        refine G.v (V.mv rfl) rfl ?_
        refine G.v (V.addI rfl rfl rfl (by omega) (by omega)) rfl ?_
        refine G.v (V.asg rfl) rfl ?_
        refine G.nil ?_
        have e : s.getD i 0 = r.pre.getD i 0 := UInt8.toNat_inj.1 (by omega)
        rw [if_pos e] at hst
        exact ih2 (N2 - 1) _ _ (by omega) ⟨i + 1, by omega, by omega, .cons rfl (.cons rfl (.cons rfl (.cons rfl (.cons rfl (.cons rfl (.cons rfl (.cons rfl (.cons rfl (.cons rfl .nil))))))))), rfl⟩
      refine GC.exit rfl ?_
      have e : ¬ s.getD i 0 = r.pre.getD i 0 := fun e => h79 (by rw [e])
      rw [if_neg e] at hst
      refine J2 _ _ ⟨?_, rfl⟩
      rw [show lcp s r.pre = i by omega]
      exact .cons rfl (.cons rfl (.cons rfl (.cons rfl (.cons rfl (.cons rfl (.cons rfl (.cons rfl (.cons rfl .nil))))))))
    · refine GQ.sg rfl rfl rfl rfl rfl rfl ?_
      refine GQ.sg rfl rfl rfl rfl rfl rfl ?_
      refine GQ.sg rfl rfl rfl rfl rfl rfl ?_
      refine GQ.sg rfl rfl rfl rfl rfl rfl ?_
      refine GQ.sg rfl rfl rfl rfl rfl rfl ?_
      refine GQ.sg rfl rfl rfl rfl rfl rfl ?_
      refine GQ.sg rfl rfl rfl rfl rfl rfl ?_
      refine GQ.sg rfl rfl rfl rfl rfl rfl ?_
      refine GQ.sg rfl rfl rfl rfl rfl rfl ?_
      refine GQ.sg rfl rfl rfl rfl rfl rfl ?_
      refine GQ.v (V.pickF rfl rfl) rfl ?_
      refine GQ.nil ?_
      refine GC.condF rfl ?_
      refine GC.exit rfl ?_
      have hge := of_decide_eq_false h68
      have hst : lcp (s.drop i) (r.pre.drop i) = 0 := by
        have h1 := lcp_le (s.drop i) (r.pre.drop i)
        simp only [List.length_drop] at h1
        omega
      refine J2 _ _ ⟨?_, rfl⟩
      rw [show lcp s r.pre = i by omega]
      exact .cons rfl (.cons rfl (.cons rfl (.cons rfl (.cons rfl (.cons rfl (.cons rfl (.cons rfl (.cons rfl .nil))))))))
  rintro fr' H' ⟨hs, rfl⟩
  refine GC.weak hs ?_
  clear hs
  have hlc := lcp_le s r.pre
  refine GC.seq ?_
  refine GC.seq ?_
  refine GC.reg ?_  -- region 16, router.go:277
  refine G.v (V.mv rfl) rfl ?_
  refine G.v (V.eqI rfl rfl) rfl ?_
  refine G.nil ?_
  refine GC.condD rfl (fun h83 => ?_) (fun h83 => ?_)
  · refine GC.seq ?_
    have hl : lcp s r.pre = 0 := by omega
    refine GC.turn (H' := rmE h hp pp pad np pcp :: fr4 r.n r.m r (rtE rb root rt eb :: ecE eb zb :: zzE zb rb (max z np) :: (r.Hs ++ ents T0))) (fun w1 hw1 => hw1.perm (foc_in hT)) ?_
    refine GC.reg ?_  -- region 17, router.go:279
    refine G.v (V.mv rfl) rfl ?_
    refine G.v (V.mv rfl) rfl ?_
    refine G.v (V.idx (i := 0) (b := s.headD 0) Tryd.underlying9 rfl rfl hs0') rfl ?_
    refine G.v (V.nc rfl) rfl ?_
    refine G.v (V.fa F146_9 rfl) rfl ?_
    refine G.st Tryd.sizeOf5 rfl rfl rfl (.s .z) rfl rfl ?_
    refine G.nil ?_
    refine GC.seq ?_
    refine GC.reg ?_  -- region 18, router.go:280
    refine G.v (V.mv rfl) rfl ?_
    refine G.v (V.mv rfl) rfl ?_
    refine G.v (V.nc rfl) rfl ?_
    refine G.v (V.fa F146_5 rfl) rfl ?_
    refine G.st Tryd.sizeOf9 rfl rfl rfl (.s .z) rfl rfl ?_
    refine G.nil ?_
    refine GC.seq ?_
    refine GC.seq ?_
    refine GC.reg ?_  -- region 19, router.go:281
    refine G.v (V.fa F152_0 rfl) rfl ?_
    refine G.v (V.ld Tryd.isAgg95 rfl (.head _) rfl) rfl ?_
    refine G.v (V.neO Tryd.underlying95 rfl) rfl ?_
    refine G.nil ?_
    refine GC.join (fun fr' H' => Sub [(0, Pt rb 0), (1, S meth), (3, .int .u8 (t : Int)), (9, Pt h 0), (11, Pt r.n 0)] fr' ∧ ∃ r1 r2, AddO h hp meth (if hp.isSome then { r with lab := s.headD 0, pre := s, kd := t } else { r with lab := s.headD 0, pre := s }) r1 ∧ r2 = r1.po hp np pp ∧ H' = rmE h hp pp pad np pcp :: fr4 r.n r.m r2 (rtE rb root rt eb :: ecE eb zb :: zzE zb rb (max z np) :: (r.Hs ++ ents T0))) (fun J95 => ?_) ?_
    · refine GC.cond rfl (fun h95 => ?_) (fun h95 => ?_)
      · refine GC.seq ?_
        refine GC.reg ?_  -- region 20, router.go:282
        refine G.v (V.mv rfl) rfl ?_
        refine G.v (V.mv rfl) rfl ?_
        refine G.v (V.nc rfl) rfl ?_
        refine G.v (V.fa F146_10 rfl) rfl ?_
        refine G.st Tryd.sizeOf141 rfl rfl rfl (.s .z) rfl rfl ?_
        refine G.nil ?_
        refine GC.seq ?_
        refine GC.reg ?_  -- region 21, router.go:283
        refine G.v (V.mv rfl) rfl ?_
        refine G.v (V.mv rfl) rfl ?_
        refine G.addM ({ r with lab := s.headD 0, pre := s, kd := t }) (B := B + 1) (⟨hro.hm, hro.hs, hro.nil, Nat.le_succ_of_le hro.kvB, hro.keys, Nat.le_succ_of_le hro.kidB⟩) (by omega) hml h95 rfl rfl rfl rfl (fun r1 ha => ?_)
        refine G.nil ?_
        refine GC.seq ?_
        refine GC.reg ?_  -- region 22, router.go:284
        refine G.v (V.mv rfl) rfl ?_
        refine G.v (V.fa F152_2 rfl) rfl ?_
        refine G.v (V.ld Tryd.isAgg24 rfl (.head _) rfl) rfl ?_
        refine G.v (V.lenL Tryd.underlying24 rfl) rfl ?_
        refine G.v (V.nc rfl) rfl ?_
        refine G.v (V.fa F146_8 rfl) rfl ?_
        refine G.st Tryd.sizeOf3 rfl rfl rfl (.s .z) rfl rfl ?_
        refine G.nil ?_
        refine GC.reg ?_  -- region 23, router.go:285
        refine G.v (V.mv rfl) rfl ?_
        refine G.v (V.fa F152_1 rfl) rfl ?_
        refine G.v (V.ld Tryd.isAgg9 rfl (.head _) rfl) rfl ?_
        refine G.v (V.nc rfl) rfl ?_
        refine G.v (V.fa F146_6 rfl) rfl ?_
        refine G.st Tryd.sizeOf9 rfl rfl rfl (.s .z) rfl rfl ?_
        refine G.nil ?_
        exact J95 _ _ ⟨.cons rfl (.cons rfl (.cons rfl (.cons rfl (.cons rfl .nil)))), r1, _, .inr ⟨h95, by rw [if_pos h95]; exact ha⟩, rfl, by rw [NR.po, if_pos h95]; rfl⟩
      refine GC.skip ?_
      exact J95 _ _ ⟨.cons rfl (.cons rfl (.cons rfl (.cons rfl (.cons rfl .nil)))), { r with lab := s.headD 0, pre := s }, _, .inl ⟨by simpa using h95, by rw [h95]; rfl⟩, rfl, by rw [NR.po, h95]; rfl⟩
    rintro fr' H' ⟨hs, r1, r2, ha, hr2, rfl⟩
    refine GC.weak hs ?_
    clear hs
    have hok1 : r1.ok (B + 1) := ha.ok (by split <;> exact ⟨hro.hm, hro.hs, hro.nil, hro.kvB, hro.keys, hro.kidB⟩) hml
    have hok2 : r2.ok (B + 1) := hr2 ▸ hok1.po
    have hiso2 := hok2.iso
    have e1 : r2.n = r.n := by rw [hr2, NR.po_n, ha.n]; split <;> rfl
    have e2 : r2.m = r.m := by rw [hr2, NR.po_m, ha.m]; split <;> rfl
    have e3 : r2.Hs = r.Hs := by rw [hr2, NR.po_Hs, ha.Hs]; split <;> rfl
    refine GC.join (fun fr' H' => H' = rmE h hp pp pad np pcp :: fr4 r.n r.m r2.reLeaf (rtE rb root rt eb :: ecE eb zb :: zzE zb rb (max z np) :: (r.Hs ++ ents T0))) (fun J24 => ?_) ?_
    · refine GC.reg ?_  -- region 24, router.go:287
      refine G.v (V.mv rfl) rfl ?_
      refine G.v (V.mv rfl) rfl ?_
      refine G.v (V.nc rfl) rfl ?_
      refine G.v (V.fa F146_7 rfl) rfl ?_
      refine G.v (V.ld Tryd.isAgg144 rfl (.tail _ (.head _)) rfl) rfl ?_
      refine G.v (V.eqL Tryd.underlying144 rfl) rfl ?_
      refine G.v (V.mv rfl) rfl ?_
      refine G.bc 120 rfl (fun h120 => ?_) (fun h120 => ?_)
      · refine G.vg rfl rfl (V.mv rfl) rfl ?_
        refine G.vg rfl rfl (V.nc rfl) rfl ?_
        refine G.vg rfl rfl (V.fa F146_2 rfl) rfl ?_
        refine G.vg rfl rfl (V.ld Tryd.isAgg136 rfl (.tail _ (.head _)) rfl) rfl ?_
        refine G.vg rfl rfl (V.eqO Tryd.underlying136 rfl) rfl ?_
        refine G.v (V.pickT rfl rfl) rfl ?_
        refine G.v (V.mv rfl) rfl ?_
        refine G.bc 127 rfl (fun h127 => ?_) (fun h127 => ?_)
        · refine G.vg rfl rfl (V.mv rfl) rfl ?_
          refine G.vg rfl rfl (V.nc rfl) rfl ?_
          refine G.vg rfl rfl (V.fa F146_3 rfl) rfl ?_
          refine G.vg rfl rfl (V.ld Tryd.isAgg136 rfl (.tail _ (.head _)) rfl) rfl ?_
          refine G.vg rfl rfl (V.eqO Tryd.underlying136 rfl) rfl ?_
          refine G.v (V.pickT rfl rfl) rfl ?_
          refine G.v (V.nc rfl) rfl ?_
          refine G.v (V.fa F146_11 rfl) rfl ?_
          refine G.st Tryd.sizeOf4 rfl rfl rfl (.s .z) rfl rfl ?_
          refine G.nil ?_
          have el : r2.ach.isNone = (r2.kids.isEmpty && r2.pch.isNone && r2.ach.isNone) := by rw [← hiso2, h120, h127]; rfl
          refine J24 _ _ ?_
          exact congrArg (fun x => rmE h hp pp pad np pcp :: ⟨r.n, true, .row x 146 (0, 0)⟩ :: ⟨r.m, true, .row r2.mr 155 (0, 0)⟩ :: (r2.Hm ++ (rtE rb root rt eb :: ecE eb zb :: zzE zb rb (max z np) :: (r.Hs ++ ents T0)))) (reLeaf_row el)
        · refine G.sg rfl rfl rfl rfl rfl rfl ?_
          refine G.sg rfl rfl rfl rfl rfl rfl ?_
          refine G.sg rfl rfl rfl rfl rfl rfl ?_
          refine G.sg rfl rfl rfl rfl rfl rfl ?_
          refine G.sg rfl rfl rfl rfl rfl rfl ?_
          refine G.v (V.pickF rfl rfl) rfl ?_
          refine G.v (V.nc rfl) rfl ?_
          refine G.v (V.fa F146_11 rfl) rfl ?_
          refine G.st Tryd.sizeOf4 rfl rfl rfl (.s .z) rfl rfl ?_
          refine G.nil ?_
          have el : false = (r2.kids.isEmpty && r2.pch.isNone && r2.ach.isNone) := by rw [← hiso2, h120, h127]; rfl
          refine J24 _ _ ?_
          exact congrArg (fun x => rmE h hp pp pad np pcp :: ⟨r.n, true, .row x 146 (0, 0)⟩ :: ⟨r.m, true, .row r2.mr 155 (0, 0)⟩ :: (r2.Hm ++ (rtE rb root rt eb :: ecE eb zb :: zzE zb rb (max z np) :: (r.Hs ++ ents T0)))) (reLeaf_row el)
      · refine G.sg rfl rfl rfl rfl rfl rfl ?_
        refine G.sg rfl rfl rfl rfl rfl rfl ?_
        refine G.sg rfl rfl rfl rfl rfl rfl ?_
        refine G.sg rfl rfl rfl rfl rfl rfl ?_
        refine G.sg rfl rfl rfl rfl rfl rfl ?_
        refine G.v (V.pickF rfl rfl) rfl ?_
        refine G.v (V.mv rfl) rfl ?_
        refine G.sg rfl rfl rfl rfl rfl rfl ?_
        refine G.sg rfl rfl rfl rfl rfl rfl ?_
        refine G.sg rfl rfl rfl rfl rfl rfl ?_
        refine G.sg rfl rfl rfl rfl rfl rfl ?_
        refine G.sg rfl rfl rfl rfl rfl rfl ?_
        refine G.v (V.pickF rfl rfl) rfl ?_
        refine G.v (V.nc rfl) rfl ?_
        refine G.v (V.fa F146_11 rfl) rfl ?_
        refine G.st Tryd.sizeOf4 rfl rfl rfl (.s .z) rfl rfl ?_
        refine G.nil ?_
        have el : false = (r2.kids.isEmpty && r2.pch.isNone && r2.ach.isNone) := by rw [← hiso2, h120]; rfl
        refine J24 _ _ ?_
        exact congrArg (fun x => rmE h hp pp pad np pcp :: ⟨r.n, true, .row x 146 (0, 0)⟩ :: ⟨r.m, true, .row r2.mr 155 (0, 0)⟩ :: (r2.Hm ++ (rtE rb root rt eb :: ecE eb zb :: zzE zb rb (max z np) :: (r.Hs ++ ents T0)))) (reLeaf_row el)
    rintro fr' H' rfl
    refine GC.ret0 rfl fun w' hw' => ⟨rfl, h, r2.reLeaf :: T0, hIns _ ?_, ?_, hw'.perm (foc_out e1 e2 e3)⟩
    · rw [hr2]; exact .root hT hl ha
    · intro x hx
      rcases List.mem_cons.1 hx with rfl | hx
      · exact hok2.reLeaf.mono (by omega)
      · exact (hok x (hT0 x hx)).mono (by omega)
  refine GC.seq ?_
  refine GC.reg ?_  -- region 25, router.go:288
  refine G.v (V.mv rfl) rfl ?_
  refine G.v (V.mv rfl) rfl ?_
  refine G.v (V.lt rfl rfl) rfl ?_
  refine G.nil ?_
  refine GC.condD rfl (fun h138 => ?_) (fun h138 => ?_)
  · refine GC.seq ?_
    have h0 : lcp s r.pre ≠ 0 := by omega
    have hl : lcp s r.pre < r.pre.length := by omega
    obtain ⟨x, xs, hx⟩ : ∃ x xs, r.pre.drop (lcp s r.pre) = x :: xs := by
      cases hx : r.pre.drop (lcp s r.pre) with
      | nil => have := congrArg List.length hx; simp at this; omega
      | cons x xs => exact ⟨x, xs, rfl⟩
    have hp0 : r.pre[0]? = some (r.pre.headD 0) := by cases hp0 : r.pre with | nil => rw [hp0] at hl; simp at hl | cons => rfl
    refine GC.turn (H' := rmE h hp pp pad np pcp :: fr4 r.n r.m r (rtE rb root rt eb :: ecE eb zb :: zzE zb rb (max z np) :: (r.Hs ++ ents T0))) (fun w1 hw1 => hw1.perm (foc_in hT)) ?_
    refine GC.regT 39 mixed (by kernel_rfl) rfl rfl ?_  -- region 26, router.go:295
    refine GS.v (V.mv rfl) rfl ?_
    refine GS.v (V.nc rfl) rfl ?_
    refine GS.v (V.fa F146_10 rfl) rfl ?_
    refine GS.v (V.ld Tryd.isAgg141 rfl (.tail _ (.head _)) rfl) rfl ?_
    refine GS.v (V.mv rfl) rfl ?_
    refine GS.v (V.nc rfl) rfl ?_
    refine GS.v (V.fa F146_5 rfl) rfl ?_
    refine GS.v (V.ld Tryd.isAgg9 rfl (.tail _ (.head _)) rfl) rfl ?_
    refine GS.v (V.mv rfl) rfl ?_
    refine GS.v (V.slLe Tryd.underlying9 rfl rfl (Nat.le_of_lt hl) hx) rfl ?_
    refine GS.v (V.mv rfl) rfl ?_
    refine GS.v (V.mv rfl) rfl ?_
    refine GS.v (V.nc rfl) rfl ?_
    refine GS.v (V.fa F146_7 rfl) rfl ?_
    refine GS.v (V.ld Tryd.isAgg144 rfl (.tail _ (.head _)) rfl) rfl ?_
    refine GS.v (V.mv rfl) rfl ?_
    refine GS.v (V.nc rfl) rfl ?_
    refine GS.v (V.fa F146_6 rfl) rfl ?_
    refine GS.v (V.ld Tryd.isAgg9 rfl (.tail _ (.head _)) rfl) rfl ?_
    refine GS.v (V.mv rfl) rfl ?_
    refine GS.v (V.nc rfl) rfl ?_
    refine GS.v (V.fa F146_0 rfl) rfl ?_
    refine GS.v (V.ld Tryd.isAgg142 rfl (.tail _ (.head _)) rfl) rfl ?_
    refine GS.v (V.mv rfl) rfl ?_
    refine GS.v (V.nc rfl) rfl ?_
    refine GS.v (V.fa F146_8 rfl) rfl ?_
    refine GS.v (V.ld Tryd.isAgg3 rfl (.tail _ (.head _)) rfl) rfl ?_
    refine GS.v (V.mv rfl) rfl ?_
    refine GS.v (V.nc rfl) rfl ?_
    refine GS.v (V.fa F146_2 rfl) rfl ?_
    refine GS.v (V.ld Tryd.isAgg136 rfl (.tail _ (.head _)) rfl) rfl ?_
    refine GS.v (V.mv rfl) rfl ?_
    refine GS.v (V.nc rfl) rfl ?_
    refine GS.v (V.fa F146_3 rfl) rfl ?_
    refine GS.v (V.ld Tryd.isAgg136 rfl (.tail _ (.head _)) rfl) rfl ?_
    refine GS.v (V.mv rfl) rfl ?_
    refine GS.v (V.nc rfl) rfl ?_
    refine GS.v (V.fa F146_4 rfl) rfl ?_
    refine GS.v (V.ld Tryd.isAgg140 rfl (.tail _ (.head _)) rfl) rfl ?_
    refine GS.nil ?_
    refine G.callN Tryd.call140 rfl rfl (fun w1 hw1 => f140_any w1 r.kd x xs r.orig (some r.n) r.pch r.ach r.nf r.ad r.kids.length r.cp r.m r.pc r.f r.mp r.kv (fun i hi => cell_row hw1 (.tail _ (.tail _ (.head _))) (mrow_nth hi)) (cell_row hw1 (.tail _ (.tail _ (.head _))) rfl) (hro.hm.at hw1 (fun e he => .tail _ (.tail _ (.tail _ (List.mem_append_left _ he)))))) (fun b hb => ?_)
    refine G.turn (H' := ⟨b, true, .row (r.low b (lcp s r.pre)).row 146 (0, 0)⟩ :: rmE h hp pp pad np pcp :: fr4 r.n r.m r (rtE rb root rt eb :: ecE eb zb :: zzE zb rb (max z np) :: (r.Hs ++ ents T0))) (fun w1 hw1 => by rw [← low_row hx hiso]; exact hw1) ?_
    refine G.v (V.asg rfl) rfl ?_
    refine G.nil ?_
    refine GC.seq ?_
    refine GC.seq ?_
    have hkidT : ∀ a, a ∈ r.kids ∨ r.pch = some a ∨ r.ach = some a → ∃ rc ∈ T0, rc.n = a := by
      intro a ha
      have hsf := hcl.self r hr
      have hx1 : (∃ x ∈ T, x.n = a) ∧ r.n ≠ a := by
        rcases ha with ha | ha | ha
        · exact ⟨hcl.kids r hr a ha, fun e => hsf.1 (e ▸ ha)⟩
        · exact ⟨hcl.pch r hr a ha, fun e => hsf.2.1 (e ▸ ha)⟩
        · exact ⟨hcl.ach r hr a ha, fun e => hsf.2.2 (e ▸ ha)⟩
      obtain ⟨⟨x, h1, h2⟩, h3⟩ := hx1
      rcases List.mem_cons.1 (hT.mem_iff.1 h1) with h4 | h4
      · exact absurd (h4 ▸ h2) h3
      · exact ⟨x, h4, h2⟩
    refine GC.reg ?_  -- region 27, router.go:308
    refine G.v (V.mv rfl) rfl ?_
    refine G.v (V.nc rfl) rfl ?_
    refine G.v (V.fa F146_7 rfl) rfl ?_
    refine G.v (V.ld Tryd.isAgg144 rfl (.tail _ (.tail _ (.head _))) rfl) rfl ?_
    refine G.v (V.lenL Tryd.underlying144 rfl) rfl ?_
    refine G.v (V.mv rfl) rfl ?_
    refine G.nil ?_
    refine GC.join (fun fr' H' => Sub [(0, Pt rb 0), (1, S meth), (3, .int .u8 (t : Int)), (9, Pt h 0), (11, Pt r.n 0), (12, S s), (13, I (s.length : Nat)), (15, I ((lcp s r.pre : Nat) : Int)), (17, Pt b 0)] fr' ∧ H' = ⟨b, true, .row (r.low b (lcp s r.pre)).row 146 (0, 0)⟩ :: rmE h hp pp pad np pcp :: ⟨r.n, true, .row r.row 146 (0, 0)⟩ :: ⟨r.m, true, .row r.mr 155 (0, 0)⟩ :: ((r.Hm ++ (rtE rb root rt eb :: ecE eb zb :: zzE zb rb (max z np) :: r.Hs)) ++ ents (T0.map (NR.setPar (r.kids) b)))) (fun J4 => ?_) ?_
    · refine GC.block ?_
      refine GC.turn (H' := ⟨b, true, .row (r.low b (lcp s r.pre)).row 146 (0, 0)⟩ :: rmE h hp pp pad np pcp :: ⟨r.n, true, .row r.row 146 (0, 0)⟩ :: ⟨r.m, true, .row r.mr 155 (0, 0)⟩ :: ((r.Hm ++ (rtE rb root rt eb :: ecE eb zb :: zzE zb rb (max z np) :: r.Hs)) ++ ents (T0.map (NR.setPar (r.kids.take 0) b)))) (fun w1 hw1 => hw1.perm (.of_eq (by
        have e : T0.map (NR.setPar (r.kids.take 0) b) = T0 := by rw [List.take_zero]; conv => rhs; rw [← List.map_id T0]
                                                                 exact List.map_congr_left fun x _ => by simp [NR.setPar]
        rw [e]; simp [fr4]))) ?_
      refine GC.loopJ (fun N fr' H' => ∃ j, j + N = r.kids.length ∧ Sub [(0, Pt rb 0), (1, S meth), (3, .int .u8 (t : Int)), (9, Pt h 0), (11, Pt r.n 0), (12, S s), (13, I (s.length : Nat)), (15, I ((lcp s r.pre : Nat) : Int)), (17, Pt b 0), (182, .slice r.ad r.kids.length r.cp), (183, I (r.kids.length : Nat)), (184, I ((j : Nat) : Int))] fr' ∧ H' = ⟨b, true, .row (r.low b (lcp s r.pre)).row 146 (0, 0)⟩ :: rmE h hp pp pad np pcp :: ⟨r.n, true, .row r.row 146 (0, 0)⟩ :: ⟨r.m, true, .row r.mr 155 (0, 0)⟩ :: ((r.Hm ++ (rtE rb root rt eb :: ecE eb zb :: zzE zb rb (max z np) :: r.Hs)) ++ ents (T0.map (NR.setPar (r.kids.take j) b)))) r.kids.length
        ⟨0, by omega, .cons rfl (.cons rfl (.cons rfl (.cons rfl (.cons rfl (.cons rfl (.cons rfl (.cons rfl (.cons rfl (.cons rfl (.cons rfl (.cons rfl .nil))))))))))), rfl⟩ ?_
      rintro N3 fr' H' ⟨j, hj, hs, rfl⟩ ih3
      refine GC.weak hs ?_
      clear hs
      refine GC.seq ?_
      refine GC.reg ?_  -- region 28, router.go:308
      refine G.v (V.lt rfl rfl) rfl ?_
      refine G.nil ?_
      refine GC.seq ?_
      refine GC.condD rfl (fun h185 => ?_) (fun h185 => ?_)
      · refine GC.skip ?_
        refine GC.seq ?_
        refine GC.block ?_
        refine GC.seq ?_
        refine GC.reg ?_  -- region 29, router.go:308
        have hlt : j < r.kids.length := by omega
        obtain ⟨ab, spare, had, hHs⟩ := hro.arr hlt
        refine G.v (V.ia (i := j) Tryd.underlying144 Tryd.sizeOf136 (by rw [← had]; rfl) rfl hlt) rfl ?_
        refine G.v (V.ld (v := Pt r.kids[j] 0) Tryd.isAgg136 rfl (l := r.kids.map (Pt · 0) ++ spare) (wf := true) (T := 136) (fz := (0, 0)) (by rw [hHs]; simp) (by rw [nth_eq, Nat.zero_add, Nat.mul_one, List.getElem?_append_left (by simpa using hlt)]; simp [hlt])) rfl ?_
        refine G.v (V.asg rfl) rfl ?_
        refine G.nil ?_
        refine GC.reg ?_  -- region 30, router.go:309
        refine G.v (V.mv rfl) rfl ?_
        refine G.v (V.mv rfl) rfl ?_
        refine G.v (V.nc rfl) rfl ?_
        refine G.v (V.fa F146_1 rfl) rfl ?_
        obtain ⟨rc, hrc, hrn⟩ := hkidT r.kids[j] (.inl (List.getElem_mem hlt))
        refine G.stPar (X := (⟨b, true, .row (r.low b (lcp s r.pre)).row 146 (0, 0)⟩ :: rmE h hp pp pad np pcp :: ⟨r.n, true, .row r.row 146 (0, 0)⟩ :: ⟨r.m, true, .row r.mr 155 (0, 0)⟩ :: (r.Hm ++ (rtE rb root rt eb :: ecE eb zb :: zzE zb rb (max z np) :: r.Hs)))) (S := r.kids.take j) Tryd.sizeOf136 rfl rfl hnd0 hrc hrn rfl ?_
        refine G.nil ?_
        refine GC.inBlock ?_
        refine GC.reg ?_  -- region 31, router.go:308
        refine G.v (V.addI rfl rfl rfl (by omega) (by omega)) rfl ?_
        refine G.v (V.mv rfl) rfl ?_
        refine G.nil ?_
        have ek : r.kids.take j ++ [r.kids[j]] = r.kids.take (j + 1) := by rw [List.take_succ_eq_append_getElem hlt]
        exact ih3 (N3 - 1) _ _ (by omega) ⟨j + 1, by omega, .cons rfl (.cons rfl (.cons rfl (.cons rfl (.cons rfl (.cons rfl (.cons rfl (.cons rfl (.cons rfl (.cons rfl (.cons rfl (.cons rfl .nil))))))))))), by rw [← ek]; rfl⟩
      refine GC.exit rfl ?_
      have ek : r.kids.take j = r.kids := List.take_of_length_le (by omega)
      exact J4 _ _ ⟨.cons rfl (.cons rfl (.cons rfl (.cons rfl (.cons rfl (.cons rfl (.cons rfl (.cons rfl (.cons rfl .nil)))))))), by rw [ek]⟩
    rintro fr' H' ⟨hs, rfl⟩
    refine GC.weak hs ?_
    clear hs
    have hkidT : ∀ a, a ∈ r.kids ∨ r.pch = some a ∨ r.ach = some a → ∃ rc ∈ T0, rc.n = a := hkidT
    refine GC.seq ?_
    refine GC.seq ?_
    refine GC.reg ?_  -- region 32, router.go:311
    refine G.v (V.mv rfl) rfl ?_
    refine G.v (V.nc rfl) rfl ?_
    refine G.v (V.fa F146_2 rfl) rfl ?_
    refine G.v (V.ld Tryd.isAgg136 rfl (.tail _ (.tail _ (.head _))) rfl) rfl ?_
    refine G.v (V.neO Tryd.underlying136 rfl) rfl ?_
    refine G.nil ?_
    refine GC.join (fun fr' H' => Sub [(0, Pt rb 0), (1, S meth), (3, .int .u8 (t : Int)), (9, Pt h 0), (11, Pt r.n 0), (12, S s), (13, I (s.length : Nat)), (15, I ((lcp s r.pre : Nat) : Int)), (17, Pt b 0)] fr' ∧ H' = ⟨b, true, .row (r.low b (lcp s r.pre)).row 146 (0, 0)⟩ :: rmE h hp pp pad np pcp :: ⟨r.n, true, .row r.row 146 (0, 0)⟩ :: ⟨r.m, true, .row r.mr 155 (0, 0)⟩ :: ((r.Hm ++ (rtE rb root rt eb :: ecE eb zb :: zzE zb rb (max z np) :: r.Hs)) ++ ents (T0.map (NR.setPar (r.kids ++ r.pch.toList) b)))) (fun J197 => ?_) ?_
    · refine GC.cond rfl (fun h197 => ?_) (fun h197 => ?_)
      · obtain ⟨p, hpc⟩ := Option.isSome_iff_exists.1 h197
        obtain ⟨rc, hrc, hrn⟩ := hkidT p (.inr (.inl hpc))
        refine GC.reg ?_  -- region 33, router.go:312
        refine G.v (V.mv rfl) rfl ?_
        refine G.v (V.nc rfl) rfl ?_
        refine G.v (V.fa F146_2 rfl) rfl ?_
        refine G.v (V.ld (v := Pt p 0) Tryd.isAgg136 rfl (.tail _ (.tail _ (.head _))) (by show some (PO r.pch) = _; rw [hpc]; rfl)) rfl ?_
        refine G.v (V.mv rfl) rfl ?_
        refine G.v (V.nc rfl) rfl ?_
        refine G.v (V.fa F146_1 rfl) rfl ?_
        refine G.stPar (X := (⟨b, true, .row (r.low b (lcp s r.pre)).row 146 (0, 0)⟩ :: rmE h hp pp pad np pcp :: ⟨r.n, true, .row r.row 146 (0, 0)⟩ :: ⟨r.m, true, .row r.mr 155 (0, 0)⟩ :: (r.Hm ++ (rtE rb root rt eb :: ecE eb zb :: zzE zb rb (max z np) :: r.Hs)))) (S := r.kids) Tryd.sizeOf136 rfl rfl hnd0 hrc hrn rfl ?_
        refine G.nil ?_
        exact J197 _ _ ⟨.cons rfl (.cons rfl (.cons rfl (.cons rfl (.cons rfl (.cons rfl (.cons rfl (.cons rfl (.cons rfl .nil)))))))), by rw [hpc]; rfl⟩
      refine GC.skip ?_
      have hpn : r.pch = none := by cases hh : r.pch with | none => rfl | some _ => rw [hh] at h197; cases h197
      exact J197 _ _ ⟨.cons rfl (.cons rfl (.cons rfl (.cons rfl (.cons rfl (.cons rfl (.cons rfl (.cons rfl (.cons rfl .nil)))))))), by rw [hpn]; simp⟩
    rintro fr' H' ⟨hs, rfl⟩
    refine GC.weak hs ?_
    clear hs
    refine GC.seq ?_
    refine GC.seq ?_
    refine GC.reg ?_  -- region 34, router.go:314
    refine G.v (V.mv rfl) rfl ?_
    refine G.v (V.nc rfl) rfl ?_
    refine G.v (V.fa F146_3 rfl) rfl ?_
    refine G.v (V.ld Tryd.isAgg136 rfl (.tail _ (.tail _ (.head _))) rfl) rfl ?_
    refine G.v (V.neO Tryd.underlying136 rfl) rfl ?_
    refine G.nil ?_
    refine GC.join (fun fr' H' => Sub [(0, Pt rb 0), (1, S meth), (3, .int .u8 (t : Int)), (9, Pt h 0), (11, Pt r.n 0), (12, S s), (13, I (s.length : Nat)), (15, I ((lcp s r.pre : Nat) : Int)), (17, Pt b 0)] fr' ∧ H' = ⟨b, true, .row (r.low b (lcp s r.pre)).row 146 (0, 0)⟩ :: rmE h hp pp pad np pcp :: ⟨r.n, true, .row r.row 146 (0, 0)⟩ :: ⟨r.m, true, .row r.mr 155 (0, 0)⟩ :: ((r.Hm ++ (rtE rb root rt eb :: ecE eb zb :: zzE zb rb (max z np) :: r.Hs)) ++ ents (T0.map (NR.setPar (r.kids ++ r.pch.toList ++ r.ach.toList) b)))) (fun J209 => ?_) ?_
    · refine GC.cond rfl (fun h209 => ?_) (fun h209 => ?_)
      · obtain ⟨p, hpc⟩ := Option.isSome_iff_exists.1 h209
        obtain ⟨rc, hrc, hrn⟩ := hkidT p (.inr (.inr hpc))
        refine GC.reg ?_  -- region 35, router.go:315
        refine G.v (V.mv rfl) rfl ?_
        refine G.v (V.nc rfl) rfl ?_
        refine G.v (V.fa F146_3 rfl) rfl ?_
        refine G.v (V.ld (v := Pt p 0) Tryd.isAgg136 rfl (.tail _ (.tail _ (.head _))) (by show some (PO r.ach) = _; rw [hpc]; rfl)) rfl ?_
        refine G.v (V.mv rfl) rfl ?_
        refine G.v (V.nc rfl) rfl ?_
        refine G.v (V.fa F146_1 rfl) rfl ?_
        refine G.stPar (X := (⟨b, true, .row (r.low b (lcp s r.pre)).row 146 (0, 0)⟩ :: rmE h hp pp pad np pcp :: ⟨r.n, true, .row r.row 146 (0, 0)⟩ :: ⟨r.m, true, .row r.mr 155 (0, 0)⟩ :: (r.Hm ++ (rtE rb root rt eb :: ecE eb zb :: zzE zb rb (max z np) :: r.Hs)))) (S := r.kids ++ r.pch.toList) Tryd.sizeOf136 rfl rfl hnd0 hrc hrn rfl ?_
        refine G.nil ?_
        exact J209 _ _ ⟨.cons rfl (.cons rfl (.cons rfl (.cons rfl (.cons rfl (.cons rfl (.cons rfl (.cons rfl (.cons rfl .nil)))))))), by rw [hpc]; rfl⟩
      refine GC.skip ?_
      have hpn : r.ach = none := by cases hh : r.ach with | none => rfl | some _ => rw [hh] at h209; cases h209
      exact J209 _ _ ⟨.cons rfl (.cons rfl (.cons rfl (.cons rfl (.cons rfl (.cons rfl (.cons rfl (.cons rfl (.cons rfl .nil)))))))), by rw [hpn]; simp⟩
    rintro fr' H' ⟨hs, rfl⟩
    refine GC.weak hs ?_
    clear hs
    refine GC.seq ?_
    refine GC.reg ?_  -- region 36, router.go:319
    refine G.v (V.mv rfl) rfl ?_
    refine G.v (V.nc rfl) rfl ?_
    refine G.v (V.fa F146_10 rfl) rfl ?_
    refine G.st Tryd.sizeOf141 rfl rfl rfl (.s (.s .z)) rfl rfl ?_
    refine G.nil ?_
    refine GC.seq ?_
    refine GC.reg ?_  -- region 37, router.go:320
    refine G.v (V.mv rfl) rfl ?_
    refine G.v (V.mv rfl) rfl ?_
    refine G.v (V.nc rfl) rfl ?_
    refine G.v (V.fa F146_5 rfl) rfl ?_
    refine G.v (V.ld Tryd.isAgg9 rfl (.tail _ (.tail _ (.head _))) rfl) rfl ?_
    refine G.v (V.idx (i := 0) (b := r.pre.headD 0) Tryd.underlying9 rfl rfl hp0) rfl ?_
    refine G.v (V.nc rfl) rfl ?_
    refine G.v (V.fa F146_9 rfl) rfl ?_
    refine G.st Tryd.sizeOf5 rfl rfl rfl (.s (.s .z)) rfl rfl ?_
    refine G.nil ?_
    refine GC.seq ?_
    refine GC.reg ?_  -- region 38, router.go:321
    refine G.v (V.mv rfl) rfl ?_
    refine G.v (V.mv rfl) rfl ?_
    refine G.v (V.nc rfl) rfl ?_
    refine G.v (V.fa F146_5 rfl) rfl ?_
    refine G.v (V.ld Tryd.isAgg9 rfl (.tail _ (.tail _ (.head _))) rfl) rfl ?_
    refine G.v (V.mv rfl) rfl ?_
    refine G.v (V.slH Tryd.underlying9 rfl rfl (Nat.le_of_lt hl)) rfl ?_
    refine G.v (V.nc rfl) rfl ?_
    refine G.v (V.fa F146_5 rfl) rfl ?_
    refine G.st Tryd.sizeOf9 rfl rfl rfl (.s (.s .z)) rfl rfl ?_
    refine G.nil ?_
    refine GC.seq ?_
    refine GC.reg ?_  -- region 39, router.go:322
    refine G.v (V.mv rfl) rfl ?_
    refine G.v (V.nc rfl) rfl ?_
    refine G.v (V.fa F146_7 rfl) rfl ?_
    refine G.st Tryd.sizeOf144 rfl rfl rfl (.s (.s .z)) rfl rfl ?_
    refine G.nil ?_
    refine GC.seq ?_
    refine GC.reg ?_  -- region 40, router.go:323
    refine G.v (V.mv rfl) rfl ?_
    refine G.v (V.nc rfl) rfl ?_
    refine G.v (V.fa F146_6 rfl) rfl ?_
    refine G.st (v := S []) Tryd.sizeOf9 rfl rfl rfl (.s (.s .z)) rfl rfl ?_
    refine G.nil ?_
    refine GC.seq ?_
    refine GC.reg ?_  -- region 41, router.go:324
    refine G.v (V.mv rfl) rfl ?_
    refine G.al Tryd.zeroValue155 rfl rfl (fun m2 hm2 => ?_)
    refine G.v (V.nc rfl) rfl ?_
    refine G.v (V.fa F146_0 rfl) rfl ?_
    refine G.st Tryd.sizeOf142 rfl rfl rfl (.s (.s (.s .z))) rfl rfl ?_
    refine G.nil ?_
    refine GC.seq ?_
    refine GC.reg ?_  -- region 42, router.go:325
    refine G.v (V.mv rfl) rfl ?_
    refine G.v (V.nc rfl) rfl ?_
    refine G.v (V.fa F146_8 rfl) rfl ?_
    refine G.st Tryd.sizeOf3 rfl rfl rfl (.s (.s (.s .z))) rfl rfl ?_
    refine G.nil ?_
    refine GC.seq ?_
    refine GC.reg ?_  -- region 43, router.go:326
    refine G.v (V.mv rfl) rfl ?_
    refine G.v (V.nc rfl) rfl ?_
    refine G.v (V.fa F146_2 rfl) rfl ?_
    refine G.st Tryd.sizeOf136 rfl rfl rfl (.s (.s (.s .z))) rfl rfl ?_
    refine G.nil ?_
    refine GC.seq ?_
    refine GC.reg ?_  -- region 44, router.go:327
    refine G.v (V.mv rfl) rfl ?_
    refine G.v (V.nc rfl) rfl ?_
    refine G.v (V.fa F146_3 rfl) rfl ?_
    refine G.st Tryd.sizeOf136 rfl rfl rfl (.s (.s (.s .z))) rfl rfl ?_
    refine G.nil ?_
    refine GC.seq ?_
    refine GC.reg ?_  -- region 45, router.go:328
    refine G.v (V.mv rfl) rfl ?_
    refine G.v (V.nc rfl) rfl ?_
    refine G.v (V.fa F146_11 rfl) rfl ?_
    refine G.st Tryd.sizeOf4 rfl rfl rfl (.s (.s (.s .z))) rfl rfl ?_
    refine G.nil ?_
    refine GC.seq ?_
    refine GC.reg ?_  -- region 46, router.go:329
    refine G.v (V.mv rfl) rfl ?_
    refine G.v (V.nc rfl) rfl ?_
    refine G.v (V.fa F146_12 rfl) rfl ?_
    refine G.st Tryd.sizeOf4 rfl rfl rfl (.s (.s (.s .z))) rfl rfl ?_
    refine G.nil ?_
    refine GC.seq ?_
    refine GC.reg ?_  -- region 47, router.go:330
    refine G.v (V.mv rfl) rfl ?_
    refine G.v (V.nc rfl) rfl ?_
    refine G.v (V.fa F146_4 rfl) rfl ?_
    refine G.st Tryd.sizeOf140 rfl rfl rfl (.s (.s (.s .z))) rfl rfl ?_
    refine G.nil ?_
    refine GC.seq ?_
    refine GC.reg ?_  -- region 48, router.go:333
    refine G.v (V.mv rfl) rfl ?_
    refine G.v (V.mv rfl) rfl ?_
    refine G.addSt (r.top m2 (lcp s r.pre) [] none 0 []) (B := B + 1) (ch := b) (Q := ⟨m2, true, .row (mrow (fun _ => none) none []) 155 (0, 0)⟩ :: ⟨b, true, .row (r.low b (lcp s r.pre)).row 146 (0, 0)⟩ :: rmE h hp pp pad np pcp :: ⟨r.m, true, .row r.mr 155 (0, 0)⟩ :: ((r.Hm ++ (rtE rb root rt eb :: ecE eb zb :: zzE zb rb (max z np) :: r.Hs)) ++ ents (T0.map (NR.setPar (r.kids ++ r.pch.toList ++ r.ach.toList) b)))) ⟨.nil, .nil, fun _ => rfl, Nat.zero_le _, ⟨fun _ h => (by cases h), .nil⟩, Nat.zero_le _⟩ (by omega) ?_ rfl rfl rfl (fun ad1 cp1 Hs1 hown1 => ?_)
    · exact List.perm_middle (l₁ := [⟨m2, true, .row (mrow (fun _ => none) none []) 155 (0, 0)⟩, ⟨b, true, .row (r.low b (lcp s r.pre)).row 146 (0, 0)⟩, rmE h hp pp pad np pcp])
    refine G.nil ?_
    refine GC.seq ?_
    refine GC.seq ?_
    generalize hTL : (r.low b (lcp s r.pre) :: T0.map (NR.setPar (r.kids ++ r.pch.toList ++ r.ach.toList) b)) = TL
    have hTLok : ∀ x ∈ TL, x.ok (B + 2) := by
      intro x hx1
      rw [← hTL] at hx1
      rcases List.mem_cons.1 hx1 with rfl | hx1
      · exact hro.low.mono (by omega)
      · obtain ⟨y, hy, rfl⟩ := List.mem_map.1 hx1
        exact (hok y (hT0 y hy)).setPar.mono (by omega)
    refine GC.turn (H' := rmE h hp pp pad np pcp :: fr4 r.n m2 (r.top m2 (lcp s r.pre) [b] ad1 cp1 Hs1) (rtE rb root rt eb :: ecE eb zb :: zzE zb rb (max z np) :: (Hs1 ++ ents TL))) (fun w1 hw1 => hw1.perm ?_) ?_
    · have e1 := ents_cons' (r := r.low b (lcp s r.pre)) (n := b) (m := r.m) (Hs := r.Hs) (T := T0.map (NR.setPar (r.kids ++ r.pch.toList ++ r.ach.toList) b)) rfl rfl rfl
      have p := perm_idx [[⟨r.n, true, .row (r.top m2 (lcp s r.pre) [b] ad1 cp1 Hs1).row 146 (0, 0)⟩], Hs1, [⟨m2, true, .row (mrow (fun _ => none) none []) 155 (0, 0)⟩], [⟨b, true, .row (r.low b (lcp s r.pre)).row 146 (0, 0)⟩], [rmE h hp pp pad np pcp], [⟨r.m, true, .row r.mr 155 (0, 0)⟩], r.Hm, [rtE rb root rt eb, ecE eb zb, zzE zb rb (max z np)], r.Hs, ents (T0.map (NR.setPar (r.kids ++ r.pch.toList ++ r.ach.toList) b))] [0, 1, 2, 3, 4, 5, 6, 7, 8, 9] [4, 0, 2, 7, 1, 3, 5, 6, 8, 9] (by decide)
      refine List.Perm.trans (.of_eq ?_) (p.trans (.of_eq ?_))
      · simp [NR.top]
      · rw [← hTL, e1]; simp [fr4, NR.low, NR.top, NR.mr]
    refine GC.reg ?_  -- region 49, router.go:335
    refine G.v (V.mv rfl) rfl ?_
    refine G.v (V.mv rfl) rfl ?_
    refine G.v (V.eqI rfl rfl) rfl ?_
    refine G.nil ?_
    refine GC.join (fun fr' H' => Sub [(0, Pt rb 0), (1, S meth), (3, .int .u8 (t : Int)), (9, Pt h 0), (11, Pt r.n 0)] fr' ∧ ∃ r2 TL2, (∀ r3, r3 = r2.reLeaf → Ins T h hp meth t np pp r.n s (r3 :: TL2)) ∧ r2.ok (B + 2) ∧ (∀ x ∈ TL2, x.ok (B + 2)) ∧ r2.n = r.n ∧ r2.m = m2 ∧ H' = rmE h hp pp pad np pcp :: fr4 r.n m2 r2 (rtE rb root rt eb :: ecE eb zb :: zzE zb rb (max z np) :: (r2.Hs ++ ents TL2))) (fun J270 => ?_) ?_
    · refine GC.condD rfl (fun h270 => ?_) (fun h270 => ?_)
      · refine GC.seq ?_
        refine GC.reg ?_  -- region 50, router.go:337
        refine G.v (V.mv rfl) rfl ?_
        refine G.v (V.mv rfl) rfl ?_
        refine G.v (V.nc rfl) rfl ?_
        refine G.v (V.fa F146_10 rfl) rfl ?_
        refine G.st Tryd.sizeOf141 rfl rfl rfl (.s .z) rfl rfl ?_
        refine G.nil ?_
        refine GC.seq ?_
        refine GC.reg ?_  -- region 51, router.go:338
        refine G.v (V.fa F152_0 rfl) rfl ?_
        refine G.v (V.ld Tryd.isAgg95 rfl (.head _) rfl) rfl ?_
        refine G.v (V.neO Tryd.underlying95 rfl) rfl ?_
        refine G.nil ?_
        refine GC.join (fun fr' H' => Sub [(0, Pt rb 0), (1, S meth), (3, .int .u8 (t : Int)), (9, Pt h 0), (11, Pt r.n 0)] fr' ∧ ∃ r1 r3, AddO h hp meth ({ r.top m2 (lcp s r.pre) [b] ad1 cp1 Hs1 with kd := t }) r1 ∧ r3 = r1.po hp np pp ∧ H' = rmE h hp pp pad np pcp :: fr4 r.n m2 r3 (rtE rb root rt eb :: ecE eb zb :: zzE zb rb (max z np) :: (Hs1 ++ ents TL))) (fun J277 => ?_) ?_
        · refine GC.cond rfl (fun h277 => ?_) (fun h277 => ?_)
          · refine GC.seq ?_
            refine GC.reg ?_  -- region 52, router.go:339
            refine G.v (V.mv rfl) rfl ?_
            refine G.v (V.mv rfl) rfl ?_
            refine G.addM ({ r.top m2 (lcp s r.pre) [b] ad1 cp1 Hs1 with kd := t }) (B := B + 1) (⟨.nil, hown1, fun h => (by cases h), Nat.zero_le _, ⟨fun _ h => (by cases h), .nil⟩, by simp [NR.top]⟩) (by omega) hml h277 rfl rfl rfl rfl (fun r1 ha => ?_)
            refine G.nil ?_
            refine GC.seq ?_
            refine GC.reg ?_  -- region 53, router.go:340
            refine G.v (V.mv rfl) rfl ?_
            refine G.v (V.fa F152_2 rfl) rfl ?_
            refine G.v (V.ld Tryd.isAgg24 rfl (.head _) rfl) rfl ?_
            refine G.v (V.lenL Tryd.underlying24 rfl) rfl ?_
            refine G.v (V.nc rfl) rfl ?_
            refine G.v (V.fa F146_8 rfl) rfl ?_
            refine G.st Tryd.sizeOf3 rfl rfl rfl (.s .z) rfl rfl ?_
            refine G.nil ?_
            refine GC.reg ?_  -- region 54, router.go:341
            refine G.v (V.mv rfl) rfl ?_
            refine G.v (V.fa F152_1 rfl) rfl ?_
            refine G.v (V.ld Tryd.isAgg9 rfl (.head _) rfl) rfl ?_
            refine G.v (V.nc rfl) rfl ?_
            refine G.v (V.fa F146_6 rfl) rfl ?_
            refine G.st Tryd.sizeOf9 rfl rfl rfl (.s .z) rfl rfl ?_
            refine G.nil ?_
            exact J277 _ _ ⟨.cons rfl (.cons rfl (.cons rfl (.cons rfl (.cons rfl .nil)))), r1, _, .inr ⟨h277, ha⟩, rfl, by rw [NR.po, if_pos h277]; rfl⟩
          refine GC.skip ?_
          exact J277 _ _ ⟨.cons rfl (.cons rfl (.cons rfl (.cons rfl (.cons rfl .nil)))), { r.top m2 (lcp s r.pre) [b] ad1 cp1 Hs1 with kd := t }, _, .inl ⟨by simpa using h277, rfl⟩, rfl, by rw [NR.po, h277]; rfl⟩
        rintro fr' H' ⟨hs, r1, r3, ha, hr3, rfl⟩
        refine GC.weak hs ?_
        clear hs
        have hokk : NR.ok (B + 1) ({ r.top m2 (lcp s r.pre) [b] ad1 cp1 Hs1 with kd := t }) := ⟨.nil, hown1, fun h => (by cases h), Nat.zero_le _, ⟨fun _ h => (by cases h), .nil⟩, by simp [NR.top]⟩
        have e3 : r3.Hs = Hs1 := by rw [hr3, NR.po_Hs, ha.Hs]; rfl
        refine J270 _ _ ⟨.cons rfl (.cons rfl (.cons rfl (.cons rfl (.cons rfl .nil)))), r3, TL, ?_, hr3 ▸ (ha.ok hokk hml).po, hTLok, by rw [hr3, NR.po_n, ha.n]; rfl, by rw [hr3, NR.po_m, ha.m]; rfl, by rw [e3]⟩
        intro r4 hr4
        rw [hr4, hr3, ← hTL]
        exact .split hT h0 hl (by omega) hown1 ha
      refine GC.seq ?_
      obtain ⟨y, ys, hy⟩ : ∃ y ys, s.drop (lcp s r.pre) = y :: ys := by
        cases hy : s.drop (lcp s r.pre) with
        | nil => have := congrArg List.length hy; simp at this; omega
        | cons y ys => exact ⟨y, ys, rfl⟩
      refine GC.reg ?_  -- region 55, router.go:345
      refine G.v (V.mv rfl) rfl ?_
      refine G.v (V.mv rfl) rfl ?_
      refine G.v (V.mv rfl) rfl ?_
      refine G.v (V.slL Tryd.underlying9 rfl rfl (by omega)) rfl ?_
      refine G.v (V.mv rfl) rfl ?_
      refine G.al Tryd.zeroValue155 rfl rfl (fun m3 hm3 => ?_)
      refine G.callN (vs := [.int .u8 (t : Int), S (y :: ys), PO (some r.n), .slice none 0 0, S [], Pt m3 0, I 0, PO none, PO none, PO none]) Tryd.call140 (by rw [← hy]; rfl) rfl (fun w1 hw1 => f140_any w1 t y ys [] (some r.n) none none none none 0 0 m3 0 (fun _ => none) none [] (fun i hi => cell_row hw1 (.head _) (mrow_nth (f := fun _ => none) (mp := none) (hdr := []) hi)) (cell_row hw1 (.head _) rfl) rfl) (fun b2 hb2 => ?_)
      refine G.v (V.asg rfl) rfl ?_
      refine G.nil ?_
      refine GC.seq ?_
      refine GC.seq ?_
      refine GC.turn (H' := rmE h hp pp pad np pcp :: fr4 b2 m3 (newN b2 m3 r.n (s.drop (lcp s r.pre)) [] t) (⟨r.n, true, .row (r.top m2 (lcp s r.pre) [b] ad1 cp1 Hs1).row 146 (0, 0)⟩ :: ⟨m2, true, .row (mrow (fun _ => none) none []) 155 (0, 0)⟩ :: rtE rb root rt eb :: ecE eb zb :: zzE zb rb (max z np) :: (Hs1 ++ ents TL))) (fun w1 hw1 => HF.perm (H := ⟨b2, true, .row (newN b2 m3 r.n (y :: ys) [] t).row 146 (0, 0)⟩ :: ⟨m3, true, .row (newN b2 m3 r.n (y :: ys) [] t).mr 155 (0, 0)⟩ :: rmE h hp pp pad np pcp :: fr4 r.n m2 (r.top m2 (lcp s r.pre) [b] ad1 cp1 Hs1) (rtE rb root rt eb :: ecE eb zb :: zzE zb rb (max z np) :: (Hs1 ++ ents TL))) hw1 ?_) ?_
      · rw [hy]; exact (List.perm_middle (l₁ := [(⟨b2, true, .row (newN b2 m3 r.n (y :: ys) [] t).row 146 (0, 0)⟩ : Ent), ⟨m3, true, .row (newN b2 m3 r.n (y :: ys) [] t).mr 155 (0, 0)⟩]))
      refine GC.reg ?_  -- region 56, router.go:346
      refine G.v (V.fa F152_0 rfl) rfl ?_
      refine G.v (V.ld Tryd.isAgg95 rfl (.head _) rfl) rfl ?_
      refine G.v (V.neO Tryd.underlying95 rfl) rfl ?_
      refine G.nil ?_
      refine GC.join (fun fr' H' => Sub [(0, Pt rb 0), (1, S meth), (3, .int .u8 (t : Int)), (9, Pt h 0), (11, Pt r.n 0), (17, Pt b2 0)] fr' ∧ ∃ r1 r3, AddO h hp meth ((newN b2 m3 r.n (s.drop (lcp s r.pre)) [] t)) r1 ∧ r3 = r1.po hp np pp ∧ H' = rmE h hp pp pad np pcp :: fr4 b2 m3 r3 (⟨r.n, true, .row (r.top m2 (lcp s r.pre) [b] ad1 cp1 Hs1).row 146 (0, 0)⟩ :: ⟨m2, true, .row (mrow (fun _ => none) none []) 155 (0, 0)⟩ :: rtE rb root rt eb :: ecE eb zb :: zzE zb rb (max z np) :: (Hs1 ++ ents TL))) (fun J301 => ?_) ?_
      · refine GC.cond rfl (fun h301 => ?_) (fun h301 => ?_)
        · refine GC.seq ?_
          refine GC.reg ?_  -- region 57, router.go:347
          refine G.v (V.mv rfl) rfl ?_
          refine G.v (V.mv rfl) rfl ?_
          refine G.addM ((newN b2 m3 r.n (s.drop (lcp s r.pre)) [] t)) (B := B + 1) (newN_ok) (by omega) hml h301 rfl rfl rfl rfl (fun r1 ha => ?_)
          refine G.nil ?_
          refine GC.seq ?_
          refine GC.reg ?_  -- region 58, router.go:348
          refine G.v (V.mv rfl) rfl ?_
          refine G.v (V.fa F152_2 rfl) rfl ?_
          refine G.v (V.ld Tryd.isAgg24 rfl (.head _) rfl) rfl ?_
          refine G.v (V.lenL Tryd.underlying24 rfl) rfl ?_
          refine G.v (V.nc rfl) rfl ?_
          refine G.v (V.fa F146_8 rfl) rfl ?_
          refine G.st Tryd.sizeOf3 rfl rfl rfl (.s .z) rfl rfl ?_
          refine G.nil ?_
          refine GC.reg ?_  -- region 59, router.go:349
          refine G.v (V.mv rfl) rfl ?_
          refine G.v (V.fa F152_1 rfl) rfl ?_
          refine G.v (V.ld Tryd.isAgg9 rfl (.head _) rfl) rfl ?_
          refine G.v (V.nc rfl) rfl ?_
          refine G.v (V.fa F146_6 rfl) rfl ?_
          refine G.st Tryd.sizeOf9 rfl rfl rfl (.s .z) rfl rfl ?_
          refine G.nil ?_
          exact J301 _ _ ⟨.cons rfl (.cons rfl (.cons rfl (.cons rfl (.cons rfl (.cons rfl .nil))))), r1, _, .inr ⟨h301, ha⟩, rfl, by rw [NR.po, if_pos h301]; rfl⟩
        refine GC.skip ?_
        exact J301 _ _ ⟨.cons rfl (.cons rfl (.cons rfl (.cons rfl (.cons rfl (.cons rfl .nil))))), (newN b2 m3 r.n (s.drop (lcp s r.pre)) [] t), _, .inl ⟨by simpa using h301, rfl⟩, rfl, by rw [NR.po, h301]; rfl⟩
      rintro fr' H' ⟨hs, r1, r3, ha, hr3, rfl⟩
      refine GC.weak hs ?_
      clear hs
      refine GC.reg ?_  -- region 60, router.go:352
      refine G.v (V.mv rfl) rfl ?_
      refine G.v (V.mv rfl) rfl ?_
      refine G.addSt (r.top m2 (lcp s r.pre) [b] ad1 cp1 Hs1) (B := B + 1) (ch := b2) (Q := rmE h hp pp pad np pcp :: ⟨b2, true, .row r3.row 146 (0, 0)⟩ :: ⟨m3, true, .row r3.mr 155 (0, 0)⟩ :: (r3.Hm ++ (⟨m2, true, .row (mrow (fun _ => none) none []) 155 (0, 0)⟩ :: rtE rb root rt eb :: ecE eb zb :: zzE zb rb (max z np) :: ents TL))) (NR.top_ok hown1 (by omega)) (by omega) ?_ rfl rfl rfl (fun ad2 cp2 Hs2 hown2 => ?_)
      · have p := perm_idx [[rmE h hp pp pad np pcp, ⟨b2, true, .row r3.row 146 (0, 0)⟩, ⟨m3, true, .row r3.mr 155 (0, 0)⟩], r3.Hm, [⟨r.n, true, .row (r.top m2 (lcp s r.pre) [b] ad1 cp1 Hs1).row 146 (0, 0)⟩], [⟨m2, true, .row (mrow (fun _ => none) none []) 155 (0, 0)⟩, rtE rb root rt eb, ecE eb zb, zzE zb rb (max z np)], Hs1, ents TL] [0, 1, 2, 3, 4, 5] [2, 4, 0, 1, 3, 5] (by decide)
        refine List.Perm.trans (.of_eq ?_) (p.trans (.of_eq ?_))
        · simp [fr4]
        · simp [NR.top]
      refine G.nil ?_
      have hn1 : r3.n = b2 := by rw [hr3, NR.po_n, ha.n]; rfl
      have hn2 : r3.m = m3 := by rw [hr3, NR.po_m, ha.m]; rfl
      have hn3 : r3.Hs = [] := by rw [hr3, NR.po_Hs, ha.Hs]; rfl
      refine GC.turn (H' := rmE h hp pp pad np pcp :: fr4 r.n m2 (r.top m2 (lcp s r.pre) [b, b2] ad2 cp2 Hs2) (rtE rb root rt eb :: ecE eb zb :: zzE zb rb (max z np) :: (Hs2 ++ ents (r3 :: TL)))) (fun w1 hw1 => hw1.perm ?_) (J270 _ _ ⟨.cons rfl (.cons rfl (.cons rfl (.cons rfl (.cons rfl .nil)))), (r.top m2 (lcp s r.pre) [b, b2] ad2 cp2 Hs2), r3 :: TL, ?_, ?_, ?_, rfl, rfl, rfl⟩)
      · have p := perm_idx [[⟨r.n, true, .row (r.top m2 (lcp s r.pre) [b, b2] ad2 cp2 Hs2).row 146 (0, 0)⟩], Hs2, [rmE h hp pp pad np pcp], [⟨b2, true, .row r3.row 146 (0, 0)⟩], [⟨m3, true, .row r3.mr 155 (0, 0)⟩], r3.Hm, [⟨m2, true, .row (mrow (fun _ => none) none []) 155 (0, 0)⟩], [rtE rb root rt eb, ecE eb zb, zzE zb rb (max z np)], ents TL] [0, 1, 2, 3, 4, 5, 6, 7, 8] [2, 0, 6, 7, 1, 3, 4, 5, 8] (by decide)
        refine List.Perm.trans (.of_eq ?_) (p.trans (.of_eq ?_))
        · simp [NR.top]
        · rw [ents_cons' hn1 hn2 hn3]; simp [fr4, NR.top, NR.mr]
      · intro r4 hr4
        rw [hr4, hr3, ← hTL]
        exact .split2 hT h0 hl (by omega) hown2 ha
      · exact NR.top_ok2 hown2 (by omega)
      · intro x hx1
        rcases List.mem_cons.1 hx1 with rfl | hx1
        · rw [hr3]; exact (ha.ok (B := B) newN_ok hml).po.mono (by omega)
        · exact hTLok x hx1
    rintro fr' H' ⟨hs, r2, TL2, hIn2, hok2, hokT, e1, e2, rfl⟩
    refine GC.weak hs ?_
    clear hs
    have hiso2 := hok2.iso
    refine GC.join (fun fr' H' => H' = rmE h hp pp pad np pcp :: ⟨r.n, true, .row r2.reLeaf.row 146 (0, 0)⟩ :: ⟨m2, true, .row r2.mr 155 (0, 0)⟩ :: (r2.Hm ++ (rtE rb root rt eb :: ecE eb zb :: zzE zb rb (max z np) :: (r2.Hs ++ ents TL2)))) (fun J61 => ?_) ?_
    · refine GC.reg ?_  -- region 61, router.go:354
      refine G.v (V.mv rfl) rfl ?_
      refine G.v (V.mv rfl) rfl ?_
      refine G.v (V.nc rfl) rfl ?_
      refine G.v (V.fa F146_7 rfl) rfl ?_
      refine G.v (V.ld Tryd.isAgg144 rfl (.tail _ (.head _)) rfl) rfl ?_
      refine G.v (V.eqL Tryd.underlying144 rfl) rfl ?_
      refine G.v (V.mv rfl) rfl ?_
      refine G.bc 325 rfl (fun h325 => ?_) (fun h325 => ?_)
      · refine G.vg rfl rfl (V.mv rfl) rfl ?_
        refine G.vg rfl rfl (V.nc rfl) rfl ?_
        refine G.vg rfl rfl (V.fa F146_2 rfl) rfl ?_
        refine G.vg rfl rfl (V.ld Tryd.isAgg136 rfl (.tail _ (.head _)) rfl) rfl ?_
        refine G.vg rfl rfl (V.eqO Tryd.underlying136 rfl) rfl ?_
        refine G.v (V.pickT rfl rfl) rfl ?_
        refine G.v (V.mv rfl) rfl ?_
        refine G.bc 332 rfl (fun h332 => ?_) (fun h332 => ?_)
        · refine G.vg rfl rfl (V.mv rfl) rfl ?_
          refine G.vg rfl rfl (V.nc rfl) rfl ?_
          refine G.vg rfl rfl (V.fa F146_3 rfl) rfl ?_
          refine G.vg rfl rfl (V.ld Tryd.isAgg136 rfl (.tail _ (.head _)) rfl) rfl ?_
          refine G.vg rfl rfl (V.eqO Tryd.underlying136 rfl) rfl ?_
          refine G.v (V.pickT rfl rfl) rfl ?_
          refine G.v (V.nc rfl) rfl ?_
          refine G.v (V.fa F146_11 rfl) rfl ?_
          refine G.st Tryd.sizeOf4 rfl rfl rfl (.s .z) rfl rfl ?_
          refine G.nil ?_
          have el : r2.ach.isNone = (r2.kids.isEmpty && r2.pch.isNone && r2.ach.isNone) := by rw [← hiso2, h325, h332]; rfl
          exact J61 _ _ (congrArg (fun x => rmE h hp pp pad np pcp :: ⟨r.n, true, .row x 146 (0, 0)⟩ :: ⟨m2, true, .row r2.mr 155 (0, 0)⟩ :: (r2.Hm ++ (rtE rb root rt eb :: ecE eb zb :: zzE zb rb (max z np) :: (r2.Hs ++ ents TL2)))) (reLeaf_row el))
        · refine G.sg rfl rfl rfl rfl rfl rfl ?_
          refine G.sg rfl rfl rfl rfl rfl rfl ?_
          refine G.sg rfl rfl rfl rfl rfl rfl ?_
          refine G.sg rfl rfl rfl rfl rfl rfl ?_
          refine G.sg rfl rfl rfl rfl rfl rfl ?_
          refine G.v (V.pickF rfl rfl) rfl ?_
          refine G.v (V.nc rfl) rfl ?_
          refine G.v (V.fa F146_11 rfl) rfl ?_
          refine G.st Tryd.sizeOf4 rfl rfl rfl (.s .z) rfl rfl ?_
          refine G.nil ?_
          have el : false = (r2.kids.isEmpty && r2.pch.isNone && r2.ach.isNone) := by rw [← hiso2, h325, h332]; rfl
          exact J61 _ _ (congrArg (fun x => rmE h hp pp pad np pcp :: ⟨r.n, true, .row x 146 (0, 0)⟩ :: ⟨m2, true, .row r2.mr 155 (0, 0)⟩ :: (r2.Hm ++ (rtE rb root rt eb :: ecE eb zb :: zzE zb rb (max z np) :: (r2.Hs ++ ents TL2)))) (reLeaf_row el))
      · refine G.sg rfl rfl rfl rfl rfl rfl ?_
        refine G.sg rfl rfl rfl rfl rfl rfl ?_
        refine G.sg rfl rfl rfl rfl rfl rfl ?_
        refine G.sg rfl rfl rfl rfl rfl rfl ?_
        refine G.sg rfl rfl rfl rfl rfl rfl ?_
        refine G.v (V.pickF rfl rfl) rfl ?_
        refine G.v (V.mv rfl) rfl ?_
        refine G.sg rfl rfl rfl rfl rfl rfl ?_
        refine G.sg rfl rfl rfl rfl rfl rfl ?_
        refine G.sg rfl rfl rfl rfl rfl rfl ?_
        refine G.sg rfl rfl rfl rfl rfl rfl ?_
        refine G.sg rfl rfl rfl rfl rfl rfl ?_
        refine G.v (V.pickF rfl rfl) rfl ?_
        refine G.v (V.nc rfl) rfl ?_
        refine G.v (V.fa F146_11 rfl) rfl ?_
        refine G.st Tryd.sizeOf4 rfl rfl rfl (.s .z) rfl rfl ?_
        refine G.nil ?_
        have el : false = (r2.kids.isEmpty && r2.pch.isNone && r2.ach.isNone) := by rw [← hiso2, h325]; rfl
        exact J61 _ _ (congrArg (fun x => rmE h hp pp pad np pcp :: ⟨r.n, true, .row x 146 (0, 0)⟩ :: ⟨m2, true, .row r2.mr 155 (0, 0)⟩ :: (r2.Hm ++ (rtE rb root rt eb :: ecE eb zb :: zzE zb rb (max z np) :: (r2.Hs ++ ents TL2)))) (reLeaf_row el))
    rintro fr' H' rfl
    refine GC.ret0 rfl fun w' hw' => ⟨rfl, h, r2.reLeaf :: TL2, hIns _ (hIn2 _ rfl), ?_, hw'.perm (foc_out (r := r2.reLeaf) e1 e2 rfl)⟩
    intro x hx
    rcases List.mem_cons.1 hx with rfl | hx
    · exact hok2.reLeaf
    · exact hokT x hx
  refine GC.seq ?_
  have hl : lcp s r.pre = r.pre.length := by omega
  have h0 : r.pre ≠ [] := fun e => by rw [e, lcp_nil_r] at h83; exact h83 rfl
  refine GC.reg ?_  -- region 62, router.go:355
  refine G.v (V.mv rfl) rfl ?_
  refine G.v (V.mv rfl) rfl ?_
  refine G.v (V.lt rfl rfl) rfl ?_
  refine G.nil ?_
  refine GC.condD rfl (fun h343 => ?_) (fun h343 => ?_)
  · refine GC.seq ?_
    have hlt : r.pre.length < s.length := by omega
    have hsd : (s.drop (lcp s r.pre))[0]? = some ((s.drop (lcp s r.pre)).headD 0) := by
      cases hy : s.drop (lcp s r.pre) with
      | nil => have := congrArg List.length hy; simp at this; omega
      | cons y ys => rfl
    refine GC.reg ?_  -- region 63, router.go:356
    refine G.v (V.mv rfl) rfl ?_
    refine G.v (V.mv rfl) rfl ?_
    refine G.v (V.slL Tryd.underlying9 rfl rfl (by omega)) rfl ?_
    refine G.v (V.asg rfl) rfl ?_
    refine G.nil ?_
    refine GC.seq ?_
    refine GC.reg ?_  -- region 64, router.go:357
    refine G.v (V.mv rfl) rfl ?_
    refine G.v (V.mv rfl) rfl ?_
    refine G.v (V.idx (i := 0) (b := (s.drop (lcp s r.pre)).headD 0) Tryd.underlying9 rfl rfl hsd) rfl ?_
    refine G.callP Tryd.call142 rfl rfl (fun w1 hw1 => f142_any w1 r.n ((s.drop (lcp s r.pre)).headD 0) r.ad r.cp (r.kids.map fun a => (a, lbl T a)) r.pch r.ach (by rw [List.length_map]; exact cell_row hw1 hrow rfl) (by rw [List.length_map]; omega) (kid_facts hw1 (fun e he => .tail _ (.tail _ (.tail _ (.tail _ he)))) hcl hro hr) (cell_row hw1 hrow rfl) (cell_row hw1 hrow rfl)) ?_
    refine G.v (V.asg rfl) rfl ?_
    refine G.nil ?_
    refine GC.seq ?_
    refine GC.seq ?_
    refine GC.reg ?_  -- region 65, router.go:358
    refine G.v (V.mv rfl) rfl ?_
    refine G.v (V.neO Tryd.underlying136 rfl) rfl ?_
    refine G.nil ?_
    refine GC.cond rfl (fun h352 => ?_) (fun h352 => ?_)
    · refine GC.seq ?_
      refine GC.reg ?_  -- region 66, router.go:360
      refine G.v (V.mv rfl) rfl ?_
      refine G.v (V.asg rfl) rfl ?_
      refine G.nil ?_
      refine GC.exit rfl ?_
      obtain ⟨c0, hc0⟩ := Option.isSome_iff_exists.1 h352
      obtain ⟨rc, hrc, hrn⟩ : ∃ x ∈ T, x.n = c0 := by
        rcases fcl_mem hc0 with h1 | h1 | h1
        · exact hcl.kids r hr _ h1
        · exact hcl.pch r hr _ h1
        · exact hcl.ach r hr _ h1
      refine ih (s.drop (lcp s r.pre)).length _ _ (by rw [List.length_drop]; omega) ⟨rc, s.drop (lcp s r.pre), rfl, fun e => ?_, by rw [List.length_drop]; omega, hrc, ?_, rfl, fun T' hI => hIns T' (.deep hr hl h0 hlt hc0 (hrn ▸ hI))⟩
      · have := congrArg List.length e; rw [List.length_drop] at this; simp at this; omega
      · rw [hrn, hc0]; exact .cons rfl (.cons rfl (.cons rfl (.cons rfl (.cons rfl (.cons rfl .nil)))))
    refine GC.skip ?_
    refine GC.seq ?_
    have hfn : fcl (r.kids.map fun a => (a, lbl T a)) r.pch r.ach ((s.drop (lcp s r.pre)).headD 0) = none := by cases hh : fcl (r.kids.map fun a => (a, lbl T a)) r.pch r.ach ((s.drop (lcp s r.pre)).headD 0) with | none => rfl | some _ => rw [hh] at h352; cases h352
    obtain ⟨y, ys, hy⟩ : ∃ y ys, s.drop (lcp s r.pre) = y :: ys := by
      cases hy : s.drop (lcp s r.pre) with
      | nil => have := congrArg List.length hy; simp at this; omega
      | cons y ys => exact ⟨y, ys, rfl⟩
    refine GC.turn (H' := rmE h hp pp pad np pcp :: fr4 r.n r.m r (rtE rb root rt eb :: ecE eb zb :: zzE zb rb (max z np) :: (r.Hs ++ ents T0))) (fun w1 hw1 => hw1.perm (foc_in hT)) ?_
    refine GC.reg ?_  -- region 67, router.go:364
    refine G.v (V.mv rfl) rfl ?_
    refine G.v (V.mv rfl) rfl ?_
    refine G.v (V.mv rfl) rfl ?_
    refine G.v (V.fa F152_1 rfl) rfl ?_
    refine G.v (V.ld Tryd.isAgg9 rfl (.head _) rfl) rfl ?_
    refine G.al Tryd.zeroValue155 rfl rfl (fun m3 hm3 => ?_)
    refine G.callN (vs := [.int .u8 (t : Int), S (y :: ys), PO (some r.n), .slice none 0 0, S pp, Pt m3 0, I 0, PO none, PO none, PO none]) Tryd.call140 (by rw [← hy]; rfl) rfl (fun w1 hw1 => f140_any w1 t y ys pp (some r.n) none none none none 0 0 m3 0 (fun _ => none) none [] (fun i hi => cell_row hw1 (.head _) (mrow_nth (f := fun _ => none) (mp := none) (hdr := []) hi)) (cell_row hw1 (.head _) rfl) rfl) (fun b2 hb2 => ?_)
    refine G.v (V.asg rfl) rfl ?_
    refine G.nil ?_
    refine GC.seq ?_
    refine GC.seq ?_
    refine GC.turn (H' := rmE h hp pp pad np pcp :: fr4 b2 m3 (newN b2 m3 r.n (s.drop (lcp s r.pre)) pp t) (fr4 r.n r.m r (rtE rb root rt eb :: ecE eb zb :: zzE zb rb (max z np) :: (r.Hs ++ ents T0)))) (fun w1 hw1 => HF.perm (H := ⟨b2, true, .row (newN b2 m3 r.n (y :: ys) pp t).row 146 (0, 0)⟩ :: ⟨m3, true, .row (newN b2 m3 r.n (y :: ys) pp t).mr 155 (0, 0)⟩ :: rmE h hp pp pad np pcp :: fr4 r.n r.m r (rtE rb root rt eb :: ecE eb zb :: zzE zb rb (max z np) :: (r.Hs ++ ents T0))) hw1 ?_) ?_
    · rw [hy]; exact (List.perm_middle (l₁ := [(⟨b2, true, .row (newN b2 m3 r.n (y :: ys) pp t).row 146 (0, 0)⟩ : Ent), ⟨m3, true, .row (newN b2 m3 r.n (y :: ys) pp t).mr 155 (0, 0)⟩]))
    refine GC.reg ?_  -- region 68, router.go:365
    refine G.v (V.fa F152_0 rfl) rfl ?_
    refine G.v (V.ld Tryd.isAgg95 rfl (.head _) rfl) rfl ?_
    refine G.v (V.neO Tryd.underlying95 rfl) rfl ?_
    refine G.nil ?_
    refine GC.join (fun fr' H' => Sub [(0, Pt rb 0), (1, S meth), (3, .int .u8 (t : Int)), (9, Pt h 0), (11, Pt r.n 0), (21, Pt b2 0)] fr' ∧ ∃ r1 r3, AddO h hp meth ((newN b2 m3 r.n (s.drop (lcp s r.pre)) pp t)) r1 ∧ r3 = r1.pn hp np ∧ H' = rmE h hp pp pad np pcp :: fr4 b2 m3 r3 (fr4 r.n r.m r (rtE rb root rt eb :: ecE eb zb :: zzE zb rb (max z np) :: (r.Hs ++ ents T0)))) (fun J363 => ?_) ?_
    · refine GC.cond rfl (fun h363 => ?_) (fun h363 => ?_)
      · refine GC.seq ?_
        refine GC.reg ?_  -- region 69, router.go:366
        refine G.v (V.mv rfl) rfl ?_
        refine G.v (V.mv rfl) rfl ?_
        refine G.addM ((newN b2 m3 r.n (s.drop (lcp s r.pre)) pp t)) (B := B + 1) (newN_ok) (by omega) hml h363 rfl rfl rfl rfl (fun r1 ha => ?_)
        refine G.nil ?_
        refine GC.reg ?_  -- region 70, router.go:367
        refine G.v (V.mv rfl) rfl ?_
        refine G.v (V.fa F152_2 rfl) rfl ?_
        refine G.v (V.ld Tryd.isAgg24 rfl (.head _) rfl) rfl ?_
        refine G.v (V.lenL Tryd.underlying24 rfl) rfl ?_
        refine G.v (V.nc rfl) rfl ?_
        refine G.v (V.fa F146_8 rfl) rfl ?_
        refine G.st Tryd.sizeOf3 rfl rfl rfl (.s .z) rfl rfl ?_
        refine G.nil ?_
        exact J363 _ _ ⟨.cons rfl (.cons rfl (.cons rfl (.cons rfl (.cons rfl (.cons rfl .nil))))), r1, _, .inr ⟨h363, ha⟩, rfl, by rw [NR.pn, if_pos h363]; rfl⟩
      refine GC.skip ?_
      exact J363 _ _ ⟨.cons rfl (.cons rfl (.cons rfl (.cons rfl (.cons rfl (.cons rfl .nil))))), (newN b2 m3 r.n (s.drop (lcp s r.pre)) pp t), _, .inl ⟨by simpa using h363, rfl⟩, rfl, by rw [NR.pn, h363]; rfl⟩
    rintro fr' H' ⟨hs, r1, r3, ha, hr3, rfl⟩
    refine GC.weak hs ?_
    clear hs
    refine GC.seq ?_
    refine GC.seq ?_
    have hn1 : r3.n = b2 := by rw [hr3, NR.pn_n, ha.n]; rfl
    have hn2 : r3.m = m3 := by rw [hr3, NR.pn_m, ha.m]; rfl
    have hn3 : r3.Hs = [] := by rw [hr3, NR.pn_Hs, ha.Hs]; rfl
    refine GC.turn (H' := rmE h hp pp pad np pcp :: fr4 r.n r.m r (rtE rb root rt eb :: ecE eb zb :: zzE zb rb (max z np) :: (r.Hs ++ ents (r3 :: T0)))) (fun w1 hw1 => hw1.perm ?_) ?_
    · have p := perm_idx [[rmE h hp pp pad np pcp], [⟨b2, true, .row r3.row 146 (0, 0)⟩, ⟨m3, true, .row r3.mr 155 (0, 0)⟩], r3.Hm, [⟨r.n, true, .row r.row 146 (0, 0)⟩, ⟨r.m, true, .row r.mr 155 (0, 0)⟩], r.Hm, [rtE rb root rt eb, ecE eb zb, zzE zb rb (max z np)], r.Hs, ents T0] [0, 1, 2, 3, 4, 5, 6, 7] [0, 3, 4, 5, 6, 1, 2, 7] (by decide)
      refine List.Perm.trans (.of_eq ?_) (p.trans (.of_eq ?_))
      · simp [fr4]
      · rw [ents_cons' hn1 hn2 hn3]; simp [fr4]
    refine GC.reg ?_  -- region 71, router.go:370
    refine G.v (V.mv rfl) rfl ?_
    refine G.nil ?_
    refine GC.join (fun fr' H' => Sub [(0, Pt rb 0), (1, S meth), (3, .int .u8 (t : Int)), (9, Pt h 0), (11, Pt r.n 0)] fr' ∧ ∃ r2, AddC t b2 r r2 ∧ H' = rmE h hp pp pad np pcp :: fr4 r.n r.m r2 (rtE rb root rt eb :: ecE eb zb :: zzE zb rb (max z np) :: (r2.Hs ++ ents (r3 :: T0)))) (fun J6 => ?_) ?_
    · refine GC.block ?_
      refine GC.seq ?_
      refine GC.reg ?_  -- region 72, router.go:371
      refine G.v (V.eqI rfl rfl) rfl ?_
      refine G.v (V.asg rfl) rfl ?_
      refine G.nil ?_
      refine GC.condD rfl (fun h374 => ?_) (fun h374 => ?_)
      · refine GC.reg ?_  -- region 73, router.go:372
        refine G.v (V.mv rfl) rfl ?_
        refine G.v (V.mv rfl) rfl ?_
        refine G.addSt r (ch := b2) (Q := (rmE h hp pp pad np pcp :: ⟨r.m, true, .row r.mr 155 (0, 0)⟩ :: (r.Hm ++ (rtE rb root rt eb :: ecE eb zb :: zzE zb rb (max z np) :: ents (r3 :: T0))))) hro (by omega) ?_ rfl rfl rfl (fun ad1 cp1 Hs1 hown1 => ?_)
        · have p := perm_idx [[rmE h hp pp pad np pcp], [⟨r.n, true, .row r.row 146 (0, 0)⟩], [⟨r.m, true, .row r.mr 155 (0, 0)⟩], r.Hm, [rtE rb root rt eb, ecE eb zb, zzE zb rb (max z np)], r.Hs, ents (r3 :: T0)] [0, 1, 2, 3, 4, 5, 6] [1, 5, 0, 2, 3, 4, 6] (by decide)
          refine List.Perm.trans (.of_eq ?_) (p.trans (.of_eq ?_))
          · simp [fr4]
          · simp
        refine G.nil ?_
        refine GC.inBlock ?_
        refine GC.turn (H' := rmE h hp pp pad np pcp :: fr4 r.n r.m ({ r with kids := r.kids ++ [b2], ad := ad1, cp := cp1, Hs := Hs1 } : NR) (rtE rb root rt eb :: ecE eb zb :: zzE zb rb (max z np) :: (Hs1 ++ ents (r3 :: T0)))) (fun w1 hw1 => hw1.perm ?_) (J6 _ _ ⟨.cons rfl (.cons rfl (.cons rfl (.cons rfl (.cons rfl .nil)))), ({ r with kids := r.kids ++ [b2], ad := ad1, cp := cp1, Hs := Hs1 } : NR), .st (by omega) hown1, rfl⟩)
        have p := perm_idx [[rmE h hp pp pad np pcp], [⟨r.n, true, .row ({ r with kids := r.kids ++ [b2], ad := ad1, cp := cp1, Hs := Hs1 } : NR).row 146 (0, 0)⟩], [⟨r.m, true, .row r.mr 155 (0, 0)⟩], r.Hm, [rtE rb root rt eb, ecE eb zb, zzE zb rb (max z np)], Hs1, ents (r3 :: T0)] [1, 5, 0, 2, 3, 4, 6] [0, 1, 2, 3, 4, 5, 6] (by decide)
        refine List.Perm.trans (.of_eq ?_) (p.trans (.of_eq ?_))
        · simp
        · simp [fr4, NR.mr]
      refine GC.seq ?_
      refine GC.reg ?_  -- region 74, router.go:373
      refine G.v (V.eqI rfl rfl) rfl ?_
      refine G.v (V.asg rfl) rfl ?_
      refine G.nil ?_
      refine GC.condD rfl (fun h379 => ?_) (fun h379 => ?_)
      · refine GC.reg ?_  -- region 75, router.go:374
        refine G.v (V.mv rfl) rfl ?_
        refine G.v (V.mv rfl) rfl ?_
        refine G.v (V.nc rfl) rfl ?_
        refine G.v (V.fa F146_2 rfl) rfl ?_
        refine G.st Tryd.sizeOf136 rfl rfl rfl (.s .z) rfl rfl ?_
        refine G.nil ?_
        refine GC.inBlock ?_
        exact J6 _ _ ⟨.cons rfl (.cons rfl (.cons rfl (.cons rfl (.cons rfl .nil)))), { r with pch := some b2 }, .par (by omega), rfl⟩
      refine GC.seq ?_
      refine GC.reg ?_  -- region 76, router.go:375
      refine G.v (V.eqI rfl rfl) rfl ?_
      refine G.v (V.asg rfl) rfl ?_
      refine G.nil ?_
      refine GC.condD rfl (fun h385 => ?_) (fun h385 => ?_)
      · refine GC.reg ?_  -- region 77, router.go:376
        refine G.v (V.mv rfl) rfl ?_
        refine G.v (V.mv rfl) rfl ?_
        refine G.v (V.nc rfl) rfl ?_
        refine G.v (V.fa F146_3 rfl) rfl ?_
        refine G.st Tryd.sizeOf136 rfl rfl rfl (.s .z) rfl rfl ?_
        refine G.nil ?_
        refine GC.inBlock ?_
        exact J6 _ _ ⟨.cons rfl (.cons rfl (.cons rfl (.cons rfl (.cons rfl .nil)))), { r with ach := some b2 }, .any (by omega), rfl⟩
      refine GC.skip ?_
      refine GC.inBlock ?_
      omega
    rintro fr' H' ⟨hs, r2, hac, rfl⟩
    refine GC.weak hs ?_
    clear hs
    have hok2 : r2.ok (B + 1) := hac.ok hro
    have hiso2 := hok2.iso
    have e1 : r2.n = r.n := by cases hac <;> rfl
    have e2 : r2.m = r.m := by cases hac <;> rfl
    refine GC.join (fun fr' H' => H' = rmE h hp pp pad np pcp :: ⟨r.n, true, .row r2.reLeaf.row 146 (0, 0)⟩ :: ⟨r.m, true, .row r2.mr 155 (0, 0)⟩ :: (r2.Hm ++ (rtE rb root rt eb :: ecE eb zb :: zzE zb rb (max z np) :: (r2.Hs ++ ents (r3 :: T0))))) (fun J78 => ?_) ?_
    · refine GC.reg ?_  -- region 78, router.go:378
      refine G.v (V.mv rfl) rfl ?_
      refine G.v (V.mv rfl) rfl ?_
      refine G.v (V.nc rfl) rfl ?_
      refine G.v (V.fa F146_7 rfl) rfl ?_
      refine G.v (V.ld Tryd.isAgg144 rfl (.tail _ (.head _)) rfl) rfl ?_
      refine G.v (V.eqL Tryd.underlying144 rfl) rfl ?_
      refine G.v (V.mv rfl) rfl ?_
      refine G.bc 397 rfl (fun h397 => ?_) (fun h397 => ?_)
      · refine G.vg rfl rfl (V.mv rfl) rfl ?_
        refine G.vg rfl rfl (V.nc rfl) rfl ?_
        refine G.vg rfl rfl (V.fa F146_2 rfl) rfl ?_
        refine G.vg rfl rfl (V.ld Tryd.isAgg136 rfl (.tail _ (.head _)) rfl) rfl ?_
        refine G.vg rfl rfl (V.eqO Tryd.underlying136 rfl) rfl ?_
        refine G.v (V.pickT rfl rfl) rfl ?_
        refine G.v (V.mv rfl) rfl ?_
        refine G.bc 404 rfl (fun h404 => ?_) (fun h404 => ?_)
        · refine G.vg rfl rfl (V.mv rfl) rfl ?_
          refine G.vg rfl rfl (V.nc rfl) rfl ?_
          refine G.vg rfl rfl (V.fa F146_3 rfl) rfl ?_
          refine G.vg rfl rfl (V.ld Tryd.isAgg136 rfl (.tail _ (.head _)) rfl) rfl ?_
          refine G.vg rfl rfl (V.eqO Tryd.underlying136 rfl) rfl ?_
          refine G.v (V.pickT rfl rfl) rfl ?_
          refine G.v (V.nc rfl) rfl ?_
          refine G.v (V.fa F146_11 rfl) rfl ?_
          refine G.st Tryd.sizeOf4 rfl rfl rfl (.s .z) rfl rfl ?_
          refine G.nil ?_
          have el : r2.ach.isNone = (r2.kids.isEmpty && r2.pch.isNone && r2.ach.isNone) := by rw [← hiso2, h397, h404]; rfl
          exact J78 _ _ (congrArg (fun x => rmE h hp pp pad np pcp :: ⟨r.n, true, .row x 146 (0, 0)⟩ :: ⟨r.m, true, .row r2.mr 155 (0, 0)⟩ :: (r2.Hm ++ (rtE rb root rt eb :: ecE eb zb :: zzE zb rb (max z np) :: (r2.Hs ++ ents (r3 :: T0))))) (reLeaf_row el))
        · refine G.sg rfl rfl rfl rfl rfl rfl ?_
          refine G.sg rfl rfl rfl rfl rfl rfl ?_
          refine G.sg rfl rfl rfl rfl rfl rfl ?_
          refine G.sg rfl rfl rfl rfl rfl rfl ?_
          refine G.sg rfl rfl rfl rfl rfl rfl ?_
          refine G.v (V.pickF rfl rfl) rfl ?_
          refine G.v (V.nc rfl) rfl ?_
          refine G.v (V.fa F146_11 rfl) rfl ?_
          refine G.st Tryd.sizeOf4 rfl rfl rfl (.s .z) rfl rfl ?_
          refine G.nil ?_
          have el : false = (r2.kids.isEmpty && r2.pch.isNone && r2.ach.isNone) := by rw [← hiso2, h397, h404]; rfl
          exact J78 _ _ (congrArg (fun x => rmE h hp pp pad np pcp :: ⟨r.n, true, .row x 146 (0, 0)⟩ :: ⟨r.m, true, .row r2.mr 155 (0, 0)⟩ :: (r2.Hm ++ (rtE rb root rt eb :: ecE eb zb :: zzE zb rb (max z np) :: (r2.Hs ++ ents (r3 :: T0))))) (reLeaf_row el))
      · refine G.sg rfl rfl rfl rfl rfl rfl ?_
        refine G.sg rfl rfl rfl rfl rfl rfl ?_
        refine G.sg rfl rfl rfl rfl rfl rfl ?_
        refine G.sg rfl rfl rfl rfl rfl rfl ?_
        refine G.sg rfl rfl rfl rfl rfl rfl ?_
        refine G.v (V.pickF rfl rfl) rfl ?_
        refine G.v (V.mv rfl) rfl ?_
        refine G.sg rfl rfl rfl rfl rfl rfl ?_
        refine G.sg rfl rfl rfl rfl rfl rfl ?_
        refine G.sg rfl rfl rfl rfl rfl rfl ?_
        refine G.sg rfl rfl rfl rfl rfl rfl ?_
        refine G.sg rfl rfl rfl rfl rfl rfl ?_
        refine G.v (V.pickF rfl rfl) rfl ?_
        refine G.v (V.nc rfl) rfl ?_
        refine G.v (V.fa F146_11 rfl) rfl ?_
        refine G.st Tryd.sizeOf4 rfl rfl rfl (.s .z) rfl rfl ?_
        refine G.nil ?_
        have el : false = (r2.kids.isEmpty && r2.pch.isNone && r2.ach.isNone) := by rw [← hiso2, h397]; rfl
        exact J78 _ _ (congrArg (fun x => rmE h hp pp pad np pcp :: ⟨r.n, true, .row x 146 (0, 0)⟩ :: ⟨r.m, true, .row r2.mr 155 (0, 0)⟩ :: (r2.Hm ++ (rtE rb root rt eb :: ecE eb zb :: zzE zb rb (max z np) :: (r2.Hs ++ ents (r3 :: T0))))) (reLeaf_row el))
    rintro fr' H' rfl
    refine GC.ret0 rfl fun w' hw' => ⟨rfl, h, r2.reLeaf :: r3 :: T0, hIns _ (hr3 ▸ .child hT h0 hl hlt hfn ha hac), ?_, hw'.perm (foc_out (r := r2.reLeaf) e1 e2 rfl)⟩
    intro x hx
    rcases List.mem_cons.1 hx with rfl | hx
    · exact hok2.reLeaf.mono (by omega)
    · rcases List.mem_cons.1 hx with rfl | hx
      · rw [hr3]; exact (ha.ok (B := B) newN_ok hml).pn.mono (by omega)
      · exact (hok x (hT0 x hx)).mono (by omega)
  refine GC.seq ?_
  refine GC.turn (H' := rmE h hp pp pad np pcp :: fr4 r.n r.m r (rtE rb root rt eb :: ecE eb zb :: zzE zb rb (max z np) :: (r.Hs ++ ents T0))) (fun w1 hw1 => hw1.perm (foc_in hT)) ?_
  refine GC.reg ?_  -- region 79, router.go:381
  refine G.v (V.fa F152_0 rfl) rfl ?_
  refine G.v (V.ld Tryd.isAgg95 rfl (.head _) rfl) rfl ?_
  refine G.v (V.neO Tryd.underlying95 rfl) rfl ?_
  refine G.nil ?_
  refine GC.join (fun fr' H' => Sub [(0, Pt rb 0), (1, S meth), (3, .int .u8 (t : Int)), (9, Pt h 0), (11, Pt r.n 0)] fr' ∧ ∃ r1 r3, AddO h hp meth (r) r1 ∧ r3 = r1.po hp np pp ∧ H' = rmE h hp pp pad np pcp :: fr4 r.n r.m r3 (rtE rb root rt eb :: ecE eb zb :: zzE zb rb (max z np) :: (r.Hs ++ ents T0))) (fun J415 => ?_) ?_
  · refine GC.cond rfl (fun h415 => ?_) (fun h415 => ?_)
    · refine GC.seq ?_
      refine GC.reg ?_  -- region 80, router.go:382
      refine G.v (V.mv rfl) rfl ?_
      refine G.v (V.mv rfl) rfl ?_
      refine G.addM (r) (B := B + 1) (⟨hro.hm, hro.hs, hro.nil, Nat.le_succ_of_le hro.kvB, hro.keys, Nat.le_succ_of_le hro.kidB⟩) (by omega) hml h415 rfl rfl rfl rfl (fun r1 ha => ?_)
      refine G.nil ?_
      refine GC.seq ?_
      refine GC.reg ?_  -- region 81, router.go:383
      refine G.v (V.mv rfl) rfl ?_
      refine G.v (V.fa F152_2 rfl) rfl ?_
      refine G.v (V.ld Tryd.isAgg24 rfl (.head _) rfl) rfl ?_
      refine G.v (V.lenL Tryd.underlying24 rfl) rfl ?_
      refine G.v (V.nc rfl) rfl ?_
      refine G.v (V.fa F146_8 rfl) rfl ?_
      refine G.st Tryd.sizeOf3 rfl rfl rfl (.s .z) rfl rfl ?_
      refine G.nil ?_
      refine GC.reg ?_  -- region 82, router.go:384
      refine G.v (V.mv rfl) rfl ?_
      refine G.v (V.fa F152_1 rfl) rfl ?_
      refine G.v (V.ld Tryd.isAgg9 rfl (.head _) rfl) rfl ?_
      refine G.v (V.nc rfl) rfl ?_
      refine G.v (V.fa F146_6 rfl) rfl ?_
      refine G.st Tryd.sizeOf9 rfl rfl rfl (.s .z) rfl rfl ?_
      refine G.nil ?_
      exact J415 _ _ ⟨.cons rfl (.cons rfl (.cons rfl (.cons rfl (.cons rfl .nil)))), r1, _, .inr ⟨h415, ha⟩, rfl, by rw [NR.po, if_pos h415]; rfl⟩
    refine GC.skip ?_
    exact J415 _ _ ⟨.cons rfl (.cons rfl (.cons rfl (.cons rfl (.cons rfl .nil)))), r, _, .inl ⟨by simpa using h415, rfl⟩, rfl, by rw [NR.po, h415]; rfl⟩
  rintro fr' H' ⟨hs, r1, r3, ha, hr3, rfl⟩
  refine GC.weak hs ?_
  clear hs
  refine GC.ret0 rfl fun w' hw' => ⟨rfl, h, r3 :: T0, hIns _ (hr3 ▸ .same hT h0 hl (by omega) ha), ?_, hw'.perm (foc_out (by rw [hr3, NR.po_n, ha.n]) (by rw [hr3, NR.po_m, ha.m]) (by rw [hr3, NR.po_Hs, ha.Hs]))⟩
  intro x hx
  rcases List.mem_cons.1 hx with rfl | hx
  · rw [hr3]; exact (ha.ok hro hml).po.mono (by omega)
  · exact (hok x (hT0 x hx)).mono (by omega)
end Go.Proofs
