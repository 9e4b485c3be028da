/- What the reference finds in a table, and what it leaves open. -/
import Derived.Test.YtnopecnbpflodaaNb
import Derived.Test.YtnopecnbpflodaaNa
import Derived.Laws.StandIn
import Derived.Lib.IndexLaws
import Derived.Test.YtnopecnbpflodaaKa
/- What the reference finds in a table. No program in sight. -/
namespace Gt
open Gs Tr
/-- a route goes ahead of another one -/
def BetterN : List Tk → List Tk → Prop
  | a :: s, b :: r => (a = b ∧ BetterN s r) ∨ (a ≠ b ∧ a.k.toNat < b.k.toNat)
  | _, _ => False
/-- ginMatch from a place of the path on -/
def mAt (path : List UInt8) : List Prt → Nat → List (List UInt8 × List UInt8) → Option (List (List UInt8 × List UInt8))
  | [], i, acc => if i = path.length then some acc else none
  | p :: l, i, acc =>
    if p.k.toNat = 0 then (if p.nm.isPrefixOf (path.drop i) then mAt path l (i + p.nm.length) acc else none)
    else if p.k.toNat = 1 then
      (if ((path.drop i).takeWhile (· ≠ 47)).length = 0 then none else mAt path l (i + ((path.drop i).takeWhile (· ≠ 47)).length) (acc ++ [(p.nm, (path.drop i).takeWhile (· ≠ 47))]))
    else mAt path l path.length (acc ++ [(p.nm, path.drop (i - 1))])
def matchN (l : List Prt) (path : List UInt8) : Option (List (List UInt8 × List UInt8)) := mAt path l 0 []
/-- the best one of the first routes: its place -/
noncomputable def bestN (rs : List (List Prt)) (path : List UInt8) : Nat → Option Nat
  | 0 => none
  | n + 1 => match rs[n]? with
    | none => bestN rs path n
    | some a => match matchN a path, bestN rs path n with
      | none, b => b
      | some _, none => some n
      | some _, some m => match rs[m]? with
        | none => some m
        | some b => if dec (BetterN (tks a) (tks b)) then some n else some m
end Gt

/- strings.IndexByte. Printed by wip/mk_go1.py. -/
set_option maxRecDepth 20000
namespace Go.Proofs
open Go Bw
open Gt
end Go.Proofs

/- better. Printed by wip/mk_go2.py. -/
set_option maxRecDepth 20000
namespace Go.Proofs
open Go Bw
open Gt
end Go.Proofs

/- ginMatch. Printed by wip/mk_go3.py. -/
set_option maxRecDepth 20000
namespace Go.Proofs
open Go Bw
open Gt
/-- the first part of a route has bytes -/
theorem Clean.first {l : List Prt} (h : Gt.Clean l) {p : Prt} (hp : l[0]? = some p) : p.k.toNat = 0 ∧ 0 < p.nm.length := by
 have hop := h.2.2.2 0 p hp
 have hk := hop.1.2 rfl
 exact ⟨hk, List.length_pos_iff.2 (hop.2.2.2.1 hk).1⟩
end Go.Proofs

/- What the reference finds in a table. Printed by wip/mk_go4.py. -/
set_option maxRecDepth 20000
namespace Go.Proofs
open Go Bw
open Gt
/-- what is kept of the best one so far -/
def BestAt (rs : List (List Prt)) (path : List UInt8) (o : Option Nat) (r : Nat) (pv : Value) (full : List UInt8) (Hp : SH) : Prop :=
 (o = none ∧ r = 0 ∧ pv = .slice none 0 0 ∧ full = [] ∧ Hp = []) ∨ ∃ m a ps, o = some m ∧ r = m + 1 ∧ rs[m]? = some a ∧ full = rtT a ∧ matchN a path = some ps ∧ ps.length ≤ 12 ∧ Own 84 2 pv ps.length (flatP ps) Hp
theorem BestAt.w {rs path o r pv full Hp} (h : BestAt rs path o r pv full Hp) : ∀ x ∈ Hp, x.w = true := by
 rcases h with ⟨_, _, _, _, rfl⟩ | ⟨m, a, ps, _, _, _, _, _, _, h⟩
 ·simp
 ·exact h.w
theorem BestAt.one {rs path o r pv full Hp} (h : BestAt rs path o r pv full Hp) : pv.oneCell' = true := by
 rcases h with ⟨_, _, rfl, _⟩ | ⟨m, a, ps, _, _, _, _, _, _, h⟩
 ·rfl
 ·exact Own.slice1 h
end Go.Proofs

/- What the reference leaves open. No program in sight. -/
namespace Gt
open Gs Tr
/-- how far the next slash is -/
def sl (d : List UInt8) : Nat := (d.takeWhile (· ≠ 47)).length
theorem sl_le (d : List UInt8) : sl d ≤ d.length := (List.takeWhile_sublist _).length_le
theorem sl_lt : ∀ {d : List UInt8} {q : Nat}, q < sl d → ∃ x, d[q]? = some x ∧ x ≠ 47
  | [], q, h => by simp [sl] at h
  | c :: d, q, h => by
    unfold sl at h
    rw [List.takeWhile_cons] at h
    split at h
    · rename_i hc
      cases q with
      | zero => exact ⟨c, rfl, by simpa using hc⟩
      | succ q => simpa using sl_lt (d := d) (q := q) (by unfold sl; simpa using h)
    · simp at h
theorem sl_end : ∀ {d : List UInt8} {x : UInt8}, d[sl d]? = some x → x = 47
  | [], x, h => by simp at h
  | c :: d, x, h => by
    unfold sl at h
    rw [List.takeWhile_cons] at h
    split at h
    · exact sl_end (d := d) (by unfold sl; simpa using h)
    · rename_i hc
      have hcx : c = x := by simpa using h
      rw [← hcx]; simpa using hc
theorem sl_no {d : List UInt8} (h : ¬ (47 : UInt8) ∈ d) : sl d = d.length := by
  refine Nat.le_antisymm (sl_le d) (Nat.not_lt.1 fun hlt => h ?_)
  have := sl_end (List.getElem?_eq_getElem hlt)
  exact this ▸ List.getElem_mem hlt
/-- a path is one of a route whose parameters may be empty -/
def LAt (path : List UInt8) : List Prt → Nat → Prop
  | [], i => i = path.length
  | p :: l, i => if p.k.toNat = 0 then p.nm <+: path.drop i ∧ LAt path l (i + p.nm.length)
    else if p.k.toNat = 1 then LAt path l (i + sl (path.drop i)) else LAt path l path.length
def LooseN (l : List Prt) (path : List UInt8) : Prop := LAt path l 0
/-- how far two routes go together -/
noncomputable def same : List Tk → List Tk → Nat
  | a :: s, b :: r => @ite _ (a = b) (Classical.propDecidable _) (same s r + 1) 0
  | _, _ => 0
/-- passes from a token on: d: how far the routes go together -/
def PAt (path : List UInt8) (d : Nat) : List Tk → Nat → Nat → Prop
  | [], _, _ => False
  | t :: x, i, at_ => if t.k.toNat ≠ 0 then (if d < i then t.k.toNat = 2 ∨ at_ < path.length else PAt path d x (i + 1) (at_ + sl (path.drop at_)))
    else path[at_]? = some t.c ∧ PAt path d x (i + 1) (at_ + 1)
def PassN (x r : List Tk) (path : List UInt8) : Prop := PAt path (same x r) x 0 0
/-- begins from a token on -/
def BAt (path : List UInt8) : List Tk → Nat → Prop
  | [], at_ => at_ = path.length
  | t :: x, at_ => at_ = path.length ∨ (if t.k.toNat ≠ 0 then ¬ (47 : UInt8) ∈ path.drop at_ ∨ t.k.toNat = 2 ∨ BAt path x (at_ + sl (path.drop at_)) else path[at_]? = some t.c ∧ BAt path x (at_ + 1))
def BeginN (x : List Tk) (path : List UInt8) : Prop := BAt path x 0
end Gt

/- loose. Printed by wip/mk_go5.py. -/
set_option maxRecDepth 20000
namespace Go.Proofs
open Go Bw
open Gt
end Go.Proofs

/- begins. Printed by wip/mk_go6.py. -/
set_option maxRecDepth 20000
namespace Go.Proofs
open Go Bw
open Gt
/-- tokens in memory -/
def Tks (w : World) (sv : Value) (l : List Tk) : Prop := ∃ ad cp, sv = .slice ad l.length cp ∧ ∀ (j : Nat) t, l[j]? = some t → ∃ b o, ad = some ⟨b, o, none⟩ ∧ ∀ (q : Nat) v, (tkV t)[q]? = some v → w.cell? ⟨b, o + j * 3 + q, none⟩ = some v
theorem Tks.old {w w1 : World} {sv : Value} {l : List Tk} {H : SH} (h : Tks w sv l) (hw : HF w (fun _ => False) H w1) : Tks w1 sv l := by
 obtain ⟨ad, cp, rfl, hc⟩ := h
 refine ⟨ad, cp, rfl, fun j p hj => ?_⟩
 obtain ⟨b, o, e, h1⟩ := hc j p hj
 exact ⟨b, o, e, fun q v hv => hw.cellOld (h1 q v hv) id⟩
theorem _root_.Bw.Own.tks {w0 w : World} {D : Nat → Prop} {H Hs : SH} {sv : Value} {l : List Tk} (ho : Own 102 3 sv l.length (flatK l) Hs) (hw : HF w0 D H w) (hsub : ∀ x ∈ Hs, x ∈ H) : Tks w sv l := by
 generalize hn : l.length = n at ho
 generalize hx : flatK l = xs at ho
 cases ho with
 | nil => exact ⟨none, 0, by rw [hn], fun j x hj => by have := (List.getElem?_eq_some_iff.1 hj).1; omega⟩
 | @row b n cap xs spare h1 h2 h3 =>
  subst hx
  refine ⟨some ⟨b, 0, none⟩, cap, by rw [hn], fun j t hj => ⟨b, 0, rfl, fun q v hv => ?_⟩⟩
  have h4 := flatK_at hj spare
  have hq : q < 3 := (List.getElem?_eq_some_iff.1 hv).1
  have h5 : (((flatK l ++ spare).drop (0 + j * 3)).take 3)[q]? = some v := by rw [h4]; exact hv
  rw [List.getElem?_take_of_lt hq, List.getElem?_drop] at h5
  exact cell_row hw (hsub _ (.head _)) (by rw [nth_eq]; exact h5)
end Go.Proofs

/- passes. Printed by wip/mk_go7.py. -/
set_option maxRecDepth 20000
namespace Go.Proofs
open Go Bw
open Gt
end Go.Proofs

/- When it is left open what a path finds. No program in sight. -/
namespace Gt
open Gs Tr
/-- the path with another end -/
def other (path : List UInt8) : List UInt8 := @ite _ (1 < path.length ∧ path[path.length - 1]? = some 47) inferInstance (path.take (path.length - 1)) (path ++ [47])
def OpenX (x r : List Prt) (path : List UInt8) : Prop := matchN x (other path) ≠ none ∨ PassN (tks x) (tks r) path ∨ ((other path).length < path.length ∧ BeginN (tks x) (other path))
/-- GinOpen -/
def OpenN (rs : List (List Prt)) (path : List UInt8) : Prop := match bestN rs path rs.length with
  | none => ∃ x ∈ rs, LooseN x path
  | some m => ∃ r, rs[m]? = some r ∧ ∃ x ∈ rs, BetterN (tks x) (tks r) ∧ OpenX x r path
end Gt

/- GinOpen. Printed by wip/mk_go8.py. -/
set_option maxRecDepth 20000
namespace Go.Proofs
open Go Bw
open Gt
end Go.Proofs

/- sameFound: the closure. Printed by wip/mk_go9.py. -/
set_option maxRecDepth 20000
namespace Go.Proofs
open Go Bw
open Gt
end Go.Proofs

/- sameFound: parameters compared. Printed by wip/mk_go10.py. -/
set_option maxRecDepth 20000
namespace Go.Proofs
open Go Bw
open Gt
end Go.Proofs

/- sameFound. Printed by wip/mk_go11.py. -/
set_option maxRecDepth 20000
namespace Go.Proofs
open Go Bw
open Gt
end Go.Proofs

/- zzFits3. Printed by wip/mk_go12.py. -/
set_option maxRecDepth 20000
namespace Go.Proofs
open Go Bw
open Gt
end Go.Proofs

/- Regions that draw: more rules for operations that stand under a guard. No program in sight. -/
namespace Bw
open Go
section
variable {P : Program} {c : Cx} {n : Nat} {k : List Item} {fr : SF} {H : SH} {ops : Array Oper} {ty : TypeId} {pos : String} {aft : Array Edge} {S : World → Prop} {fuel : Nat} {listed : Array Bool}
/-- a known bool is one of two -/
theorem GA.bc (t : Nat) {b : Bool} (hb : look t fr = some (.bool b)) (ht : b = true → GA P c n k ops S fuel listed ((t, .bool true) :: fr) H) (hf : b = false → GA P c n k ops S fuel listed ((t, .bool false) :: fr) H) : GA P c n k ops S fuel listed fr H := by
 intro hF a w ha hw
 cases b
 ·exact hf rfl hF a w (ha.bcase hb rfl) hw
 ·exact ht rfl hF a w (ha.bcase hb rfl) hw
/-- a call that leaves memory as it is -/
theorem GB.callP {g : FuncId} {xs : List Operand} {vs : List Value} {tys : Array TypeId} {d : Nat} {v : Value} (hg : ∀ (args : Array Value) w, (callFunc g args).run P w = .ok (.enter g args) w) (he : evs fr xs = some vs) (hd : Nat.blt d n = true)
  (hS : ∀ w, HF c.w0 c.D H w → S w) (hc : ∀ w, HF c.w0 c.D H w → Calls P g vs.toArray w (fun e w' => e = .returned v ∧ HF w (fun _ => False) [] w'))
  (hk : GA P c n k ops S fuel listed ((d, v) :: fr) H) :
  GB P c n k ops S fuel listed ⟨some d, .call ⟨.value (.func g), xs.toArray, tys⟩, ty, pos, aft, none⟩ fr H := by
 refine GB.callW (fun v' H' => v' = v ∧ H' = H) hg he hd (fun v' H' ⟨_, h2⟩ w hw => hS w (h2 ▸ hw)) (fun w hw => ?_) (fun v' H' ⟨h1, h2⟩ => h1 ▸ h2 ▸ hk)
 refine (hc w hw).mono fun e w' ⟨h1, h2⟩ => ⟨v, H, h1, ?_, rfl, rfl⟩
 have := hw.after0 h2 (fun e he => by cases he)
 simpa using this
end
end Bw
