/- What is found is a route whose values make the path. -/
import Derived.Test.YtekclaobeccbdaaDoorBj
import Derived.Test.YtekclaobeccbdaaDoorBi
/- What is found is a route whose values make the path. No program in sight. -/
namespace Bw
open Go Go.Proofs

theorem fill_le : ∀ (u : List Tok) (ws : List (List UInt8)), ws.length = cnt u → ∀ w ∈ ws, w.length ≤ (fill u ws).length
  | [], ws, h, w, hw => by
    have : ws = [] := List.length_eq_zero_iff.1 (by rw [h]; rfl)
    rw [this] at hw; cases hw
  | .b c :: u, ws, h, w, hw => by
    have := fill_le u ws (by simpa [cnt] using h) w hw
    simp only [fill, List.length_cons]; omega
  | .P :: u, [], h, w, hw => by cases hw
  | .A :: u, [], h, w, hw => by cases hw
  | .P :: u, x :: ws, h, w, hw => by
    have hl : (fill (.P :: u) (x :: ws)).length = x.length + (fill u ws).length := by simp [fill]
    rcases List.mem_cons.1 hw with rfl | hw
    · omega
    · have := fill_le u ws (by simpa [cnt] using h) w hw; omega
  | .A :: u, x :: ws, h, w, hw => by
    have hl : (fill (.A :: u) (x :: ws)).length = x.length + (fill u ws).length := by simp [fill]
    rcases List.mem_cons.1 hw with rfl | hw
    · omega
    · have := fill_le u ws (by simpa [cnt] using h) w hw; omega

/-- what Find tells, where it tells a route -/
theorem fres_back {Rs : List RB} {meth path : List UInt8} {num : Int} {p al : List UInt8} {ns vs : List (List UInt8)} (h : FRes Rs meth (visK (KS Rs) meth 202 [] path [] none) num p ns vs al) :
    num < 0 ∨ ∃ (n : Nat) (rb : RB), num = n ∧ n < Rs.length ∧ Rs[n]? = some rb ∧ p = rb.p ∧ ns = (prs rb.p none).2 ∧ vs.length = ns.length ∧ (rb.m = nfName ∨ rb.m = meth ∧ fill (prs rb.p none).1 vs = path ∧ ∀ v ∈ vs, v.length ≤ path.length) := by
  generalize ho : visK (KS Rs) meth 202 [] path [] none = o at h
  cases h with
  | @hit rb n vs hr hl =>
    right
    obtain ⟨_, h2, u, ws, h3, h4, h5, h6⟩ := visK_hit _ _ _ _ _ _ _ ho
    rw [List.nil_append] at h3 h4
    subst h4
    have h3' : (prs rb.p none).1 = u := h3
    refine ⟨n, rb, rfl, (List.getElem?_eq_some_iff.1 hr).1, hr, rfl, rfl, hl, ?_⟩
    rcases h2 with ⟨h2, _⟩ | h2
    · refine .inr ⟨h2, by rw [h3']; exact h6, fun v hv => ?_⟩
      rw [← h6]
      exact fill_le u vs h5 v hv
    · exact .inl h2
  | @missNf o pl vs rb n _ _ hr hn =>
    right
    refine ⟨n, rb, rfl, (List.getElem?_eq_some_iff.1 hr).1, hr, rfl, rfl, by simp, .inl hn⟩
  | miss _ _ _ => left; split <;> decide
  | none => left; decide
end Bw

/- Regions that draw, whichever order: operations with guards. No program in sight. -/
namespace Bw
open Go

variable {P : Program} {c : Cx} {n : Nat} {k : List Item} {fr : SF} {H : SH} {ops : Array Oper} {ty : TypeId} {pos : String} {aft : Array Edge} {S : World → Prop} {fuel : Nat} {listed : Array Bool}

theorem GA.takeG {i d j t : Nat} {b : Bool} {op : Op} {v : Value} (hi : ops[i]? = some ⟨some d, op, ty, pos, aft, some (j, b)⟩) (hj : (ops[j]?).bind (·.dst) = some t) (hb : look t fr = some (.bool b)) (hB : (Region.noSelect ops && Region.free .any ops listed i && (Region.ready .any ops listed).contains i) = true)
    (hS : ∀ w, HF c.w0 c.D H w → S w) (hv : ∀ a w, Fr n fr a → S w → ∀ dst pos aft g, (execOp a.eval ⟨dst, op, ty, pos, aft, g⟩).run P w = .ok (.value v) w) (hd : Nat.blt d n = true)
    (h : GA P c n k ops S fuel (listed.setIfInBounds i true) ((d, v) :: fr) H) : GA P c n k ops S (fuel + 1) listed fr H := by
  intro hf a w ha hw
  simp only [Bool.and_eq_true] at hB
  have hy : yielded ops a.tmps j = some b := by simp [yielded, hj, ha.at_ t _ hb]
  exact wpAnyH_take hi hB.1.1 hB.1.2 hB.2 (fun ch a' w' hq => ⟨hq.1, hq.2⟩) (.inl ⟨by simp [Region.wanted, hy], fun w' hS' => hv a w' ha hS' _ _ _ _⟩) (hS w hw) (h hf _ _ (ha.put hd v) hw)
theorem GA.pg (i : Nat) {d j t : Nat} {b : Bool} {op : Op} {v : Value} (hi : ops[i]? = some ⟨some d, op, ty, pos, aft, some (j, b)⟩) (hj : (ops[j]?).bind (·.dst) = some t) (hb : look t fr = some (.bool b)) (hB : (Region.noSelect ops && Region.free .any ops listed i && (Region.ready .any ops listed).contains i) = true)
    (hS : ∀ w, HF c.w0 c.D H w → S w) (hv : ∀ (w0 : World), Val P ⟨c.f, c.fn, c.R, w0, fun _ => False⟩ n op ty fr [] v) (hd : Nat.blt d n = true)
    (h : GA P c n k ops S fuel (listed.setIfInBounds i true) ((d, v) :: fr) H) : GA P c n k ops S (fuel + 1) listed fr H :=
  GA.takeG hi hj hb hB hS (fun a w ha _ dst pos aft g => hv w a w ha (HF.start w _) dst pos aft g) hd h
theorem GA.ldg (i : Nat) {d j t b' off : Nat} {b : Bool} {ty' : TypeId} {x : Operand} {v : Value} (hi : ops[i]? = some ⟨some d, .load ty' x, ty, pos, aft, some (j, b)⟩) (hj : (ops[j]?).bind (·.dst) = some t) (hb : look t fr = some (.bool b)) (hB : (Region.noSelect ops && Region.free .any ops listed i && (Region.ready .any ops listed).contains i) = true)
    (hS : ∀ w, HF c.w0 c.D H w → S w) (hA : ∀ w, (isAgg ty').run P w = .ok false w) (hx : ev fr x = some (Pt b' off)) (hc : ∀ w, S w → w.cell? ⟨b', off, none⟩ = some v) (hd : Nat.blt d n = true)
    (h : GA P c n k ops S fuel (listed.setIfInBounds i true) ((d, v) :: fr) H) : GA P c n k ops S (fuel + 1) listed fr H :=
  GA.takeG hi hj hb hB hS (fun a w ha hS dst pos aft g => by simp [execOp, ha.eval hx, Instr.loadAt, Instr.sureAddr, loadVar, hA, run_load, hc w hS]) hd h
theorem GB.gd {op : Op} {d : Option Tmp} {j t : Nat} {b : Bool} (hj : (ops[j]?).bind (·.dst) = some t) (hb : look t fr = some (.bool b)) (h : GB P c n k ops S fuel listed ⟨d, op, ty, pos, aft, none⟩ fr H) : GB P c n k ops S fuel listed ⟨d, op, ty, pos, aft, some (j, b)⟩ fr H := by
  intro hf a w ha hw
  have h1 := h hf a w ha hw
  have hy : yielded ops a.tmps j = some b := by simp [yielded, hj, ha.at_ t _ hb]
  have w1 : Region.wanted ⟨d, op, ty, pos, aft, some (j, b)⟩ (yielded ops a.tmps) = true := by simp [Region.wanted, hy]
  have w0 : Region.wanted ⟨d, op, ty, pos, aft, none⟩ (yielded ops a.tmps) = true := rfl
  rw [if_pos w0] at h1
  rw [if_pos w1]
  exact h1
/-- an operation whose guard fails -/
theorem GA.un (i : Nat) {o : Oper} {d j t : Nat} {b want : Bool} (hi : ops[i]? = some o) (hdst : o.dst = some d) (hg : o.guard = some (j, want)) (hj : (ops[j]?).bind (·.dst) = some t) (hb : look t fr = some (.bool b)) (hne : (b == want) = false) (hB : (Region.noSelect ops && Region.free .any ops listed i && (Region.ready .any ops listed).contains i) = true)
    (hS : ∀ w, HF c.w0 c.D H w → S w) (hd : Nat.blt d n = true)
    (h : GA P c n k ops S fuel (listed.setIfInBounds i true) ((d, undef) :: fr) H) : GA P c n k ops S (fuel + 1) listed fr H := by
  intro hf a w ha hw
  simp only [Bool.and_eq_true] at hB
  have hy : yielded ops a.tmps j = some b := by simp [yielded, hj, ha.at_ t _ hb]
  have hnw : Region.wanted o (yielded ops a.tmps) = false := by
    simp only [Region.wanted, hg, hy]
    cases b <;> cases want <;> simp_all
  have := wpAnyH_take hi hB.1.1 hB.1.2 hB.2 (Q := Qk P c k) (v := undef) (fun ch a' w' hq => ⟨by have h1 := hq.1; rw [hdst] at h1; exact h1, hq.2⟩) (.inr ⟨hnw, rfl⟩) (hS w hw) (h hf _ _ (by rw [hdst]; exact ha.put hd undef) hw)
  exact this
end Bw

/- A slice of one's own: its length is at most its room. -/
namespace Bw
open Go
theorem Own.le {e sz n n' cp : Nat} {ad : Option Addr} {xs : List Value} {Hs : SH} (h : Own e sz (.slice ad n cp) n' xs Hs) : n ≤ cp := by
  generalize hv : Value.slice ad n cp = v at h
  cases h with
  | nil => cases hv; exact Nat.le_refl _
  | row _ _ hle => cases hv; exact hle
end Bw
