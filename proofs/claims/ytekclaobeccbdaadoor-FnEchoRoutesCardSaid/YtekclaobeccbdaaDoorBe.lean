/- What adding routes does, and what a router of routes is in memory. -/
import Derived.Test.YtekclaobeccbdaaDoorBd
import Derived.Test.YtekclaobeccbdaaDoorBb
import Derived.Laws.Tables
import Derived.Test.YtekclaobeccbdaaDoorBc
import Derived.OrdersHeld
/- normalizePathSlash, insert. Printed by wip/mk_e6.py. -/
namespace Go.Proofs
open Go Bw
set_option maxRecDepth 20000

theorem f123_any (w : World) (p : List UInt8) (hp : p.head? = some 47) : Calls Tryd.prog 123 #[S p] w fun e w' => e = .returned (S p) ∧ HF w (fun _ => False) [] w' := by
  obtain ⟨r, rfl⟩ : ∃ r, p = 47 :: r := by
    cases p with
    | nil => cases hp
    | cons a r => simp only [List.head?_cons, Option.some.injEq] at hp; exact ⟨r, by rw [hp]⟩
  refine enter (fun _ => False) [] Tryd.func123 rfl Tryd.ntmps123 rfl rfl (HF.start w _) fun c hc => ?_
  subst hc
  refine GC.seq ?_
  refine GC.reg ?_  -- region 0, router.go:185
  refine G.v (V.asg rfl) rfl ?_
  refine G.nil ?_
  refine GC.seq ?_
  refine GC.seq ?_
  refine GC.reg ?_  -- region 1, router.go:186
  refine G.v (V.mv rfl) rfl ?_
  refine G.v (V.eqS rfl rfl) rfl ?_
  refine G.nil ?_
  refine GC.condD rfl (fun h4 => absurd h4 (by simp)) (fun h4 => ?_)
  refine GC.seq ?_
  refine GC.reg ?_  -- region 3, router.go:188
  refine G.v (V.mv rfl) rfl ?_
  refine G.v (V.idx (i := 0) (b := 47) Tryd.underlying9 rfl rfl rfl) rfl ?_
  refine G.v (V.neI rfl rfl) rfl ?_
  refine G.nil ?_
  refine GC.condF rfl ?_
  refine GC.skip ?_
  refine GC.seq ?_
  refine GC.reg ?_  -- region 5, router.go:191
  refine G.v (V.mv rfl) rfl ?_
  refine G.v (V.asg rfl) rfl ?_
  refine G.nil ?_
  exact GC.ret1 rfl rfl fun w' hw' => ⟨rfl, hw'⟩

/-- what the insertion of a route adds to the entries -/
def EvR (toks : List Tok) (meth : List UInt8) (Rn : List En) : Prop := ∀ e ∈ Rn, e.tk <+: toks ∧ (e.rm = none ∨ ∃ h', e.tk = toks ∧ e.rm = some (meth, h'))

theorem zero152 (w : World) : (Instr.build 152 #[]).run Tryd.prog w = .ok (.agg #[PO none, S [], .slice none 0 0]) w := by
  simp [Instr.build, Tryd.zeroValue152, Instr.fill]
  rfl
theorem full152 (h : Nat) (pp : List UInt8) (ad : Option Addr) (l c : Nat) (w : World) : (Instr.build 152 #[(1, S pp), (2, .slice ad l c), (0, Pt h 0)]).run Tryd.prog w = .ok (.agg #[PO (some h), S pp, .slice ad l c]) w := by
  simp [Instr.build, Tryd.zeroValue152, Tryd.runUnderlying152, Tryd.sizeOf95, Tryd.sizeOf9, Tryd.sizeOf24, cells_agg, Instr.fill, cells_str, cells_ptr, cells_sl]
  rfl

theorem prs_scan : ∀ (a r acc : List UInt8), (∀ c ∈ a, c ≠ 47) → prs (a ++ r) (some acc) = prs r (some (acc ++ a))
  | [], r, acc, _ => by simp
  | c :: a, r, acc, h => by
    have h1 := h c (.head _)
    simp only [List.cons_append, prs, if_neg h1]
    rw [prs_scan a r _ fun x hx => h x (.tail _ hx)]
    simp

theorem pos_snoc {td p r : List Tok} {u v : Tok} (h : td ++ [v] = p ++ u :: r) : (r = [] ∧ p = td ∧ u = v) ∨ ∃ r', r = r' ++ [v] ∧ td = p ++ u :: r' := by
  rcases List.eq_nil_or_concat r with rfl | ⟨r', w, rfl⟩
  · have := List.append_inj' h rfl
    refine .inl ⟨rfl, this.1.symm, ?_⟩
    simpa using this.2.symm
  · rw [List.concat_eq_append, show p ++ u :: (r' ++ [w]) = (p ++ u :: r') ++ [w] by simp] at h
    have := List.append_inj' h rfl
    refine .inr ⟨r', ?_, this.1⟩
    rw [List.concat_eq_append, this.2]

theorem _root_.Bw.okR.app : ∀ {a r : List UInt8}, okR (a ++ r) → okR r
  | [], _, h => h
  | _ :: a, _, h => Bw.okR.app (a := a) h.2.2

theorem f124_any (w : World) (D : Nat → Prop) (T : List NR) (q : Nat → List Tok) (R : List En) (rb root rt eb zb z B hh : Nat) (meth p0 : List UInt8) (toks : List Tok) (names : List (List UInt8)) (hprs : prs p0 none = (toks, names)) (hp0 : p0.head? = some 47)
    (hok0 : okR p0) (hpl : p0.length ≤ 200) (hml : meth.length ≤ 1000) (hs : Sh T q R root) (hRl : ∀ e ∈ R, e.tk.length ≤ 1000) (hok : ∀ r ∈ T, r.ok B) (hB : B + 1000 < 1000000)
    (hH : HF w D (rtE rb root rt eb :: ecE eb zb :: zzE zb rb z :: ents T) w) :
    Calls Tryd.prog 124 #[Pt rb 0, S meth, S p0, Pt hh 0] w fun e w' => e = .returned (.tuple #[]) ∧ ∃ T' q' Rn h pad pcp Hn, Sh T' q' (⟨toks, some (meth, h)⟩ :: Rn ++ R) root ∧ EvR toks meth Rn ∧ (∀ r ∈ T', r.ok (B + 1000)) ∧ Own 9 1 (.slice pad names.length pcp) names.length (names.map S) Hn ∧
      HF w D (rmE h (some hh) p0 pad names.length pcp :: rtE rb root rt eb :: ecE eb zb :: zzE zb rb (max z names.length) :: (ents T' ++ Hn)) w' := by
  have htoks : (prs p0 none).1 = toks := by rw [hprs]
  have hnames : (prs p0 none).2 = names := by rw [hprs]
  have htl : toks.length ≤ p0.length := htoks ▸ prs_len p0 none
  have htok : ∀ u ∈ toks, u.ok := htoks ▸ prs_ok p0 none
  have htA : ∀ p r, toks = p ++ .A :: r → r = [] := fun p r e => prs_A p0 none hok0 p r (htoks.trans e)
  have hcnt : names.length = cnt toks := by have := prs_cnt p0 none; rw [htoks, hnames] at this; simpa using this
  have hhd : toks.head? = some (.b 47) := by
    rw [← htoks]
    cases p0 with
    | nil => cases hp0
    | cons a r => simp only [List.head?_cons, Option.some.injEq] at hp0; subst hp0; rfl
  have hRl' : ∀ (Rn : List En), EvR toks meth Rn → ∀ e ∈ Rn ++ R, e.tk.length ≤ 1000 := fun Rn h e he => by
    rcases List.mem_append.1 he with he | he
    · have := (h e he).1.length_le; omega
    · exact hRl e he
  have hpfx : ∀ td, td <+: toks → td ≠ [] → td.head? = some (.b 47) := fun td h h0 => by
    obtain ⟨u, hu⟩ := h
    rw [← hu] at hhd
    cases td with
    | nil => exact absurd rfl h0
    | cons a l => exact hhd
  refine enter D (rtE rb root rt eb :: ecE eb zb :: zzE zb rb z :: ents T) Tryd.func124 rfl Tryd.ntmps124 rfl rfl hH fun c hc => ?_
  subst hc
  refine GC.seq ?_
  refine GC.reg ?_  -- region 0, router.go:213
  refine G.v (V.mv rfl) rfl ?_
  refine G.callP Tryd.call123 rfl rfl (fun w1 _ => f123_any w1 p0 hp0) ?_
  refine G.v (V.asg rfl) rfl ?_
  refine G.nil ?_
  refine GC.seq ?_
  refine GC.reg ?_  -- region 1, router.go:214
  refine G.new (kb := .row [] 9 (0, 0)) (v := fun b => .slice (some ⟨b, 0, none⟩) 0 0) (fun a w1 ha hw1 => ?_) rfl (fun nb hnb => ?_)
  · have h0 : Array.range 0 = #[] := rfl
    simp [execOp, Instr.buildSlice, underlying, Tryd.underlying24, Tryd.sizeOf9, Instr.fill, newRow, Blk.den, h0]
  refine G.v (V.asg rfl) rfl ?_
  refine G.nil ?_
  refine GC.seq ?_
  refine GC.reg ?_  -- region 2, router.go:215
  refine G.v (V.mv rfl) rfl ?_
  refine G.v (V.asg rfl) rfl ?_
  refine G.nil ?_
  refine GC.seq ?_
  refine GC.seq ?_
  refine GC.reg ?_  -- region 3, router.go:217
  refine G.v (V.mv rfl) rfl ?_
  refine G.v (V.lenS Tryd.underlying9 rfl) rfl ?_
  refine G.v (V.asg rfl) rfl ?_
  refine G.v (V.asg rfl) rfl ?_
  refine G.nil ?_
  refine GC.block ?_
  refine GC.turn (H' := rtE rb root rt eb :: ecE eb zb :: zzE zb rb z :: (ents T ++ [⟨nb, true, .row [] 9 (0, 0)⟩])) (fun w1 hw1 => hw1.perm (List.perm_append_comm (l₁ := [(⟨nb, true, .row [] 9 (0, 0)⟩ : Ent)]))) ?_
  refine GC.loopJ (fun N fr' H' => ∃ td rest ns pad pcp Hn T1 q1 Rn i z1 k, List.length rest = N ∧ toks = td ++ (prs rest none).1 ∧ names = ns ++ (prs rest none).2 ∧ okR rest ∧ (∀ c ∈ tb td, c ≠ 92) ∧ td.length + rest.length ≤ p0.length ∧ (i = td.length ∨ (rest = [] ∧ i = td.length + 1)) ∧ (td = [] → rest = p0) ∧
      Sh T1 q1 (Rn ++ R) root ∧ EvR toks meth Rn ∧ (∀ p u r, td = p ++ u :: r → ¬ u.st → ∃ e ∈ Rn, e.tk = p ++ [u]) ∧ (∀ r ∈ T1, r.ok (B + 4 * td.length)) ∧ Own 9 1 (.slice pad ns.length pcp) ns.length (ns.map S) Hn ∧ k ≤ names.length ∧ z1 = max z k ∧
      Sub [(0, Pt rb 0), (1, S meth), (2, S (tb td ++ rest)), (3, Pt hh 0), (8, .slice pad ns.length pcp), (9, S p0), (10, I ((i : Nat) : Int)), (11, I (((tb td ++ rest).length : Nat) : Int))] fr' ∧ H' = rtE rb root rt eb :: ecE eb zb :: zzE zb rb z1 :: (ents T1 ++ Hn)) p0.length
    ⟨[], p0, [], some ⟨nb, 0, none⟩, 0, [⟨nb, true, .row [] 9 (0, 0)⟩], T, q, [], 0, z, 0, rfl, htoks.symm, hnames.symm, hok0, fun c hc => (by cases hc), by simp, .inl rfl, fun _ => rfl, hs, fun e he => (by cases he), fun p u r e => (by cases p <;> cases e), fun r hr => (hok r hr).mono (by omega), .row (spare := []) rfl rfl (Nat.le_refl _), Nat.zero_le _, (by simp), .cons rfl (.cons rfl (.cons rfl (.cons rfl (.cons rfl (.cons rfl (.cons rfl (.cons rfl .nil))))))), rfl⟩ ?_
  rintro N fr' H' ⟨td, rest, ns, pad, pcp, Hn, T1, q1, Rn, i, z1, k, hN, ht, hn, hokr, h92, hlen, hi, htd0, hsh, hev, hpos, hok1, hown, hk, hz1, hs1, rfl⟩ ih
  refine GC.weak hs1 ?_
  clear hs1
  have htbl : (tb td).length = td.length := by simp [tb]
  have htdp : td <+: toks := ⟨_, ht.symm⟩
  have hnsl : ns.length = cnt td := by
    have h1 := prs_cnt rest none
    have h2 := congrArg cnt ht
    have h3 := congrArg List.length hn
    rw [cnt_app] at h2
    simp at h1 h3
    omega
  have hnsb : ns.length ≤ td.length := by rw [hnsl, cnt]; exact List.length_filter_le _ _
  refine GC.seq ?_
  refine GC.seq ?_
  refine GC.reg ?_  -- region 4, router.go:217
  refine G.v (V.mv rfl) rfl ?_
  refine G.v (V.mv rfl) rfl ?_
  refine G.v (V.lt rfl rfl) rfl ?_
  refine G.nil ?_
  refine GC.condD rfl (fun h21 => ?_) (fun h21 => ?_)
  · refine GC.skip ?_
    refine GC.seq ?_
    refine GC.block ?_
    refine GC.seq ?_
    have hi1 : i = td.length := by
      rcases hi with h | ⟨h, h2⟩
      · exact h
      · rw [h] at h21; simp at h21; omega
    subst hi1
    obtain ⟨c, rest1, rfl⟩ : ∃ c rest1, rest = c :: rest1 := by
      cases rest with
      | nil => simp at h21; omega
      | cons c r => exact ⟨c, r, rfl⟩
    have hpath : (tb td ++ c :: rest1).length = td.length + (rest1.length + 1) := by simp [tb]
    simp only [List.length_cons] at hlen hN
    have hci : (tb td ++ c :: rest1)[td.length]? = some c := by rw [List.getElem?_append_right (by omega), htbl]; simp
    refine GC.reg ?_  -- region 6, router.go:218
    refine G.v (V.mv rfl) rfl ?_
    refine G.v (V.mv rfl) rfl ?_
    refine G.v (V.idx (i := td.length) (b := c) Tryd.underlying9 rfl rfl hci) rfl ?_
    refine G.v (V.eqI rfl rfl) rfl ?_
    refine G.nil ?_
    refine GC.condD rfl (fun h27 => ?_) (fun h27 => ?_)
    · refine GC.seq ?_
      refine GC.seq ?_
      have hc : c = 58 := UInt8.toNat_inj.1 (show c.toNat = 58 by omega)
      subst hc
      have htdn : td ≠ [] := fun e => by
        have := htd0 e
        rw [← this] at hp0; simp at hp0
      have htdl : 0 < td.length := List.length_pos_iff.2 htdn
      have hprs1 : prs (58 :: rest1) none = (.P :: (prs rest1 (some [])).1, (prs rest1 (some [])).2) := rfl
      rw [hprs1] at ht hn
      refine GC.reg ?_  -- region 7, router.go:219
      refine G.v (V.mv rfl) rfl ?_
      refine G.v (V.gt rfl rfl) rfl ?_
      refine G.v (V.mv rfl) rfl ?_
      refine G.bc 30 rfl (fun h30 => ?_) (fun h30 => ?_)
      · have hgi := of_decide_eq_true h30
        refine G.vg rfl rfl (V.mv rfl) rfl ?_
        refine G.vg rfl rfl (V.mv rfl) rfl ?_
        refine G.vg rfl rfl (V.subI (r := ((td.length - 1 : Nat) : Int)) rfl rfl (by omega) (by omega) (by omega)) rfl ?_
        obtain ⟨x, hx1, hx2⟩ : ∃ x, (tb td ++ 58 :: rest1)[td.length - 1]? = some x ∧ x ≠ 92 := by
          have hlt : td.length - 1 < (tb td).length := by omega
          rw [List.getElem?_append_left hlt]
          exact ⟨(tb td)[td.length - 1], List.getElem?_eq_getElem hlt, h92 _ (List.getElem_mem hlt)⟩
        refine G.vg rfl rfl (V.idx (i := td.length - 1) (b := x) Tryd.underlying9 rfl rfl hx1) rfl ?_
        refine G.vg rfl rfl (V.eqI rfl rfl) rfl ?_
        refine G.v (V.pickT rfl rfl) rfl ?_
        refine G.nil ?_
        refine GC.condD rfl (fun h36 => absurd (UInt8.toNat_inj.1 (show x.toNat = 92 by omega)) hx2) (fun h36 => ?_)
        refine GC.skip ?_
        refine GC.seq ?_
        refine GC.reg ?_  -- region 11, router.go:225
        refine G.v (V.mv rfl) rfl ?_
        refine G.v (V.addI rfl rfl rfl (by omega) (by omega)) rfl ?_
        refine G.v (V.asg rfl) rfl ?_
        refine G.nil ?_
        refine GC.seq ?_
        refine GC.reg ?_  -- region 12, router.go:227
        refine G.v (V.mv rfl) rfl ?_
        refine G.v (V.mv rfl) rfl ?_
        refine G.v (V.mv rfl) rfl ?_
        refine G.v (V.mv rfl) rfl ?_
        refine G.v (V.slHe (l' := tb td) Tryd.underlying9 rfl rfl (by omega) (by rw [List.take_append_of_le_length (by omega), List.take_of_length_le (by omega)])) rfl ?_
        refine G.v (V.bd (vs := []) rfl (fun w1 => zero152 w1)) rfl ?_
        have hpre1 : Pre T1 q1 0 none 0 td := ⟨fun u hu => htok u (htdp.subset hu), hpfx td htdp htdn, fun p r e => (htA p (r ++ (.P :: (prs rest1 (some [])).1)) (by rw [ht, e]; simp) |> fun h => (List.append_eq_nil_iff.1 h).1), fun p u r e hu => .inl (by obtain ⟨e1, he1, he2⟩ := hpos p u r e hu; obtain ⟨y, hy, hq⟩ := hsh.ent e1 (List.mem_append_left _ he1); exact ⟨y, hy, hq.trans he2⟩), fun h => (by cases h), fun h => (by cases h), by omega, fun h => (by cases h), fun h => (by cases h)⟩
        refine G.insN hsh (toks := td) (t := 0) (hp := none) (pp := []) (pad := none) (np := 0) (pcp := 0) (z := z1) hpre1 (hRl' _ hev) hok1 (by omega) hml (by omega) rfl rfl rfl (fun h2 T2 q2 hsh2 hok2 => ?_)
        rw [Nat.max_eq_left (Nat.zero_le z1)]
        refine G.turn (fun w1 hw1 => hw1.sub (List.sublist_cons_self _ _)) ?_
        refine G.nil ?_
        refine GC.seq ?_
        refine GC.join (fun fr' H' => ∃ acc rest2, rest1 = acc ++ rest2 ∧ (∀ c ∈ acc, c ≠ 47) ∧ (rest2 = [] ∨ ∃ r, rest2 = 47 :: r) ∧ Sub [(0, Pt rb 0), (1, S meth), (2, S (tb td ++ 58 :: rest1)), (3, Pt hh 0), (8, .slice pad ns.length pcp), (9, S p0), (11, I (((tb td ++ 58 :: rest1).length : Nat) : Int)), (12, I ((td.length + 1 : Nat) : Int)), (10, I ((td.length + 1 + acc.length : Nat) : Int))] fr' ∧ H' = rtE rb root rt eb :: ecE eb zb :: zzE zb rb z1 :: (ents T2 ++ Hn)) (fun J2 => ?_) ?_
        · refine GC.block ?_
          refine GC.loopJ (fun N fr' H' => ∃ sc rest2, 58 :: rest1 = sc ++ rest2 ∧ List.length rest2 = N ∧ (∀ c ∈ sc, c ≠ 47) ∧ Sub [(0, Pt rb 0), (1, S meth), (2, S (tb td ++ 58 :: rest1)), (3, Pt hh 0), (8, .slice pad ns.length pcp), (9, S p0), (11, I (((tb td ++ 58 :: rest1).length : Nat) : Int)), (12, I ((td.length + 1 : Nat) : Int)), (10, I ((td.length + sc.length : Nat) : Int))] fr' ∧ H' = rtE rb root rt eb :: ecE eb zb :: zzE zb rb z1 :: (ents T2 ++ Hn)) (rest1.length + 1)
            ⟨[], 58 :: rest1, rfl, rfl, fun c hc => (by cases hc), .cons rfl (.cons rfl (.cons rfl (.cons rfl (.cons rfl (.cons rfl (.cons rfl (.cons rfl (.cons rfl .nil)))))))), rfl⟩ ?_
          rintro N2 fr' H' ⟨sc, rest2, hsc, hN2, h47, hs2, rfl⟩ ih2
          refine GC.weak hs2 ?_
          clear hs2
          have hscl : sc.length + rest2.length = rest1.length + 1 := by have := congrArg List.length hsc; simp at this; omega
          refine GC.seq ?_
          refine GC.seq ?_
          refine GC.reg ?_  -- region 13, router.go:228
          refine G.v (V.mv rfl) rfl ?_
          refine G.v (V.mv rfl) rfl ?_
          refine G.v (V.lt rfl rfl) rfl ?_
          refine G.v (V.mv rfl) rfl ?_
          refine G.bc 61 rfl (fun h61 => ?_) (fun h61 => ?_)
          · have hlt := of_decide_eq_true h61
            obtain ⟨x, rest3, rfl⟩ : ∃ x rest3, rest2 = x :: rest3 := by
              cases rest2 with
              | nil => simp at hscl; omega
              | cons x r => exact ⟨x, r, rfl⟩
            have hxi : (tb td ++ 58 :: rest1)[td.length + sc.length]? = some x := by rw [hsc, ← List.append_assoc, List.getElem?_append_right (by simp [tb]), List.length_append, htbl]; simp
            refine G.vg rfl rfl (V.mv rfl) rfl ?_
            refine G.vg rfl rfl (V.mv rfl) rfl ?_
            refine G.vg rfl rfl (V.idx (i := td.length + sc.length) (b := x) Tryd.underlying9 rfl rfl hxi) rfl ?_
            refine G.vg rfl rfl (V.neI rfl rfl) rfl ?_
            refine G.v (V.pickT rfl rfl) rfl ?_
            refine G.nil ?_
            refine GC.cond rfl (fun h66 => ?_) (fun h66 => ?_)
            · refine GC.skip ?_
              refine GC.seq ?_
              refine GC.block ?_
              refine GC.skip ?_
              refine GC.inBlock ?_
              refine GC.reg ?_  -- region 14, router.go:228
              refine G.v (V.mv rfl) rfl ?_
              refine G.v (V.addI (r := ((td.length + (sc ++ [x]).length : Nat) : Int)) rfl rfl (by simp; omega) (by omega) (by simp; omega)) rfl ?_
              refine G.v (V.asg rfl) rfl ?_
              refine G.nil ?_
              exact ih2 (N2 - 1) _ _ (by simp at hN2; omega) ⟨sc ++ [x], rest3, by rw [hsc]; simp, by simp at hN2; omega, fun c hc => (by
                rcases List.mem_append.1 hc with hc | hc
                · exact h47 c hc
                · rw [List.mem_singleton.1 hc]; intro e; rw [e] at h66; simp at h66), .cons rfl (.cons rfl (.cons rfl (.cons rfl (.cons rfl (.cons rfl (.cons rfl (.cons rfl (.cons rfl .nil)))))))), rfl⟩
            refine GC.exit rfl ?_
            have hx : x = 47 := by
              have : (x.toNat : Int) = 47 := by simpa using h66
              exact UInt8.toNat_inj.1 (show x.toNat = 47 by omega)
            subst hx
            have hr2 : (47 :: rest3 = [] ∨ ∃ r, 47 :: rest3 = 47 :: r) := .inr ⟨_, rfl⟩
            cases sc with
            | nil => exfalso; simp at hsc <;> simp_all
            | cons a acc =>
              simp only [List.cons_append, List.cons.injEq] at hsc
              obtain ⟨rfl, rfl⟩ := hsc
              refine J2 _ _ ⟨acc, (47 :: rest3), rfl, fun c hc => h47 c (.tail _ hc), hr2, ?_, rfl⟩
              rw [show td.length + 1 + acc.length = td.length + (58 :: acc).length by simp; omega]
              exact .cons rfl (.cons rfl (.cons rfl (.cons rfl (.cons rfl (.cons rfl (.cons rfl (.cons rfl (.cons rfl .nil))))))))
          · refine G.sg rfl rfl rfl rfl rfl rfl ?_
            refine G.sg rfl rfl rfl rfl rfl rfl ?_
            refine G.sg rfl rfl rfl rfl rfl rfl ?_
            refine G.sg rfl rfl rfl rfl rfl rfl ?_
            refine G.v (V.pickF rfl rfl) rfl ?_
            refine G.nil ?_
            refine GC.condF rfl ?_
            refine GC.exit rfl ?_
            have hge := of_decide_eq_false h61
            have hnil : rest2 = [] := by
              cases rest2 with
              | nil => rfl
              | cons x r => exfalso; simp at hscl; omega
            subst hnil
            have hr2 : (([] : List UInt8) = [] ∨ ∃ r, ([] : List UInt8) = 47 :: r) := .inl rfl
            cases sc with
            | nil => exfalso; simp at hsc
            | cons a acc =>
              simp only [List.cons_append, List.cons.injEq] at hsc
              obtain ⟨rfl, rfl⟩ := hsc
              refine J2 _ _ ⟨acc, [], rfl, fun c hc => h47 c (.tail _ hc), hr2, ?_, rfl⟩
              rw [show td.length + 1 + acc.length = td.length + (58 :: acc).length by simp; omega]
              exact .cons rfl (.cons rfl (.cons rfl (.cons rfl (.cons rfl (.cons rfl (.cons rfl (.cons rfl (.cons rfl .nil))))))))
        rintro fr' H' ⟨acc, rest2, rfl, hacc, hr2, hs2, rfl⟩
        refine GC.weak hs2 ?_
        clear hs2
        have hev2 : EvR toks meth (⟨td, none⟩ :: ⟨td, none⟩ :: Rn) := fun e he => by
          simp only [List.mem_cons] at he
          rcases he with rfl | rfl | he
          · exact ⟨htdp, .inl rfl⟩
          · exact ⟨htdp, .inl rfl⟩
          · exact hev e he
        refine GC.seq ?_
        have hp2l : (tb td ++ 58 :: (acc ++ rest2)).length = td.length + (1 + acc.length + rest2.length) := by simp [tb]; omega
        have hall : acc.length + rest2.length = (acc ++ rest2).length := by simp
        have hscan := prs_scan acc rest2 [] hacc
        rw [List.nil_append] at hscan
        rw [hscan] at ht hn
        have hsl : ((tb td ++ 58 :: (acc ++ rest2)).take (td.length + 1 + acc.length)).drop (td.length + 1) = acc := by
          have e1 : (tb td ++ 58 :: (acc ++ rest2)) = (tb td ++ [58]) ++ (acc ++ rest2) := by simp
          have e2 : (tb td ++ [58]).length = td.length + 1 := by simp [tb]
          rw [e1, List.take_append, List.take_of_length_le (by omega), e2, List.drop_append, List.drop_of_length_le (by omega), e2]
          simp
        refine GC.reg ?_  -- region 15, router.go:231
        refine G.v (V.mv rfl) rfl ?_
        refine G.v (V.mv rfl) rfl ?_
        refine G.v (V.mv rfl) rfl ?_
        refine G.v (V.mv rfl) rfl ?_
        refine G.v (V.slLHe (l' := acc) Tryd.underlying9 rfl rfl rfl (by omega) (by omega) hsl) rfl ?_
        refine G.bs (BS.one Tryd.underlying24 Tryd.sizeOf9 Tryd.zeroValue9 (v := S acc) rfl) rfl rfl (fun tb1 htbw => ?_)
        refine G.app (i := Tryd.t9) (sz := 1) (by_ := 16) Tryd.underlying24 rfl rfl rfl rfl rfl rfl rfl hown (H' := (⟨tb1, true, .row [S acc] 9 (0, 0)⟩ :: rtE rb root rt eb :: ecE eb zb :: zzE zb rb z1 :: ents T2)) ?_ (src_row (vs := [S acc]) (r := []) (.head _)) rfl (by simp [Value.oneCell']) (by omega) (by omega) (by omega) rfl (fun sv2 Hn2 hown2 => ?_)
        · have p := perm_idx [[⟨tb1, true, .row [S acc] 9 (0, 0)⟩, rtE rb root rt eb, ecE eb zb, zzE zb rb z1], ents T2, Hn] [0, 1, 2] [2, 0, 1] (by decide)
          refine List.Perm.trans (.of_eq ?_) (p.trans (.of_eq ?_)) <;> simp
        obtain ⟨pad2, pcp2, rfl⟩ := hown2.slice
        refine G.turn (H' := rtE rb root rt eb :: ecE eb zb :: zzE zb rb z1 :: (ents T2 ++ Hn2)) (fun w1 hw1 => HF.sub (H := (⟨tb1, true, .row [S acc] 9 (0, 0)⟩ :: rtE rb root rt eb :: ecE eb zb :: zzE zb rb z1 :: ents T2) ++ Hn2) hw1 (List.sublist_cons_self _ _)) ?_
        refine G.v (V.asg rfl) rfl ?_
        refine G.nil ?_
        refine GC.seq ?_
        have hq1 : (tb td ++ 58 :: (acc ++ rest2)).take (td.length + 1) = tb td ++ [58] := by
          have e1 : (tb td ++ 58 :: (acc ++ rest2)) = (tb td ++ [58]) ++ (acc ++ rest2) := by simp
          rw [e1, List.take_append_of_le_length (by simp [tb]), List.take_of_length_le (by simp [tb])]
        have hq2 : (tb td ++ 58 :: (acc ++ rest2)).drop (td.length + 1 + acc.length) = rest2 := by
          have e1 : (tb td ++ 58 :: (acc ++ rest2)) = (tb td ++ 58 :: acc) ++ rest2 := by simp
          have e3 : td.length + 1 + acc.length - (tb td ++ 58 :: acc).length = 0 := by simp [tb]; omega
          rw [e1, List.drop_append, List.drop_of_length_le (by simp [tb]; omega), e3]
          simp
        refine GC.regQ mixed (by kernel_rfl) ?_  -- region 16, router.go:232
        refine GQ.v (V.mv rfl) rfl ?_
        refine GQ.v (V.mv rfl) rfl ?_
        refine GQ.v (V.slHe Tryd.underlying9 rfl rfl (by omega) hq1) rfl ?_
        refine GQ.v (V.mv rfl) rfl ?_
        refine GQ.v (V.mv rfl) rfl ?_
        refine GQ.v (V.slLe Tryd.underlying9 rfl rfl (by omega) hq2) rfl ?_
        refine GQ.v (V.cat rfl rfl (by simp [tb]; omega)) rfl ?_
        refine GQ.v (V.asg rfl) rfl ?_
        refine GQ.nil ?_
        refine GC.seq ?_
        have htd1 : td ++ [Tok.P] <+: toks := ⟨(prs rest2 (some acc)).1, by rw [ht]; simp⟩
        have hp3 : (tb td ++ [58] ++ rest2).length = td.length + 1 + rest2.length := by simp [tb]; omega
        have htb1 : tb (td ++ [Tok.P]) = tb td ++ [58] := by simp [tb, Tok.byte]
        have hq3 : (tb td ++ [58] ++ rest2).take (td.length + 1) = tb (td ++ [Tok.P]) := by rw [htb1, List.take_append_of_le_length (by simp [tb]), List.take_of_length_le (by simp [tb])]
        refine GC.reg ?_  -- region 17, router.go:233
        refine G.v (V.mv rfl) rfl ?_
        refine G.v (V.mv rfl) rfl ?_
        refine G.v (V.lenS Tryd.underlying9 rfl) rfl ?_
        refine G.v (V.asg rfl) rfl ?_
        refine G.v (V.asg rfl) rfl ?_
        refine G.nil ?_
        refine GC.seq ?_
        have hpre2 : ∀ (hp : Option Nat) (np : Nat), (hp.isSome = true → np = cnt (td ++ [Tok.P])) → (1 = 2 → hp.isSome = true) → Pre T2 q2 1 hp np (td ++ [Tok.P]) := by
          intro hp np hnp h22
          refine ⟨fun u hu => htok u (htd1.subset hu), hpfx _ htd1 (by simp), fun p r e => ?_, fun p u r e hu => ?_, fun h => ⟨td, rfl⟩, fun h => (by cases h), by omega, hnp, h22⟩
          · obtain ⟨x, hx⟩ := htd1
            rw [e] at hx
            exact (List.append_eq_nil_iff.1 (htA p (r ++ x) (by rw [← hx]; simp))).1
          · rcases pos_snoc e with ⟨h1, h2, h3⟩ | ⟨r1, h1, h2⟩
            · obtain ⟨y, hy, hq⟩ := hsh2.ent ⟨td, none⟩ (.head _)
              exact .inr ⟨h1, ⟨y, hy, by rw [h2]; exact hq⟩, .inl ⟨rfl, h3⟩⟩
            · obtain ⟨e1, he1, he2⟩ := hpos p u r1 h2 hu
              obtain ⟨y, hy, hq⟩ := hsh2.ent e1 (.tail _ (.tail _ (List.mem_append_left _ he1)))
              exact .inl ⟨y, hy, hq.trans he2⟩
        have hcnt1 : ns.length + 1 = cnt (td ++ [Tok.P]) := by rw [cnt_app, hnsl]; rfl
        refine GC.reg ?_  -- region 18, router.go:235
        refine G.v (V.mv rfl) rfl ?_
        refine G.v (V.mv rfl) rfl ?_
        refine G.v (V.eqI rfl rfl) rfl ?_
        refine G.nil ?_
        refine GC.condD rfl (fun h88 => ?_) (fun h88 => ?_)
        · have hnil : rest2 = [] := List.length_eq_zero_iff.1 (by omega)
          subst hnil
          have ht1 : toks = td ++ [Tok.P] := ht
          have hn1 : names = ns ++ [acc] := hn
          refine GC.reg ?_  -- region 19, router.go:237
          refine G.v (V.mv rfl) rfl ?_
          refine G.v (V.mv rfl) rfl ?_
          refine G.v (V.mv rfl) rfl ?_
          refine G.v (V.mv rfl) rfl ?_
          refine G.v (V.slHe Tryd.underlying9 rfl rfl (by omega) hq3) rfl ?_
          refine G.v (V.mv rfl) rfl ?_
          refine G.v (V.mv rfl) rfl ?_
          refine G.v (V.mv rfl) rfl ?_
          refine G.v (V.bd (vs := [(1, S p0), (2, .slice pad2 (ns.length + 1) pcp2), (0, Pt hh 0)]) rfl (fun w1 => full152 hh p0 pad2 (ns.length + 1) pcp2 w1)) rfl ?_
          refine G.insN hsh2 (toks := td ++ [Tok.P]) (t := 1) (hp := some hh) (pp := p0) (pad := pad2) (np := ns.length + 1) (pcp := pcp2) (z := z1) (hpre2 (some hh) (ns.length + 1) (fun _ => hcnt1) (fun _ => rfl)) (hRl' _ hev2) hok2 (by omega) hml (by rw [← ht1]; omega) rfl rfl rfl (fun h3 T3 q3 hsh3 hok3 => ?_)
          refine G.turn (fun w1 hw1 => hw1.sub (List.sublist_cons_self _ _)) ?_
          refine G.nil ?_
          refine GC.inBlock ?_
          refine GC.reg ?_  -- region 5, router.go:217
          refine G.v (V.mv rfl) rfl ?_
          refine G.v (V.addI rfl rfl rfl (by omega) (by omega)) rfl ?_
          refine G.v (V.asg rfl) rfl ?_
          refine G.nil ?_
          have hev3 : EvR toks meth (⟨(td ++ [Tok.P]), some (meth, h3)⟩ :: ⟨(td ++ [Tok.P]), none⟩ :: ⟨td, none⟩ :: ⟨td, none⟩ :: Rn) := fun e he => by
            rcases List.mem_cons.1 he with rfl | he
            · exact ⟨htd1, .inr ⟨h3, by rw [ht1], rfl⟩⟩
            · rcases List.mem_cons.1 he with rfl | he
              · exact ⟨htd1, .inl rfl⟩
              · exact hev2 e he
          have hpos3 : ∀ p u r, (td ++ [Tok.P]) = p ++ u :: r → ¬ u.st → ∃ e ∈ ((⟨(td ++ [Tok.P]), some (meth, h3)⟩ :: ⟨(td ++ [Tok.P]), none⟩ :: ⟨td, none⟩ :: ⟨td, none⟩ :: Rn) : List En), e.tk = p ++ [u] := fun p u r e hu => by
            rcases pos_snoc e with ⟨h1, h2, h3⟩ | ⟨r1, h1, h2⟩
            · exact ⟨_, .head _, by rw [h2, h3]⟩
            · obtain ⟨e1, he1, he2⟩ := hpos p u r1 h2 hu
              exact ⟨e1, .tail _ (.tail _ (.tail _ (.tail _ he1))), he2⟩
          refine ih 0 _ _ (by simp at hN; omega) ⟨td ++ [Tok.P], [], ns ++ [acc], pad2, pcp2, Hn2, T3, q3, ⟨td ++ [Tok.P], some (meth, h3)⟩ :: ⟨td ++ [Tok.P], none⟩ :: ⟨td, none⟩ :: ⟨td, none⟩ :: Rn, td.length + 2, max z1 (ns.length + 1), max k (ns.length + 1), rfl, by rw [ht1]; simp [prs], by rw [hn1]; simp [prs], trivial, ?_, by simp; omega, .inr ⟨rfl, by simp⟩, fun h => by simp at h, hsh3, hev3, hpos3, fun r hr => (hok3 r hr).mono (by simp; omega), ?_, ?_, by rw [hz1]; omega, ?_, rfl⟩
          · intro c hc
            rw [htb1] at hc
            rcases List.mem_append.1 hc with hc | hc
            · exact h92 c hc
            · rw [List.mem_singleton.1 hc]; decide
          · simpa using hown2
          · rw [hn1] at hk ⊢; simp at hk ⊢; omega
          · rw [show tb (td ++ [Tok.P]) ++ ([] : List UInt8) = tb td ++ [58] ++ [] by rw [htb1], show (ns ++ [acc]).length = ns.length + 1 by simp]
            exact .cons rfl (.cons rfl (.cons rfl (.cons rfl (.cons rfl (.cons rfl (.cons rfl (.cons rfl .nil)))))))
        obtain ⟨r4, rfl⟩ : ∃ r, rest2 = 47 :: r := by
          rcases hr2 with h | h
          · exact absurd (by rw [h] at hp3 ⊢; simp [tb]) h88
          · exact h
        have ht2 : toks = td ++ [Tok.P, Tok.b 47] ++ (prs r4 none).1 := by rw [ht]; simp [prs]
        have hn2 : names = ns ++ [acc] ++ (prs r4 none).2 := by rw [hn]; simp [prs]
        have htl1 := htd1.length_le
        refine GC.reg ?_  -- region 20, router.go:239
        refine G.v (V.mv rfl) rfl ?_
        refine G.v (V.mv rfl) rfl ?_
        refine G.v (V.mv rfl) rfl ?_
        refine G.v (V.mv rfl) rfl ?_
        refine G.v (V.slHe Tryd.underlying9 rfl rfl (by omega) hq3) rfl ?_
        refine G.v (V.bd (vs := []) rfl (fun w1 => zero152 w1)) rfl ?_
        refine G.insN hsh2 (toks := td ++ [Tok.P]) (t := 1) (hp := none) (pp := []) (pad := none) (np := 0) (pcp := 0) (z := z1) (hpre2 none 0 (fun h => by cases h) (fun h => by cases h)) (hRl' _ hev2) hok2 (by omega) hml (by omega) rfl rfl rfl (fun h3 T3 q3 hsh3 hok3 => ?_)
        rw [Nat.max_eq_left (Nat.zero_le z1)]
        refine G.turn (fun w1 hw1 => hw1.sub (List.sublist_cons_self _ _)) ?_
        refine G.nil ?_
        refine GC.inBlock ?_
        refine GC.reg ?_  -- region 5, router.go:217
        refine G.v (V.mv rfl) rfl ?_
        refine G.v (V.addI rfl rfl rfl (by omega) (by omega)) rfl ?_
        refine G.v (V.asg rfl) rfl ?_
        refine G.nil ?_
        have hev3 : EvR toks meth (⟨(td ++ [Tok.P]), none⟩ :: ⟨(td ++ [Tok.P]), none⟩ :: ⟨td, none⟩ :: ⟨td, none⟩ :: Rn) := fun e he => by
          rcases List.mem_cons.1 he with rfl | he
          · exact ⟨htd1, .inl rfl⟩
          · rcases List.mem_cons.1 he with rfl | he
            · exact ⟨htd1, .inl rfl⟩
            · exact hev2 e he
        have hpos3 : ∀ p u r, (td ++ [Tok.P]) = p ++ u :: r → ¬ u.st → ∃ e ∈ ((⟨(td ++ [Tok.P]), none⟩ :: ⟨(td ++ [Tok.P]), none⟩ :: ⟨td, none⟩ :: ⟨td, none⟩ :: Rn) : List En), e.tk = p ++ [u] := fun p u r e hu => by
          rcases pos_snoc e with ⟨h1, h2, h3⟩ | ⟨r1, h1, h2⟩
          · exact ⟨_, .head _, by rw [h2, h3]⟩
          · obtain ⟨e1, he1, he2⟩ := hpos p u r1 h2 hu
            exact ⟨e1, .tail _ (.tail _ (.tail _ (.tail _ he1))), he2⟩
        have htb2 : tb (td ++ [Tok.P, Tok.b 47]) ++ r4 = tb td ++ [58] ++ 47 :: r4 := by simp [tb, Tok.byte]
        refine ih r4.length _ _ (by simp at hN; omega) ⟨td ++ [Tok.P, Tok.b 47], r4, ns ++ [acc], pad2, pcp2, Hn2, T3, q3, ⟨td ++ [Tok.P], none⟩ :: ⟨td ++ [Tok.P], none⟩ :: ⟨td, none⟩ :: ⟨td, none⟩ :: Rn, td.length + 2, z1, k, rfl, ht2, hn2, hokr.2.2.app.2.2, ?_, by simp at hlen ⊢; omega, .inl (by simp), fun h => by simp at h, hsh3, hev3, ?_, fun r hr => (hok3 r hr).mono (by simp; omega), ?_, hk, hz1, ?_, rfl⟩
        · intro c hc
          rw [show tb (td ++ [Tok.P, Tok.b 47]) = tb td ++ [58, 47] by simp [tb, Tok.byte]] at hc
          rcases List.mem_append.1 hc with hc | hc
          · exact h92 c hc
          · simp only [List.mem_cons, List.not_mem_nil, or_false] at hc
            rcases hc with rfl | rfl <;> decide
        · intro p u r e hu
          have e2 : (td ++ [Tok.P]) ++ [Tok.b 47] = p ++ u :: r := by rw [← e]; simp
          rcases pos_snoc e2 with ⟨h1, h2, h3⟩ | ⟨r1, h1, h2⟩
          · exact absurd (by rw [h3]; exact ⟨by decide, by decide⟩) hu
          · exact hpos3 p u r1 h2 hu
        · simpa using hown2
        · rw [htb2, show (ns ++ [acc]).length = ns.length + 1 by simp]
          exact .cons rfl (.cons rfl (.cons rfl (.cons rfl (.cons rfl (.cons rfl (.cons rfl (.cons rfl .nil)))))))
      · exact absurd h30 (by simp; omega)
    refine GC.seq ?_
    refine GC.reg ?_  -- region 21, router.go:241
    refine G.v (V.mv rfl) rfl ?_
    refine G.v (V.mv rfl) rfl ?_
    refine G.v (V.idx (i := td.length) (b := c) Tryd.underlying9 rfl rfl hci) rfl ?_
    refine G.v (V.eqI rfl rfl) rfl ?_
    refine G.nil ?_
    refine GC.condD rfl (fun h109 => ?_) (fun h109 => ?_)
    · refine GC.seq ?_
      have hc : c = 42 := UInt8.toNat_inj.1 (show c.toNat = 42 by omega)
      subst hc
      have hr1 : rest1 = [] := hokr.2.1 rfl
      subst hr1
      have htdn : td ≠ [] := fun e => by
        have := htd0 e
        rw [← this] at hp0; simp at hp0
      have ht1 : toks = td ++ [Tok.A] := ht
      have hn1 : names = ns ++ [[42]] := hn
      have htd1 : td ++ [Tok.A] <+: toks := ⟨[], by rw [ht1]; simp⟩
      have htb1 : tb (td ++ [Tok.A]) = tb td ++ [42] := by simp [tb, Tok.byte]
      refine GC.reg ?_  -- region 22, router.go:242
      refine G.v (V.mv rfl) rfl ?_
      refine G.v (V.mv rfl) rfl ?_
      refine G.v (V.mv rfl) rfl ?_
      refine G.v (V.mv rfl) rfl ?_
      refine G.v (V.slHe (l' := tb td) Tryd.underlying9 rfl rfl (by omega) (by rw [List.take_append_of_le_length (by omega), List.take_of_length_le (by omega)])) rfl ?_
      refine G.v (V.bd (vs := []) rfl (fun w1 => zero152 w1)) rfl ?_
      have hpre1 : Pre T1 q1 0 none 0 td := ⟨fun u hu => htok u (htdp.subset hu), hpfx td htdp htdn, fun p r e => (htA p (r ++ [Tok.A]) (by rw [ht1, e]; simp) |> fun h => (List.append_eq_nil_iff.1 h).1), fun p u r e hu => .inl (by obtain ⟨e1, he1, he2⟩ := hpos p u r e hu; obtain ⟨y, hy, hq⟩ := hsh.ent e1 (List.mem_append_left _ he1); exact ⟨y, hy, hq.trans he2⟩), fun h => (by cases h), fun h => (by cases h), by omega, fun h => (by cases h), fun h => (by cases h)⟩
      refine G.insN hsh (toks := td) (t := 0) (hp := none) (pp := []) (pad := none) (np := 0) (pcp := 0) (z := z1) hpre1 (hRl' _ hev) hok1 (by omega) hml (by omega) rfl rfl rfl (fun h2 T2 q2 hsh2 hok2 => ?_)
      rw [Nat.max_eq_left (Nat.zero_le z1)]
      refine G.turn (fun w1 hw1 => hw1.sub (List.sublist_cons_self _ _)) ?_
      have hev2 : EvR toks meth (⟨td, none⟩ :: ⟨td, none⟩ :: Rn) := fun e he => by
        simp only [List.mem_cons] at he
        rcases he with rfl | rfl | he
        · exact ⟨htdp, .inl rfl⟩
        · exact ⟨htdp, .inl rfl⟩
        · exact hev e he
      refine G.nil ?_
      refine GC.seq ?_
      refine GC.reg ?_  -- region 23, router.go:243
      refine G.v (V.mv rfl) rfl ?_
      refine G.bs (BS.one Tryd.underlying24 Tryd.sizeOf9 Tryd.zeroValue9 (v := S [42]) rfl) rfl rfl (fun tb1 htbw => ?_)
      refine G.app (i := Tryd.t9) (sz := 1) (by_ := 16) Tryd.underlying24 rfl rfl rfl rfl rfl rfl rfl hown (H' := (⟨tb1, true, .row [S [42]] 9 (0, 0)⟩ :: rtE rb root rt eb :: ecE eb zb :: zzE zb rb z1 :: ents T2)) ?_ (src_row (vs := [S [42]]) (r := []) (.head _)) rfl (by simp [Value.oneCell']) (by omega) (by omega) (by omega) rfl (fun sv2 Hn2 hown2 => ?_)
      · have p := perm_idx [[⟨tb1, true, .row [S [42]] 9 (0, 0)⟩, rtE rb root rt eb, ecE eb zb, zzE zb rb z1], ents T2, Hn] [0, 1, 2] [2, 0, 1] (by decide)
        refine List.Perm.trans (.of_eq ?_) (p.trans (.of_eq ?_)) <;> simp
      obtain ⟨pad2, pcp2, rfl⟩ := hown2.slice
      refine G.turn (H' := rtE rb root rt eb :: ecE eb zb :: zzE zb rb z1 :: (ents T2 ++ Hn2)) (fun w1 hw1 => HF.sub (H := (⟨tb1, true, .row [S [42]] 9 (0, 0)⟩ :: rtE rb root rt eb :: ecE eb zb :: zzE zb rb z1 :: ents T2) ++ Hn2) hw1 (List.sublist_cons_self _ _)) ?_
      refine G.v (V.asg rfl) rfl ?_
      refine G.nil ?_
      have hpre2 : ∀ (hp : Option Nat) (np : Nat), (hp.isSome = true → np = cnt (td ++ [Tok.A])) → (2 = 2 → hp.isSome = true) → Pre T2 q2 2 hp np (td ++ [Tok.A]) := by
        intro hp np hnp h22
        refine ⟨fun u hu => htok u (htd1.subset hu), hpfx _ htd1 (by simp), fun p r e => ?_, fun p u r e hu => ?_, fun h => (by cases h), fun h => ⟨td, rfl⟩, by omega, hnp, h22⟩
        · obtain ⟨x, hx⟩ := htd1
          rw [e] at hx
          exact (List.append_eq_nil_iff.1 (htA p (r ++ x) (by rw [← hx]; simp))).1
        · rcases pos_snoc e with ⟨h1, h2, h3⟩ | ⟨r1, h1, h2⟩
          · obtain ⟨y, hy, hq⟩ := hsh2.ent ⟨td, none⟩ (.head _)
            exact .inr ⟨h1, ⟨y, hy, by rw [h2]; exact hq⟩, .inr ⟨rfl, h3⟩⟩
          · obtain ⟨e1, he1, he2⟩ := hpos p u r1 h2 hu
            obtain ⟨y, hy, hq⟩ := hsh2.ent e1 (.tail _ (.tail _ (List.mem_append_left _ he1)))
            exact .inl ⟨y, hy, hq.trans he2⟩
      have hcnt1 : ns.length + 1 = cnt (td ++ [Tok.A]) := by rw [cnt_app, hnsl]; rfl
      have htl2 := htd1.length_le
      refine GC.reg ?_  -- region 24, router.go:244
      refine G.v (V.mv rfl) rfl ?_
      refine G.v (V.mv rfl) rfl ?_
      refine G.v (V.mv rfl) rfl ?_
      refine G.v (V.mv rfl) rfl ?_
      refine G.v (V.addI (r := ((td.length + 1 : Nat) : Int)) rfl rfl (by omega) (by omega) (by omega)) rfl ?_
      refine G.v (V.slHe (l' := tb (td ++ [Tok.A])) Tryd.underlying9 rfl rfl (by omega) (by rw [htb1, List.take_of_length_le (by simp [tb])])) rfl ?_
      refine G.v (V.mv rfl) rfl ?_
      refine G.v (V.mv rfl) rfl ?_
      refine G.v (V.mv rfl) rfl ?_
      refine G.v (V.bd (vs := [(1, S p0), (2, .slice pad2 (ns.length + 1) pcp2), (0, Pt hh 0)]) rfl (fun w1 => full152 hh p0 pad2 (ns.length + 1) pcp2 w1)) rfl ?_
      refine G.insN hsh2 (toks := td ++ [Tok.A]) (t := 2) (hp := some hh) (pp := p0) (pad := pad2) (np := ns.length + 1) (pcp := pcp2) (z := z1) (hpre2 (some hh) (ns.length + 1) (fun _ => hcnt1) (fun _ => rfl)) (hRl' _ hev2) hok2 (by omega) hml (by omega) rfl rfl rfl (fun h3 T3 q3 hsh3 hok3 => ?_)
      refine G.turn (fun w1 hw1 => hw1.sub (List.sublist_cons_self _ _)) ?_
      refine G.nil ?_
      refine GC.inBlock ?_
      refine GC.reg ?_  -- region 5, router.go:217
      refine G.v (V.mv rfl) rfl ?_
      refine G.v (V.addI rfl rfl rfl (by omega) (by omega)) rfl ?_
      refine G.v (V.asg rfl) rfl ?_
      refine G.nil ?_
      have hev3 : EvR toks meth (⟨(td ++ [Tok.A]), some (meth, h3)⟩ :: ⟨(td ++ [Tok.A]), none⟩ :: ⟨td, none⟩ :: ⟨td, none⟩ :: Rn) := fun e he => by
        rcases List.mem_cons.1 he with rfl | he
        · exact ⟨htd1, .inr ⟨h3, by rw [ht1], rfl⟩⟩
        · rcases List.mem_cons.1 he with rfl | he
          · exact ⟨htd1, .inl rfl⟩
          · exact hev2 e he
      have hpos3 : ∀ p u r, (td ++ [Tok.A]) = p ++ u :: r → ¬ u.st → ∃ e ∈ ((⟨(td ++ [Tok.A]), some (meth, h3)⟩ :: ⟨(td ++ [Tok.A]), none⟩ :: ⟨td, none⟩ :: ⟨td, none⟩ :: Rn) : List En), e.tk = p ++ [u] := fun p u r e hu => by
        rcases pos_snoc e with ⟨h1, h2, h3⟩ | ⟨r1, h1, h2⟩
        · exact ⟨_, .head _, by rw [h2, h3]⟩
        · obtain ⟨e1, he1, he2⟩ := hpos p u r1 h2 hu
          exact ⟨e1, .tail _ (.tail _ (.tail _ (.tail _ he1))), he2⟩
      refine ih 0 _ _ (by simp at hN; omega) ⟨td ++ [Tok.A], [], ns ++ [[42]], pad2, pcp2, Hn2, T3, q3, ⟨td ++ [Tok.A], some (meth, h3)⟩ :: ⟨td ++ [Tok.A], none⟩ :: ⟨td, none⟩ :: ⟨td, none⟩ :: Rn, td.length + 1, max z1 (ns.length + 1), max k (ns.length + 1), rfl, by rw [ht1]; simp [prs], by rw [hn1]; simp [prs], trivial, ?_, by simp; omega, .inl (by simp), fun h => by simp at h, hsh3, hev3, hpos3, fun r hr => (hok3 r hr).mono (by simp; omega), ?_, ?_, by rw [hz1]; omega, ?_, rfl⟩
      · intro c hc
        rw [htb1] at hc
        rcases List.mem_append.1 hc with hc | hc
        · exact h92 c hc
        · rw [List.mem_singleton.1 hc]; decide
      · simpa using hown2
      · rw [hn1] at hk ⊢; simp at hk ⊢; omega
      · rw [show tb (td ++ [Tok.A]) ++ ([] : List UInt8) = tb td ++ [42] by rw [htb1]; simp, show (ns ++ [[(42 : UInt8)]]).length = ns.length + 1 by simp]
        exact .cons rfl (.cons rfl (.cons rfl (.cons rfl (.cons rfl (.cons rfl (.cons rfl (.cons rfl .nil)))))))
    refine GC.skip ?_
    refine GC.inBlock ?_
    refine GC.reg ?_  -- region 5, router.go:217
    refine G.v (V.mv rfl) rfl ?_
    refine G.v (V.addI rfl rfl rfl (by omega) (by omega)) rfl ?_
    refine G.v (V.asg rfl) rfl ?_
    refine G.nil ?_
    have h58 : c ≠ 58 := fun e => h27 (by rw [e]; rfl)
    have h42 : c ≠ 42 := fun e => h109 (by rw [e]; rfl)
    have hp1 : prs (c :: rest1) none = (.b c :: (prs rest1 none).1, (prs rest1 none).2) := by rw [prs, if_neg h58, if_neg h42]
    rw [hp1] at ht hn
    have htb2 : tb (td ++ [Tok.b c]) ++ rest1 = tb td ++ c :: rest1 := by simp [tb, Tok.byte]
    refine ih rest1.length _ _ (by omega) ⟨td ++ [Tok.b c], rest1, ns, pad, pcp, Hn, T1, q1, Rn, td.length + 1, z1, k, rfl, by rw [ht]; simp, hn, hokr.2.2, ?_, by simp; omega, .inl (by simp), fun h => by simp at h, hsh, hev, ?_, fun r hr => (hok1 r hr).mono (by simp; omega), hown, hk, hz1, ?_, rfl⟩
    · intro x hx
      rw [show tb (td ++ [Tok.b c]) = tb td ++ [c] by simp [tb, Tok.byte]] at hx
      rcases List.mem_append.1 hx with hx | hx
      · exact h92 x hx
      · rw [List.mem_singleton.1 hx]; exact hokr.1
    · intro p u r e hu
      rcases pos_snoc e with ⟨h1, h2, h3⟩ | ⟨r1, h1, h2⟩
      · exact absurd (by rw [h3]; exact ⟨h58, h42⟩) hu
      · exact hpos p u r1 h2 hu
    · rw [htb2]; exact .cons rfl (.cons rfl (.cons rfl (.cons rfl (.cons rfl (.cons rfl (.cons rfl (.cons rfl .nil)))))))
  refine GC.exit rfl ?_
  have hnil : rest = [] := by
    rcases hi with h | ⟨h, _⟩
    · have := htbl; simp at h21; exact List.length_eq_zero_iff.1 (by omega)
    · exact h
  subst hnil
  have ht1 : td = toks := by rw [ht]; simp [prs]
  have hn1 : names = ns := by rw [hn]; simp [prs]
  have htdn : td ≠ [] := fun e => by rw [← ht1, e] at hhd; cases hhd
  have htl2 := htdp.length_le
  have hpre1 : Pre T1 q1 0 (some hh) ns.length td := ⟨fun u hu => htok u (htdp.subset hu), hpfx td htdp htdn, fun p r e => htA p r (by rw [← ht1, e]), fun p u r e hu => .inl (by obtain ⟨e1, he1, he2⟩ := hpos p u r e hu; obtain ⟨y, hy, hq⟩ := hsh.ent e1 (List.mem_append_left _ he1); exact ⟨y, hy, hq.trans he2⟩), fun h => (by cases h), fun h => (by cases h), by omega, fun _ => hnsl, fun h => rfl⟩
  refine GC.reg ?_  -- region 25, router.go:248
  refine G.v (V.mv rfl) rfl ?_
  refine G.v (V.mv rfl) rfl ?_
  refine G.v (V.mv rfl) rfl ?_
  refine G.v (V.mv rfl) rfl ?_
  refine G.v (V.mv rfl) rfl ?_
  refine G.v (V.mv rfl) rfl ?_
  refine G.v (V.bd (vs := [(1, S p0), (2, .slice pad ns.length pcp), (0, Pt hh 0)]) rfl (fun w1 => full152 hh p0 pad ns.length pcp w1)) rfl ?_
  refine G.insN hsh (toks := td) (t := 0) (hp := some hh) (pp := p0) (pad := pad) (np := ns.length) (pcp := pcp) (z := z1) (vs := [Pt rb 0, S meth, S (tb td ++ []), .int .u8 ((0 : Nat) : Int), .agg #[PO (some hh), S p0, .slice pad ns.length pcp]]) hpre1 (hRl' _ hev) hok1 (by omega) hml (by omega) (by rw [List.append_nil]) rfl rfl (fun h3 T3 q3 hsh3 hok3 => ?_)
  refine G.nil ?_
  refine GC.end0 rfl fun w' hw' => ⟨rfl, T3, q3, ⟨td, none⟩ :: Rn, h3, pad, pcp, Hn, ?_, ?_, fun r hr => (hok3 r hr).mono (by omega), hn1 ▸ hown, ?_⟩
  · rw [← ht1]; exact hsh3
  · intro e he
    rcases List.mem_cons.1 he with rfl | he
    · exact ⟨htdp, .inl rfl⟩
    · exact hev e he
  · rw [hn1, show max z ns.length = max z1 ns.length by rw [hz1]; rw [hn1] at hk; omega]; exact hw'
end Go.Proofs

/- More rules: stores of structs, calls in regions that draw. No program in sight. -/
namespace Bw
open Go

variable {P : Program} {c : Cx} {n : Nat} {k : List Item} {fr : SF} {H : SH} {ops : Array Oper} {rest : List Oper} {ty : TypeId} {pos : String} {aft : Array Edge}

theorem HF.setRow {w0 D w} (h : HF w0 D H w) {i b : Nat} {l l' : List Value} {t : TypeId} {fz : Nat × Nat} (hi : At i ⟨b, true, .row l t fz⟩ H) : HF w0 D (putE (.row l' t fz) i H) (w.setRow b l'.toArray) := by
  have hb := h.has _ hi.mem
  refine h.upd hi rfl (.row l' t fz) (by simp [World.setRow]) ?_ (fun x hx => ?_) rfl rfl rfl
  · simp only [Blk.den] at hb ⊢
    simp [World.setRow, Array.getElem?_modify, hb]
  · simp only at hx
    simp only [World.setRow]
    rw [Array.getElem?_modify, if_neg (fun e => hx e.symm)]

/-- a store of all the cells of a row -/
theorem G.stA {t : TypeId} {x y : Operand} {b i : Nat} {l cs : List Value} {T : TypeId} (hs : ∀ w, (Go.sizeOf t).run P w = .ok cs.length w) (hx : ev fr x = some (Pt b 0)) (hy : ev fr y = some (.agg cs.toArray)) (h1 : ∀ v ∈ cs, v.oneCell' = true)
    (hi : At i ⟨b, true, .row l T (0, 0)⟩ H) (hl : l.length = cs.length) (hk : G P c n k ops rest fr (putE (.row cs T (0, 0)) i H)) : G P c n k ops (⟨none, .store t x y, ty, pos, aft, none⟩ :: rest) fr H := by
  refine G.effN (fun a w ha hw => ⟨w.setRow b cs.toArray, ?_, hw.setRow hi⟩) hk
  have hb := hw.has _ hi.mem
  simp only [Blk.den] at hb
  have hr := run_storeCells_from (P := P) b T cs 0 l.toArray w hb (by simp [hl]) h1
  simp only [List.take_zero, List.nil_append] at hr
  simp [execOp, ha.eval hx, ha.eval hy, Instr.storeAt, Instr.sureAddr, storeVar, hs, Value.cells, hr]

end Bw

/- Regions that draw: a head of loads of cells that nobody in the region turns, then calls in a chain. No program in sight. -/
namespace Bw
open Go

variable {P : Program} {c : Cx} {n : Nat} {k : List Item} {fr : SF} {H : SH} {ops : Array Oper} {rest tail : List Oper} {ty : TypeId} {pos : String} {aft : Array Edge} {S : World → Prop}

/-- the first h operations may be taken first, one behind the other; the others come up one by one -/
def tailB (md : Region.Mode) (ops : Array Oper) : Nat → Nat → Array Bool → Bool
  | 0, _, listed => (Region.ready md ops listed).isEmpty
  | t + 1, k, listed => (match Region.ready md ops listed with | [j] => Nat.beq j k | _ => false) && tailB md ops t (k + 1) (listed.setIfInBounds k true)
def heldB (md : Region.Mode) (ops : Array Oper) : Nat → Nat → Nat → Array Bool → Bool
  | 0, t, k, listed => tailB md ops t k listed
  | h + 1, t, k, listed => Region.free md ops listed k && (Region.ready md ops listed).contains k && heldB md ops h t (k + 1) (listed.setIfInBounds k true)

def wpLH (P : Program) (ops : Array Oper) (Q : Exit → Act → World → Prop) (S : World → Prop) : List Oper → Act → World → Prop
  | [], a, w => Q .normal a w
  | o :: rest, a, w => if Region.wanted o (yielded ops a.tmps) then o.wp P a w (fun a' w' => S w' ∧ wpLH P ops Q S rest a' w') Q else S w ∧ wpLH P ops Q S rest (a.put o.dst undef) w

def wpHd (P : Program) (ops : Array Oper) (Q : Exit → Act → World → Prop) (S : World → Prop) (tail : List Oper) : List Oper → Act → World → Prop
  | [], a, w => wpLH P ops Q S tail a w
  | o :: rest, a, w => ∃ v, YieldsIf P ops S o v a ∧ wpHd P ops Q S tail rest (a.put o.dst v) w

theorem wpLH_held {Q : Exit → Act → World → Prop} {md : Region.Mode} : ∀ (l : List Oper) (k : Nat) (listed : Array Bool) (a : Act) (w : World), (∀ j, l[j]? = ops[k + j]?) → tailB md ops l.length k listed = true → wpLH P ops Q S l a w → wpAnyH P md ops Q S l.length listed a w
  | [], k, listed, a, w, hl, hB, h => ⟨by simpa [tailB] using hB, h⟩
  | o :: l, k, listed, a, w, hl, hB, h => by
    have h0 : ops[k]? = some o := by simpa using (hl 0).symm
    simp only [List.length_cons, tailB, Bool.and_eq_true] at hB
    obtain ⟨hr, hB'⟩ := hB
    have hr' : Region.ready md ops listed = [k] := by
      split at hr
      · rename_i j e; rw [e, Nat.eq_of_beq_eq_true hr]
      · cases hr
    refine wpAnyH_all hr' (by simp) fun i hi => ?_
    rw [List.mem_singleton.1 hi]
    have step : ∀ a' w', wpLH P ops Q S l a' w' → wpAnyH P md ops Q S l.length (listed.setIfInBounds k true) a' w' := fun a' w' hh =>
      wpLH_held l (k + 1) _ a' w' (fun j => by have := hl (j + 1); simpa [Nat.add_assoc, Nat.add_comm 1 j] using this) hB' hh
    unfold wpOp
    simp only [h0]
    simp only [wpLH] at h
    split
    · rename_i hw
      rw [if_pos hw] at h
      exact .inl (Oper.wp_mono (fun a' w' hh => ⟨hh.1, step a' w' hh.2⟩) h)
    · rename_i hw
      rw [if_neg hw] at h
      exact ⟨h.1, step _ _ h.2⟩

theorem wpHd_held {Q : Exit → Act → World → Prop} {md : Region.Mode} (hQ : ∀ ch a a' w, a'.defers = a.defers → Q (.panic ch) a w → Q (.panic ch) a' w) (hsel : Region.noSelect ops = true) :
    ∀ (l : List Oper) (k : Nat) (listed : Array Bool) (a : Act) (w : World), (∀ j, (l ++ tail)[j]? = ops[k + j]?) → heldB md ops l.length tail.length k listed = true → S w → wpHd P ops Q S tail l a w → wpAnyH P md ops Q S (l.length + tail.length) listed a w
  | [], k, listed, a, w, hl, hB, hS, h => by simpa using wpLH_held tail k listed a w (by simpa using hl) hB h
  | o :: l, k, listed, a, w, hl, hB, hS, h => by
    have h0 : ops[k]? = some o := by simpa using (hl 0).symm
    simp only [List.length_cons, heldB, Bool.and_eq_true] at hB
    obtain ⟨⟨hf, hr⟩, hB'⟩ := hB
    obtain ⟨v, hy, hh⟩ := h
    have := wpHd_held hQ hsel l (k + 1) _ _ _ (fun j => by have := hl (j + 1); simpa [Nat.add_assoc, Nat.add_comm 1 j] using this) hB' hS hh
    rw [show (o :: l).length + tail.length = (l.length + tail.length) + 1 by simp; omega]
    refine wpAnyH_take h0 hsel hf hr (fun ch a' w' hq => ?_) hy hS this
    exact hQ ch (a'.put o.dst v) a' w' (by cases o.dst <;> rfl) hq

def GH (P : Program) (c : Cx) (n : Nat) (k : List Item) (ops : Array Oper) (S : World → Prop) (l : List Oper) (fr : SF) (H : SH) : Prop :=
  P.funcs[c.f]? = some c.fn → ∀ a w, Fr n fr a → HF c.w0 c.D H w → wpLH P ops (Qk P c k) S l a w
def GI (P : Program) (c : Cx) (n : Nat) (k : List Item) (ops : Array Oper) (S : World → Prop) (tail l : List Oper) (fr : SF) (H : SH) : Prop :=
  P.funcs[c.f]? = some c.fn → ∀ a w, Fr n fr a → HF c.w0 c.D H w → wpHd P ops (Qk P c k) S tail l a w

theorem GC.regH {id : Nat} {l : List Oper} (m : Nat) (S : World → Prop) (hm : P.follows .mixedOrders = true) (hB : (Region.noSelect l.toArray && heldB .any l.toArray (l.take m).length (l.drop m).length 0 (Array.replicate l.toArray.size false)) = true)
    (hS : ∀ w, HF c.w0 c.D H w → S w) {hd tl : List Oper} (h1 : l.take m = hd) (h2 : l.drop m = tl) (h : GI P c n k l.toArray S tl hd fr H) : GC P c n (.code (.region id l.toArray true) :: k) fr H := by
  subst h1; subst h2
  intro hf a w ha hw
  refine Runs.of_wp hf (wp_region_held (S := S) hm ?_)
  simp only [Bool.and_eq_true] at hB
  have hw' := hw.drew (w.drawn + 1)
  have := wpHd_held (P := P) (Q := Qk P c k) (S := S) (md := .any) (tail := l.drop m) (fun ch a a' w hd hq => ⟨hd.trans hq.1, hq.2⟩) hB.1 (l.take m) 0 (Array.replicate l.toArray.size false) a _ (fun j => by rw [List.take_append_drop]; simp) hB.2 (hS _ hw') (h hf a _ ha hw')
  rw [← List.length_append, List.take_append_drop] at this
  simpa using this

theorem GI.nil (h : GH P c n k ops S tail fr H) : GI P c n k ops S tail [] fr H := fun hf a w ha hw => h hf a w ha hw
/-- an operation of the head: it yields v in every world that meets S -/
theorem GI.v {op : Op} {v : Value} {d : Nat} (hv : ∀ a w, Fr n fr a → S w → ∀ dst pos aft g, (execOp a.eval ⟨dst, op, ty, pos, aft, g⟩).run P w = .ok (.value v) w) (hd : Nat.blt d n = true) (hk : GI P c n k ops S tail rest ((d, v) :: fr) H) :
    GI P c n k ops S tail (⟨some d, op, ty, pos, aft, none⟩ :: rest) fr H := by
  intro hf a w ha hw
  exact ⟨v, .inl ⟨by simp [Region.wanted], fun w' hS => hv a w' ha hS _ _ _ _⟩, hk hf _ _ (ha.put hd v) hw⟩
/-- a value that asks nothing of the world -/
theorem GI.p {op : Op} {v : Value} {d : Nat} (hv : ∀ (w0 : World), Val P ⟨c.f, c.fn, c.R, w0, fun _ => False⟩ n op ty fr [] v) (hd : Nat.blt d n = true) (hk : GI P c n k ops S tail rest ((d, v) :: fr) H) :
    GI P c n k ops S tail (⟨some d, op, ty, pos, aft, none⟩ :: rest) fr H :=
  GI.v (fun a w ha _ dst pos aft g => hv w a w ha (HF.start w _) dst pos aft g) hd hk
/-- a load -/
theorem GI.ld {t : TypeId} {x : Operand} {d b off : Nat} {v : Value} (hA : ∀ w, (isAgg t).run P w = .ok false w) (h : ev fr x = some (Pt b off)) (hc : ∀ w, S w → w.cell? ⟨b, off, none⟩ = some v) (hd : Nat.blt d n = true)
    (hk : GI P c n k ops S tail rest ((d, v) :: fr) H) : GI P c n k ops S tail (⟨some d, .load t x, ty, pos, aft, none⟩ :: rest) fr H :=
  GI.v (fun a w ha hS dst pos aft g => by simp [execOp, ha.eval h, Instr.loadAt, Instr.sureAddr, loadVar, hA, run_load, hc w hS]) hd hk

theorem GH.nil (h : GC P c n k fr H) : GH P c n k ops S [] fr H := fun hf a w ha hw => h hf a w ha hw
theorem GH.v {op : Op} {v : Value} {d : Nat} (hS : ∀ w, HF c.w0 c.D H w → S w) (hv : Val P c n op ty fr H v) (hd : Nat.blt d n = true) (hk : GH P c n k ops S rest ((d, v) :: fr) H) : GH P c n k ops S (⟨some d, op, ty, pos, aft, none⟩ :: rest) fr H := by
  intro hf a w ha hw
  simp only [wpLH, Region.wanted, if_true, Oper.wp, hv a w ha hw, Oper.upon]
  exact ⟨hS w hw, hk hf _ _ (ha.put hd v) hw⟩
theorem GH.turn {H' : SH} {l : List Oper} (hs : ∀ w, HF c.w0 c.D H w → HF c.w0 c.D H' w) (h : GH P c n k ops S l fr H') : GH P c n k ops S l fr H :=
  fun hf a w ha hw => h hf a w ha (hs w hw)

theorem GH.callW {g : FuncId} {xs : List Operand} {vs : List Value} {tys : Array TypeId} {d : Nat} (J : Value → SH → Prop) (hg : ∀ (args : Array Value) w, (callFunc g args).run P w = .ok (.enter g args) w) (he : evs fr xs = some vs)
    (hd : Nat.blt d n = true) (hS : ∀ v H', J v H' → ∀ w, HF c.w0 c.D H' w → S w) (hc : ∀ w, HF c.w0 c.D H w → Calls P g vs.toArray w (fun e w' => ∃ v H', e = .returned v ∧ HF c.w0 c.D H' w' ∧ J v H'))
    (hk : ∀ v H', J v H' → GH P c n k ops S rest ((d, v) :: fr) H') :
    GH P c n k ops S (⟨some d, .call ⟨.value (.func g), xs.toArray, tys⟩, ty, pos, aft, none⟩ :: rest) fr H := by
  intro hf a w ha hw
  simp only [wpLH, Region.wanted, if_true, Oper.wp, run_callN ha hg he, Oper.upon]
  refine (hc w hw).mono fun e w' ⟨v, H', he', h1, h2⟩ => ?_
  subst he'
  exact ⟨hS v H' h2 _ h1, hk v H' h2 hf _ _ (ha.put hd v) h1⟩

theorem GH.callL {H1 Hk : SH} {g : FuncId} {xs : List Operand} {vs : List Value} {tys : Array TypeId} {d : Nat} (J : Value → SH → Prop) (hp : H.Perm (H1 ++ Hk)) (ha : ∀ e ∈ H1, e.w = true)
    (hg : ∀ (args : Array Value) w, (callFunc g args).run P w = .ok (.enter g args) w) (he : evs fr xs = some vs) (hd : Nat.blt d n = true) (hS : ∀ v H1', J v H1' → ∀ w, HF c.w0 c.D (H1' ++ Hk) w → S w)
    (hc : ∀ w, HF w (fun b => ∃ e ∈ H1, e.b = b) H1 w → (∀ e ∈ Hk, w.heap[e.b]? = some e.k.den ∧ ¬ ∃ x ∈ H1, x.b = e.b) →
      Calls P g vs.toArray w (fun e w' => ∃ v H1', e = .returned v ∧ (∀ x ∈ H1', x.w = true) ∧ HF w (fun b => ∃ e ∈ H1, e.b = b) H1' w' ∧ J v H1'))
    (hk : ∀ v H1', J v H1' → GH P c n k ops S rest ((d, v) :: fr) (H1' ++ Hk)) :
    GH P c n k ops S (⟨some d, .call ⟨.value (.func g), xs.toArray, tys⟩, ty, pos, aft, none⟩ :: rest) fr H := by
  refine GH.callW (fun v H' => ∃ H1', J v H1' ∧ H' = H1' ++ Hk) hg he hd (fun v H' ⟨H1', h1, h2⟩ => h2 ▸ hS v H1' h1) (fun w hw => ?_) (fun v H' ⟨H1', h1, h2⟩ => h2 ▸ hk v H1' h1)
  have hh := hw.perm hp
  have hnd := List.pairwise_append.1 hh.nd
  refine (hc w (hh.loc (fun e he => List.mem_append_left _ he) hnd.1) (fun e he => ⟨hh.has e (List.mem_append_right _ he), fun ⟨x, hx, hb⟩ => hnd.2.2 x hx e he hb⟩)).mono fun e w' ⟨v, H1', h1, h2, h3, h4⟩ => ?_
  exact ⟨v, _, h1, hw.back hp ha h2 h3, H1', h4, rfl⟩

theorem GH.callN {kb : Blk} {g : FuncId} {xs : List Operand} {vs : List Value} {tys : Array TypeId} {d : Nat}
    (hg : ∀ (args : Array Value) w, (callFunc g args).run P w = .ok (.enter g args) w) (he : evs fr xs = some vs) (hd : Nat.blt d n = true) (hS : ∀ w, HF c.w0 c.D H w → S w)
    (hc : ∀ w, HF c.w0 c.D H w → Calls P g vs.toArray w (fun e w' => ∃ b, e = .returned (Pt b 0) ∧ HF w (fun _ => False) [⟨b, true, kb⟩] w'))
    (hk : ∀ b, c.w0.heap.size ≤ b → GH P c n k ops S rest ((d, Pt b 0) :: fr) (⟨b, true, kb⟩ :: H)) :
    GH P c n k ops S (⟨some d, .call ⟨.value (.func g), xs.toArray, tys⟩, ty, pos, aft, none⟩ :: rest) fr H := by
  refine GH.callW (fun v H' => ∃ b, c.w0.heap.size ≤ b ∧ v = Pt b 0 ∧ H' = ⟨b, true, kb⟩ :: H) hg he hd (fun v H' ⟨b, _, _, h2⟩ w hw => hS w ((h2 ▸ hw).sub (List.sublist_cons_self _ _))) (fun w hw => ?_) (fun v H' ⟨b, h0, h1, h2⟩ => h1 ▸ h2 ▸ hk b h0)
  refine (hc w hw).mono fun e w' ⟨b, h1, h2⟩ => ?_
  refine ⟨_, _, h1, hw.after0 h2 (fun e he => by simp only [List.mem_singleton] at he; subst he; rfl), b, ?_, rfl, rfl⟩
  have := (h2.wr _ (.head _) rfl).resolve_left id
  exact Nat.le_trans hw.size this
end Bw

/- zzHandler, Router.add, NewRouter, ZZNew, ZZRouter.Add. Printed by wip/mk_e7.py. -/
namespace Go.Proofs
open Go Bw
set_option maxRecDepth 20000

theorem f58_any (w : World) (i : Int) : Calls Tryd.prog 58 #[I i] w fun e w' => ∃ b, e = .returned (Pt b 0) ∧ HF w (fun _ => False) [⟨b, true, .row [I i] 3 (0, 0)⟩] w' := by
  refine enter (fun _ => False) [] Tryd.func58 rfl Tryd.ntmps58 rfl rfl (HF.start w _) fun c hc => ?_
  subst hc
  refine GC.seq ?_
  refine GC.reg ?_  -- region 0, zz_context.go:22
  refine G.bx (l := [I i]) rfl rfl rfl (fun b hb => ?_)
  refine G.v (V.asg rfl) rfl ?_
  refine G.nil ?_
  refine GC.seq ?_
  refine GC.reg ?_  -- region 1, zz_context.go:22
  refine G.v (V.asg rfl) rfl ?_
  refine G.nil ?_
  exact GC.ret1 rfl rfl fun w' hw' => ⟨b, rfl, hw'⟩

def mpE (rt : Nat) (kv : KV) : Ent := ⟨rt, true, .obj (mkM kv)⟩
def roE (nb : Nat) (meth p name : List UInt8) : Ent := ⟨nb, true, .row [S meth, S p, S name] 81 (0, 0)⟩
theorem full81 (a b c : List UInt8) (w : World) : (Instr.build 81 #[(0, S a), (1, S b), (2, S c)]).run Tryd.prog w = .ok (.agg #[S a, S b, S c]) w := by
  simp [Instr.build, Tryd.zeroValue81, Tryd.runUnderlying81, Tryd.sizeOf9, cells_agg, Instr.fill, cells_str]

theorem f90_any (w : World) (D : Nat → Prop) (T : List NR) (q : Nat → List Tok) (R : List En) (rb root rt eb zb z B hh : Nat) (rkv : KV) (meth p0 name : List UInt8) (toks : List Tok) (names : List (List UInt8)) (hprs : prs p0 none = (toks, names)) (hp0 : p0.head? = some 47)
    (hok0 : okR p0) (hpl : p0.length ≤ 200) (hml : meth.length ≤ 1000) (hs : Sh T q R root) (hRl : ∀ e ∈ R, e.tk.length ≤ 1000) (hok : ∀ r ∈ T, r.ok B) (hB : B + 1000 < 1000000)
    (hH : HF w D (rtE rb root rt eb :: ecE eb zb :: zzE zb rb z :: mpE rt rkv :: ents T) w) (_hwD : True) :
    Calls Tryd.prog 90 #[Pt rb 0, S meth, S p0, S name, Pt hh 0] w fun e w' => ∃ nb T' q' Rn h pad pcp Hn, e = .returned (Pt nb 0) ∧ Sh T' q' (⟨toks, some (meth, h)⟩ :: Rn ++ R) root ∧ EvR toks meth Rn ∧ (∀ r ∈ T', r.ok (B + 1000)) ∧ Own 9 1 (.slice pad names.length pcp) names.length (names.map S) Hn ∧
      HF w D (roE nb meth p0 name :: mpE rt (kvPut rkv (meth ++ p0) (Pt nb 0)) :: rmE h (some hh) p0 pad names.length pcp :: rtE rb root rt eb :: ecE eb zb :: zzE zb rb (max z names.length) :: (ents T' ++ Hn)) w' := by
  refine enter D (rtE rb root rt eb :: ecE eb zb :: zzE zb rb z :: mpE rt rkv :: ents T) Tryd.func90 rfl Tryd.ntmps90 rfl rfl hH fun c hc => ?_
  subst hc
  refine GC.seq ?_
  refine GC.reg ?_  -- region 0, router.go:194
  refine G.v (V.asg rfl) rfl ?_
  refine G.nil ?_
  refine GC.seq ?_
  refine GC.reg ?_  -- region 1, router.go:195
  refine G.v (V.mv rfl) rfl ?_
  refine G.callP Tryd.call123 rfl rfl (fun w1 _ => f123_any w1 p0 hp0) ?_
  refine G.v (V.asg rfl) rfl ?_
  refine G.nil ?_
  refine GC.seq ?_
  refine GC.reg ?_  -- region 2, router.go:196
  refine G.v (V.mv rfl) rfl ?_
  refine G.v (V.mv rfl) rfl ?_
  refine G.v (V.mv rfl) rfl ?_
  refine G.v (V.mv rfl) rfl ?_
  refine G.callL (H1 := rtE rb root rt eb :: ecE eb zb :: zzE zb rb z :: ents T) (Hk := [mpE rt rkv]) (fun v H1 => v = .tuple #[] ∧ ∃ T' q' Rn h pad pcp Hn, Sh T' q' (⟨toks, some (meth, h)⟩ :: Rn ++ R) root ∧ EvR toks meth Rn ∧ (∀ r ∈ T', r.ok (B + 1000)) ∧ Own 9 1 (.slice pad names.length pcp) names.length (names.map S) Hn ∧
      H1 = rmE h (some hh) p0 pad names.length pcp :: rtE rb root rt eb :: ecE eb zb :: zzE zb rb (max z names.length) :: (ents T' ++ Hn)) ?_ ?_ Tryd.call124 rfl rfl (fun w1 hw1 _ => ?_) ?_
  · have p := perm_idx [[rtE rb root rt eb, ecE eb zb, zzE zb rb z], [mpE rt rkv], ents T] [0, 1, 2] [0, 2, 1] (by decide)
    refine List.Perm.trans (.of_eq ?_) (p.trans (.of_eq ?_)) <;> simp
  · intro e he
    simp only [List.mem_cons] at he
    rcases he with rfl | rfl | rfl | he
    · rfl
    · rfl
    · rfl
    · exact ents_w hok e he
  · refine (f124_any w1 _ T q R rb root rt eb zb z B hh meth p0 toks names hprs hp0 hok0 hpl hml hs hRl hok hB hw1).mono fun e w' ⟨h1, T', q', Rn, h, pad, pcp, Hn, h2, h3, h4, h5, h6⟩ => ?_
    refine ⟨_, _, h1, fun e he => ?_, h6, rfl, T', q', Rn, h, pad, pcp, Hn, h2, h3, h4, h5, rfl⟩
    simp only [List.mem_cons, List.mem_append] at he
    rcases he with rfl | rfl | rfl | rfl | he | he
    · rfl
    · rfl
    · rfl
    · rfl
    · exact ents_w h4 e he
    · exact h5.w e he
  rintro v H1 ⟨rfl, T', q', Rn, h, pad, pcp, Hn, g2, g3, g4, g5, rfl⟩
  refine G.turn (fun w1 hw1 => hw1.perm List.perm_append_comm) ?_
  refine G.nil ?_
  refine GC.seq ?_
  refine GC.reg ?_  -- region 3, router.go:198
  refine G.v (V.mv rfl) rfl ?_
  refine G.v (V.mv rfl) rfl ?_
  refine G.v (V.mv rfl) rfl ?_
  refine G.v (V.bd (vs := [(0, S meth), (1, S p0), (2, S name)]) rfl (fun w1 => full81 meth p0 name w1)) rfl ?_
  refine G.bx (l := [S meth, S p0, S name]) rfl rfl rfl (fun nb hnb => ?_)
  refine G.v (V.asg rfl) rfl ?_
  refine G.nil ?_
  refine GC.seq ?_
  refine GC.reg ?_  -- region 4, router.go:203
  refine G.v (V.mv rfl) rfl ?_
  refine G.v (V.nc rfl) rfl ?_
  refine G.v (V.fa F139_1 rfl) rfl ?_
  refine G.v (V.ld Tryd.isAgg137 rfl (.tail _ (.tail _ (.tail _ (.head _)))) rfl) rfl ?_
  refine G.v (V.mv rfl) rfl ?_
  refine G.v (V.mv rfl) rfl ?_
  refine G.v (V.cat rfl rfl (by omega)) rfl ?_
  refine G.v (V.mv rfl) rfl ?_
  refine G.mu (kv := rkv) Tryd.underlying137 Tryd.underlying9 rfl rfl rfl (.s .z) ?_
  refine G.nil ?_
  refine GC.seq ?_
  refine GC.reg ?_  -- region 5, router.go:204
  refine G.v (V.mv rfl) rfl ?_
  refine G.v (V.asg rfl) rfl ?_
  refine G.nil ?_
  exact GC.ret1 rfl rfl fun w' hw' => ⟨nb, T', q', Rn, h, pad, pcp, Hn, rfl, g2, g3, g4, g5, hw'⟩

/-- the root of a new tree -/
def root0 (n m : Nat) : NR :=
  { n, m, par := none, pch := none, ach := none, nf := none, pre := [], orig := [], kids := [], ad := none, cp := 0, Hs := [], pc := 0, lab := 0, kd := 0, leaf := false, hdl := false, f := fun _ => none, mp := none, kv := [], hdr := [], Hm := [] }
theorem zero146 (m : Nat) (w : World) : (Instr.build 146 #[(0, Pt m 0)]).run Tryd.prog w = .ok (.agg (root0 0 m).row.toArray) w := by
  simp [Instr.build, Tryd.zeroValue146, Tryd.runUnderlying146, Tryd.sizeOf142, Tryd.sizeOf136, Tryd.sizeOf140, Tryd.sizeOf9, Tryd.sizeOf144, Tryd.sizeOf3, Tryd.sizeOf5, Tryd.sizeOf141, Tryd.sizeOf4, cells_agg, Instr.fill, cells_ptr, root0, NR.row, nrow, PO]
theorem full139 (a rt eb : Nat) (w : World) : (Instr.build 139 #[(0, Pt a 0), (1, .map (some rt)), (2, Pt eb 0)]).run Tryd.prog w = .ok (.agg #[Pt a 0, .map (some rt), Pt eb 0]) w := by
  simp [Instr.build, Tryd.zeroValue139, Tryd.runUnderlying139, Tryd.sizeOf136, Tryd.sizeOf137, Tryd.sizeOf132, cells_agg, Instr.fill, cells_ptr, cells_map]
theorem zero93 (w : World) : (Instr.build 93 #[]).run Tryd.prog w = .ok (.agg #[PO none, I 0]) w := by
  simp [Instr.build, Tryd.zeroValue93, Instr.fill, PO]
  rfl
theorem full134 (z : Nat) (w : World) : (Instr.build 134 #[(0, Pt z 1)]).run Tryd.prog w = .ok (.agg #[Pt z 1]) w := by
  simp [Instr.build, Tryd.zeroValue134, Tryd.runUnderlying134, Tryd.sizeOf94, cells_agg, Instr.fill, cells_ptr]

theorem f89_any (w : World) (eb : Nat) : Calls Tryd.prog 89 #[Pt eb 0] w fun e w' => ∃ rb root m rt, e = .returned (Pt rb 0) ∧ HF w (fun _ => False) (rtE rb root rt eb :: mpE rt [] :: ents [root0 root m]) w' := by
  refine enter (fun _ => False) [] Tryd.func89 rfl Tryd.ntmps89 rfl rfl (HF.start w _) fun c hc => ?_
  subst hc
  refine GC.seq ?_
  refine GC.reg ?_  -- region 0, router.go:137
  refine G.v (V.asg rfl) rfl ?_
  refine G.nil ?_
  refine GC.seq ?_
  refine GC.reg ?_  -- region 1, router.go:138
  refine G.al Tryd.zeroValue155 rfl rfl (fun m hm => ?_)
  refine G.v (V.bd (vs := [(0, Pt m 0)]) rfl (fun w1 => zero146 m w1)) rfl ?_
  refine G.bx (l := (root0 0 m).row) rfl rfl rfl (fun root hroot => ?_)
  refine G.mm rfl (fun rt hrt => ?_)
  refine G.v (V.mv rfl) rfl ?_
  refine G.v (V.bd (vs := [(0, Pt root 0), (1, .map (some rt)), (2, Pt eb 0)]) rfl (fun w1 => full139 root rt eb w1)) rfl ?_
  refine G.bx (l := [Pt root 0, .map (some rt), Pt eb 0]) rfl rfl rfl (fun rb hrb => ?_)
  refine G.v (V.asg rfl) rfl ?_
  refine G.nil ?_
  exact GC.ret1 rfl rfl fun w' hw' => ⟨rb, root, m, rt, rfl, hw'⟩

theorem f56_any (w : World) : Calls Tryd.prog 56 #[] w fun e w' => ∃ rb root m rt eb zb, e = .returned (Pt zb 0) ∧ HF w (fun _ => False) (rtE rb root rt eb :: ecE eb zb :: zzE zb rb 0 :: mpE rt [] :: ents [root0 root m]) w' := by
  refine enter (fun _ => False) [] Tryd.func56 rfl Tryd.ntmps56 rfl rfl (HF.start w _) fun c hc => ?_
  subst hc
  refine GC.seq ?_
  refine GC.reg ?_  -- region 0, zz_context.go:50
  refine G.v (V.asg rfl) rfl ?_
  refine G.nil ?_
  refine GC.seq ?_
  refine GC.reg ?_  -- region 1, zz_context.go:51
  refine G.v (V.bd (vs := []) rfl (fun w1 => zero93 w1)) rfl ?_
  refine G.bx (l := [PO none, I 0]) rfl rfl rfl (fun zb hzb => ?_)
  refine G.v (V.asg rfl) rfl ?_
  refine G.nil ?_
  refine GC.seq ?_
  refine GC.reg ?_  -- region 2, zz_context.go:52
  refine G.v (V.mv rfl) rfl ?_
  refine G.v (V.mv rfl) rfl ?_
  refine G.v (V.nc rfl) rfl ?_
  refine G.v (V.fa F93_1 rfl) rfl ?_
  refine G.v (V.bd (vs := [(0, Pt zb 1)]) rfl (fun w1 => full134 zb w1)) rfl ?_
  refine G.bx (l := [Pt zb 1]) rfl rfl rfl (fun eb heb => ?_)
  refine G.callW (fun v H2 => ∃ rb root m rt, v = Pt rb 0 ∧ H2 = (rtE rb root rt eb :: mpE rt [] :: ents [root0 root m]) ++ [ecE eb zb, ⟨zb, true, .row [PO none, I 0] 93 (0, 0)⟩]) Tryd.call89 rfl rfl (fun w1 hw1 => (f89_any w1 eb).mono fun e w' ⟨rb, root, m, rt, h1, h2⟩ => ?_) ?_
  · refine ⟨_, _, h1, hw1.after0 h2 (fun e he => ?_), rb, root, m, rt, rfl, rfl⟩
    simp only [ents, List.flatMap_cons, List.flatMap_nil, NR.ents, root0, List.mem_cons, List.mem_append, List.not_mem_nil, or_false] at he
    rcases he with rfl | rfl | rfl | rfl <;> rfl
  rintro v H2 ⟨rb, root, m, rt, rfl, rfl⟩
  refine G.turn (H' := ⟨zb, true, .row [PO none, I 0] 93 (0, 0)⟩ :: rtE rb root rt eb :: ecE eb zb :: mpE rt [] :: ents [root0 root m]) (fun w1 hw1 => hw1.perm ?_) ?_
  · have p := perm_idx [[rtE rb root rt eb], [mpE rt []], ents [root0 root m], [ecE eb zb], [⟨zb, true, .row [PO none, I 0] 93 (0, 0)⟩]] [0, 1, 2, 3, 4] [4, 0, 3, 1, 2] (by decide)
    refine List.Perm.trans (.of_eq ?_) (p.trans (.of_eq ?_)) <;> simp
  refine G.v (V.nc rfl) rfl ?_
  refine G.v (V.fa F93_0 rfl) rfl ?_
  refine G.st Tryd.sizeOf91 rfl rfl rfl .z rfl rfl ?_
  refine G.nil ?_
  refine GC.seq ?_
  refine GC.reg ?_  -- region 3, zz_context.go:53
  refine G.v (V.mv rfl) rfl ?_
  refine G.v (V.asg rfl) rfl ?_
  refine G.nil ?_
  refine GC.ret1 rfl rfl fun w' hw' => ⟨rb, root, m, rt, eb, zb, rfl, HF.perm (H := zzE zb rb 0 :: rtE rb root rt eb :: ecE eb zb :: mpE rt [] :: ents [root0 root m]) hw' ?_⟩
  exact (List.perm_middle (l₁ := [rtE rb root rt eb, ecE eb zb])).symm

theorem f57_any (w : World) (D : Nat → Prop) (T : List NR) (q : Nat → List Tok) (R : List En) (rb root rt eb zb z B : Nat) (num : Int) (rkv : KV) (meth p0 name : List UInt8) (toks : List Tok) (names : List (List UInt8)) (hprs : prs p0 none = (toks, names)) (hp0 : p0.head? = some 47)
    (hok0 : okR p0) (hpl : p0.length ≤ 200) (hml : meth.length ≤ 1000) (hs : Sh T q R root) (hRl : ∀ e ∈ R, e.tk.length ≤ 1000) (hok : ∀ r ∈ T, r.ok B) (hB : B + 1000 < 1000000)
    (hH : HF w D (rtE rb root rt eb :: ecE eb zb :: zzE zb rb z :: mpE rt rkv :: ents T) w) :
    Calls Tryd.prog 57 #[Pt zb 0, S meth, S p0, S name, I num] w fun e w' => ∃ nb T' q' Rn h hh pad pcp Hn, e = .returned (Pt nb 0) ∧ Sh T' q' (⟨toks, some (meth, h)⟩ :: Rn ++ R) root ∧ EvR toks meth Rn ∧ (∀ r ∈ T', r.ok (B + 1000)) ∧ Own 9 1 (.slice pad names.length pcp) names.length (names.map S) Hn ∧
      HF w D (roE nb meth p0 name :: mpE rt (kvPut rkv (meth ++ p0) (Pt nb 0)) :: rmE h (some hh) p0 pad names.length pcp :: rtE rb root rt eb :: ecE eb zb :: zzE zb rb (max z names.length) :: (ents T' ++ Hn ++ [⟨hh, true, .row [I num] 3 (0, 0)⟩])) w' := by
  refine enter D (rtE rb root rt eb :: ecE eb zb :: zzE zb rb z :: mpE rt rkv :: ents T) Tryd.func57 rfl Tryd.ntmps57 rfl rfl hH fun c hc => ?_
  subst hc
  refine GC.seq ?_
  refine GC.reg ?_  -- region 0, zz_context.go:57
  refine G.v (V.asg rfl) rfl ?_
  refine G.nil ?_
  refine GC.seq ?_
  refine GC.regH 8 (fun w1 => w1.cell? ⟨zb, 0, none⟩ = some (Pt rb 0)) mixed (by kernel_rfl) (fun w1 hw1 => cell_row hw1 (.tail _ (.tail _ (.head _))) rfl) rfl rfl ?_
  refine GI.p (fun _ => V.mv rfl) rfl ?_
  refine GI.p (fun _ => V.nc rfl) rfl ?_
  refine GI.p (fun _ => V.fa F93_0 rfl) rfl ?_
  refine GI.ld Tryd.isAgg91 rfl (fun w1 h => h) rfl ?_
  refine GI.p (fun _ => V.mv rfl) rfl ?_
  refine GI.p (fun _ => V.mv rfl) rfl ?_
  refine GI.p (fun _ => V.mv rfl) rfl ?_
  refine GI.p (fun _ => V.mv rfl) rfl ?_
  refine GI.nil ?_
  refine GH.callN Tryd.call58 rfl rfl (fun w1 hw1 => cell_row hw1 (.tail _ (.tail _ (.head _))) rfl) (fun w1 _ => f58_any w1 num) (fun hh hhh => ?_)
  refine GH.callL (H1 := rtE rb root rt eb :: ecE eb zb :: zzE zb rb z :: mpE rt rkv :: ents T) (Hk := [⟨hh, true, .row [I num] 3 (0, 0)⟩]) (fun v H1 => ∃ nb T' q' Rn h pad pcp Hn, v = Pt nb 0 ∧ Sh T' q' (⟨toks, some (meth, h)⟩ :: Rn ++ R) root ∧ EvR toks meth Rn ∧ (∀ r ∈ T', r.ok (B + 1000)) ∧ Own 9 1 (.slice pad names.length pcp) names.length (names.map S) Hn ∧
      H1 = roE nb meth p0 name :: mpE rt (kvPut rkv (meth ++ p0) (Pt nb 0)) :: rmE h (some hh) p0 pad names.length pcp :: rtE rb root rt eb :: ecE eb zb :: zzE zb rb (max z names.length) :: (ents T' ++ Hn)) ?_ ?_ Tryd.call90 rfl rfl ?_ (fun w1 hw1 _ => ?_) ?_
  · exact (List.perm_append_comm (l₁ := [(⟨hh, true, .row [I num] 3 (0, 0)⟩ : Ent)]))
  · intro e he
    simp only [List.mem_cons] at he
    rcases he with rfl | rfl | rfl | rfl | he
    · rfl
    · rfl
    · rfl
    · rfl
    · exact ents_w hok e he
  · rintro v H1 ⟨nb, T', q', Rn, h, pad, pcp, Hn, rfl, g2, g3, g4, g5, rfl⟩ w1 hw1
    exact cell_row hw1 (.tail _ (.tail _ (.tail _ (.tail _ (.tail _ (.head _)))))) rfl
  · refine (f90_any w1 _ T q R rb root rt eb zb z B hh rkv meth p0 name toks names hprs hp0 hok0 hpl hml hs hRl hok hB hw1 trivial).mono fun e w' ⟨nb, T', q', Rn, h, pad, pcp, Hn, h1, h2, h3, h4, h5, h6⟩ => ?_
    refine ⟨_, _, h1, fun e he => ?_, h6, nb, T', q', Rn, h, pad, pcp, Hn, rfl, h2, h3, h4, h5, rfl⟩
    simp only [List.mem_cons, List.mem_append] at he
    rcases he with rfl | rfl | rfl | rfl | rfl | rfl | he | he
    · rfl
    · rfl
    · rfl
    · rfl
    · rfl
    · rfl
    · exact ents_w h4 e he
    · exact h5.w e he
  rintro v H1 ⟨nb, T', q', Rn, h, pad, pcp, Hn, rfl, g2, g3, g4, g5, rfl⟩
  refine GH.v (fun w1 hw1 => cell_row hw1 (.tail _ (.tail _ (.tail _ (.tail _ (.tail _ (.head _)))))) rfl) (V.asg rfl) rfl ?_
  refine GH.nil ?_
  exact GC.ret1 rfl rfl fun w' hw' => ⟨nb, T', q', Rn, h, hh, pad, pcp, Hn, rfl, g2, g3, g4, g5, hw'⟩
end Go.Proofs

/- The routes of a router. -/
namespace Bw
open Go Go.Proofs

structure RB where
  m : List UInt8
  p : List UInt8
  nm : List UInt8
def RB.cells (r : RB) : List Value := [S r.m, S r.p, S r.nm]
structure RB.ok (r : RB) : Prop where
  hd : r.p.head? = some 47
  okR : Bw.okR r.p
  pl : r.p.length ≤ 200
  ml : r.m.length ≤ 1000

/-- a list of routes in memory -/
def RtsAt (w : World) (ad : Option Addr) (L : List RB) : Prop :=
  ∀ i r, L[i]? = some r → ∃ b o, ad = some ⟨b, o, none⟩ ∧ ∀ j v, r.cells[j]? = some v → w.cell? ⟨b, o + i * 3 + j, none⟩ = some v

structure Rt where
  rb : RB
  num : Nat
  h : Nat
  hh : Nat
  nb : Nat
  pad : Option Addr
  pcp : Nat
  Hn : SH
def Rt.tk (r : Rt) : List Tok := (prs r.rb.p none).1
def Rt.nms (r : Rt) : List (List UInt8) := (prs r.rb.p none).2
def Rt.ents (r : Rt) : SH := ⟨r.hh, true, .row [I (r.num : Nat)] 3 (0, 0)⟩ :: roE r.nb r.rb.m r.rb.p r.rb.nm :: rmE r.h (some r.hh) r.rb.p r.pad r.nms.length r.pcp :: r.Hn
def lookL : List Rt → List UInt8 → List Tok → Option Nat
  | [], _, _ => none
  | r :: L, m, p => if r.tk = p ∧ r.rb.m = m then some r.h else lookL L m p
def rkv : List Rt → KV
  | [] => []
  | r :: L => kvPut (rkv L) (r.rb.m ++ r.rb.p) (Pt r.nb 0)

structure RInv (T : List NR) (q : Nat → List Tok) (R : List En) (root : Nat) (L : List Rt) (z B : Nat) : Prop where
  sh : Sh T q R root
  ok : ∀ r ∈ T, r.ok B
  look : ∀ m p, lookR R m p = lookL L m p
  inp : ∀ e ∈ R, ∃ r ∈ L, e.tk <+: r.tk
  out : ∀ r ∈ L, ∃ e ∈ R, e.tk = r.tk
  own : ∀ r ∈ L, Own 9 1 (.slice r.pad r.nms.length r.pcp) r.nms.length (r.nms.map S) r.Hn
  zl : ∀ r ∈ L, r.nms.length ≤ z
  zz : z ≤ 200
  rb : ∀ r ∈ L, r.rb.ok

theorem Rt.tkl {r : Rt} (h : r.rb.ok) : r.tk.length ≤ 200 := Nat.le_trans (prs_len _ _) h.pl
theorem RInv.Rl {T q R root L z B} (s : RInv T q R root L z B) : ∀ e ∈ R, e.tk.length ≤ 1000 := fun e he => by
  obtain ⟨r, hr, hp⟩ := s.inp e he
  have := hp.length_le
  have := Rt.tkl (s.rb r hr)
  omega

theorem lookR_ev {toks : List Tok} {meth : List UInt8} : ∀ {Rn R : List En}, EvR toks meth Rn → ∀ m p, ¬ (toks = p ∧ meth = m) → lookR (Rn ++ R) m p = lookR R m p
  | [], R, _, m, p, _ => rfl
  | e :: Rn, R, h, m, p, hn => by
    have ih := lookR_ev (R := R) (fun x hx => h x (.tail _ hx)) m p hn
    simp only [List.cons_append, lookR]
    rcases (h e (.head _)).2 with h1 | ⟨h', h1, h2⟩
    · rw [h1]; exact ih
    · rw [h2]; simp only
      rw [if_neg (by rw [h1]; exact hn)]; exact ih

theorem RInv.add {T q R root L z B} (s : RInv T q R root L z B) {r : Rt} {T' : List NR} {q' : Nat → List Tok} {Rn : List En} (hr : r.rb.ok) (hsh : Sh T' q' (⟨r.tk, some (r.rb.m, r.h)⟩ :: Rn ++ R) root) (hev : EvR r.tk r.rb.m Rn) (hok : ∀ x ∈ T', x.ok (B + 1000))
    (hown : Own 9 1 (.slice r.pad r.nms.length r.pcp) r.nms.length (r.nms.map S) r.Hn) : RInv T' q' (⟨r.tk, some (r.rb.m, r.h)⟩ :: Rn ++ R) root (r :: L) (max z r.nms.length) (B + 1000) := {
  sh := hsh
  ok := hok
  look m p := by
    show lookR (⟨r.tk, some (r.rb.m, r.h)⟩ :: (Rn ++ R)) m p = _
    simp only [lookR, lookL]
    split
    · rfl
    · rename_i h; rw [lookR_ev hev m p h]; exact s.look m p
  inp e he := by
    simp only [List.cons_append, List.mem_cons, List.mem_append] at he
    rcases he with rfl | he | he
    · exact ⟨r, .head _, List.prefix_rfl⟩
    · exact ⟨r, .head _, (hev e he).1⟩
    · obtain ⟨x, hx, h⟩ := s.inp e he; exact ⟨x, .tail _ hx, h⟩
  out x hx := by
    rcases List.mem_cons.1 hx with rfl | hx
    · exact ⟨_, .head _, rfl⟩
    · obtain ⟨e, he, h⟩ := s.out x hx; exact ⟨e, by simp [he], h⟩
  own x hx := by
    rcases List.mem_cons.1 hx with rfl | hx
    · exact hown
    · exact s.own x hx
  zl x hx := by
    rcases List.mem_cons.1 hx with rfl | hx
    · omega
    · have := s.zl x hx; omega
  zz := by
    have h1 := s.zz
    have h2 : r.nms.length ≤ 200 := by
      have h3 := prs_cnt r.rb.p none
      have h4 := Rt.tkl hr
      have h5 : cnt r.tk ≤ r.tk.length := by rw [cnt]; exact List.length_filter_le _ _
      simp at h3
      show (prs r.rb.p none).2.length ≤ 200
      have h6 : cnt (prs r.rb.p none).1 = cnt r.tk := rfl
      omega
    omega
  rb x hx := by
    rcases List.mem_cons.1 hx with rfl | hx
    · exact hr
    · exact s.rb x hx }

theorem root0_ok (n m : Nat) : (root0 n m).ok 0 := ⟨.nil, .nil, fun _ => rfl, Nat.le_refl _, ⟨fun _ h => (by cases h), .nil⟩, Nat.le_refl _⟩
theorem RInv.new (n m : Nat) : RInv [root0 n m] (fun _ => []) [] n [] 0 0 := {
  sh := Sh.empty (root0 n m) rfl rfl rfl rfl rfl rfl rfl rfl rfl rfl
  ok r hr := by rw [List.mem_singleton.1 hr]; exact root0_ok n m
  look _ _ := rfl
  inp e he := by cases he
  out r hr := by cases hr
  own r hr := by cases hr
  zl r hr := by cases hr
  zz := Nat.zero_le _
  rb r hr := by cases hr }

/-- the router in memory -/
def RH (rb root rt eb zb z : Nat) (T : List NR) (L : List Rt) : SH := rtE rb root rt eb :: ecE eb zb :: zzE zb rb z :: mpE rt (rkv L) :: (ents T ++ L.flatMap Rt.ents)
def Rt.key (r : Rt) : RB × Nat := (r.rb, r.num)
end Bw

/- echoRouter. Printed by wip/mk_e8.py. -/
namespace Go.Proofs
open Go Bw
set_option maxRecDepth 20000

theorem f40_any (w : World) (ad : Option Addr) (cp : Nat) (Rs : List RB) (hat : RtsAt w ad Rs) (hok : ∀ r ∈ Rs, r.ok) (hlen : Rs.length ≤ 60) :
    Calls Tryd.prog 40 #[.slice ad Rs.length cp] w fun e w' => ∃ rb root rt eb zb z B T q R L, e = .returned (Pt zb 0) ∧ RInv T q R root L z B ∧ B ≤ 60000 ∧ L.reverse.map Rt.key = Rs.zipIdx ∧ HF w (fun _ => False) (RH rb root rt eb zb z T L) w' := by
  refine enter (fun _ => False) [] Tryd.func40 rfl Tryd.ntmps40 rfl rfl (HF.start w _) fun c hc => ?_
  subst hc
  refine GC.seq ?_
  refine GC.reg ?_  -- region 0, echo.go:58
  refine G.v (V.asg rfl) rfl ?_
  refine G.nil ?_
  refine GC.seq ?_
  refine GC.reg ?_  -- region 1, echo.go:59
  refine G.callW (fun v H2 => ∃ rb root m rt eb zb, v = Pt zb 0 ∧ H2 = RH rb root rt eb zb 0 [root0 root m] []) Tryd.call56 rfl rfl (fun w1 hw1 => (f56_any w1).mono fun e w' ⟨rb, root, m, rt, eb, zb, h1, h2⟩ => ⟨_, _, h1, ?_, rb, root, m, rt, eb, zb, rfl, rfl⟩) ?_
  · have := hw1.after0 h2 (fun e he => by
      simp only [ents, List.flatMap_cons, List.flatMap_nil, NR.ents, root0, List.mem_cons, List.mem_append, List.not_mem_nil, or_false] at he
      rcases he with rfl | rfl | rfl | rfl | rfl | rfl <;> rfl)
    simpa [RH, rkv] using this
  rintro v H2 ⟨rb, root, m, rt, eb, zb, rfl, rfl⟩
  refine G.v (V.asg rfl) rfl ?_
  refine G.nil ?_
  refine GC.seq ?_
  refine GC.seq ?_
  refine GC.reg ?_  -- region 2, echo.go:60
  refine G.v (V.mv rfl) rfl ?_
  refine G.v (V.lenL Tryd.underlying35 rfl) rfl ?_
  refine G.v (V.mv rfl) rfl ?_
  refine G.nil ?_
  refine GC.block ?_
  refine GC.loopJ (fun N fr' H' => ∃ j z T q R L, j + N = Rs.length ∧ RInv T q R root L z (1000 * j) ∧ L.reverse.map Rt.key = (Rs.take j).zipIdx ∧ Sub [(3, Pt zb 0), (7, .slice ad Rs.length cp), (8, I (Rs.length : Nat)), (9, I ((j : Nat) : Int))] fr' ∧ H' = RH rb root rt eb zb z T L) Rs.length
    ⟨0, 0, [root0 root m], fun _ => [], [], [], by omega, RInv.new root m, rfl, .cons rfl (.cons rfl (.cons rfl (.cons rfl .nil))), rfl⟩ ?_
  rintro N fr' H' ⟨j, z, T, q, R, L, hj, hinv, hL, hs, rfl⟩ ih
  refine GC.weak hs ?_
  clear hs
  refine GC.seq ?_
  refine GC.reg ?_  -- region 3, echo.go:60
  refine G.v (V.lt rfl rfl) rfl ?_
  refine G.nil ?_
  refine GC.seq ?_
  refine GC.condD rfl (fun h10 => ?_) (fun h10 => ?_)
  · refine GC.skip ?_
    refine GC.seq ?_
    refine GC.block ?_
    refine GC.seq ?_
    have hlt : j < Rs.length := by omega
    have hr : Rs[j]? = some Rs[j] := List.getElem?_eq_getElem hlt
    obtain ⟨ab, o, rfl, hcell⟩ := hat j _ hr
    have hrok := hok _ (List.getElem_mem hlt)
    generalize hRB : Rs[j] = r at *
    refine GC.reg ?_  -- region 4, echo.go:60
    refine G.v (V.mv rfl) rfl ?_
    refine G.v (V.ia (i := j) Tryd.underlying35 Tryd.sizeOf51 rfl rfl hlt) rfl ?_
    refine G.v (V.ldAC (cs := r.cells) Tryd.isAgg51 Tryd.sizeOf51 rfl hcell rfl id) rfl ?_
    refine G.al Tryd.zeroValue51 rfl rfl (fun xb hxb => ?_)
    refine G.v (V.asg rfl) rfl ?_
    refine G.stA (cs := r.cells) Tryd.sizeOf51 rfl rfl (fun v hv => ?_) .z rfl ?_
    · simp only [RB.cells, List.mem_cons, List.not_mem_nil, or_false] at hv
      rcases hv with rfl | rfl | rfl <;> rfl
    refine G.nil ?_
    refine GC.reg ?_  -- region 5, echo.go:61
    refine G.v (V.mv rfl) rfl ?_
    refine G.v (V.fa F51_0 rfl) rfl ?_
    refine G.v (V.ld Tryd.isAgg9 rfl (.head _) rfl) rfl ?_
    refine G.v (V.fa F51_1 rfl) rfl ?_
    refine G.v (V.ld Tryd.isAgg9 rfl (.head _) rfl) rfl ?_
    refine G.v (V.fa F51_2 rfl) rfl ?_
    refine G.v (V.ld Tryd.isAgg9 rfl (.head _) rfl) rfl ?_
    refine G.v (V.mv rfl) rfl ?_
    refine G.callL (H1 := rtE rb root rt eb :: ecE eb zb :: zzE zb rb z :: mpE rt (rkv L) :: ents T) (Hk := ⟨xb, true, .row r.cells 51 (0, 0)⟩ :: L.flatMap Rt.ents) (fun v H1 => ∃ nb T' q' Rn h hh pad pcp Hn, v = Pt nb 0 ∧ Sh T' q' (⟨(prs r.p none).1, some (r.m, h)⟩ :: Rn ++ R) root ∧ EvR (prs r.p none).1 r.m Rn ∧ (∀ x ∈ T', x.ok (1000 * j + 1000)) ∧ Own 9 1 (.slice pad (prs r.p none).2.length pcp) (prs r.p none).2.length ((prs r.p none).2.map S) Hn ∧ H1 = roE nb r.m r.p r.nm :: mpE rt (kvPut (rkv L) (r.m ++ r.p) (Pt nb 0)) :: rmE h (some hh) r.p pad (prs r.p none).2.length pcp :: rtE rb root rt eb :: ecE eb zb :: zzE zb rb (max z (prs r.p none).2.length) :: (ents T' ++ Hn ++ [⟨hh, true, .row [I ((j : Nat) : Int)] 3 (0, 0)⟩])) ?_ ?_ Tryd.call57 rfl rfl (fun w1 hw1 _ => ?_) ?_
    · exact (List.perm_middle (l₁ := rtE rb root rt eb :: ecE eb zb :: zzE zb rb z :: mpE rt (rkv L) :: ents T)).symm
    · intro e he
      simp only [List.mem_cons] at he
      rcases he with rfl | rfl | rfl | rfl | he
      · rfl
      · rfl
      · rfl
      · rfl
      · exact ents_w hinv.ok e he
    · refine (f57_any w1 _ T q R rb root rt eb zb z (1000 * j) ((j : Nat) : Int) (rkv L) r.m r.p r.nm (prs r.p none).1 (prs r.p none).2 rfl hrok.hd hrok.okR hrok.pl hrok.ml hinv.sh hinv.Rl hinv.ok (by omega) hw1).mono fun e w' ⟨nb, T', q', Rn, h, hh, pad, pcp, Hn, h1, h2, h3, h4, h5, h6⟩ => ?_
      refine ⟨_, _, h1, fun e he => ?_, h6, nb, T', q', Rn, h, hh, pad, pcp, Hn, rfl, h2, h3, h4, h5, rfl⟩
      simp only [List.mem_cons, List.mem_append, List.not_mem_nil, or_false] at he
      rcases he with rfl | rfl | rfl | rfl | rfl | rfl | ((he | he) | rfl)
      · rfl
      · rfl
      · rfl
      · rfl
      · rfl
      · rfl
      · exact ents_w h4 e he
      · exact h5.w e he
      · rfl
    rintro v H1 ⟨nb, T', q', Rn, h, hh, pad, pcp, Hn, rfl, g2, g3, g4, g5, rfl⟩
    refine G.nil ?_
    refine GC.inBlock ?_
    refine GC.reg ?_  -- region 6, echo.go:60
    refine G.v (V.addI rfl rfl rfl (by omega) (by omega)) rfl ?_
    refine G.v (V.mv rfl) rfl ?_
    refine G.nil ?_
    have hadd := hinv.add (r := ⟨r, j, h, hh, nb, pad, pcp, Hn⟩) hrok g2 g3 g4 g5
    refine GC.turn (H' := RH rb root rt eb zb (max z (prs r.p none).2.length) T' (⟨r, j, h, hh, nb, pad, pcp, Hn⟩ :: L)) (fun w1 hw1 => ?_) (ih (N - 1) _ _ (by omega) ⟨j + 1, _, T', q', _, _, by omega, hadd, ?_, .cons rfl (.cons rfl (.cons rfl (.cons rfl .nil))), rfl⟩)
    · have p := perm_idx [[roE nb r.m r.p r.nm], [mpE rt (kvPut (rkv L) (r.m ++ r.p) (Pt nb 0))], [rmE h (some hh) r.p pad (prs r.p none).2.length pcp], [rtE rb root rt eb, ecE eb zb, zzE zb rb (max z (prs r.p none).2.length)], ents T', Hn, [⟨hh, true, .row [I ((j : Nat) : Int)] 3 (0, 0)⟩], [⟨xb, true, .row r.cells 51 (0, 0)⟩], L.flatMap Rt.ents] [0, 1, 2, 3, 4, 5, 6, 7, 8] [7, 3, 1, 4, 6, 0, 2, 5, 8] (by decide)
      refine (HF.perm (H' := ⟨xb, true, .row r.cells 51 (0, 0)⟩ :: RH rb root rt eb zb (max z (prs r.p none).2.length) T' (⟨r, j, h, hh, nb, pad, pcp, Hn⟩ :: L)) hw1 (List.Perm.trans (.of_eq ?_) (p.trans (.of_eq ?_)))).sub (List.sublist_cons_self _ _)
      · simp
      · simp [RH, rkv, Rt.ents, Rt.nms]
    · rw [List.take_succ_eq_append_getElem hlt, List.zipIdx_append, ← hL, hRB]
      simp [Rt.key, Nat.min_eq_left (Nat.le_of_lt hlt)]
  refine GC.exit rfl ?_
  refine GC.seq ?_
  refine GC.reg ?_  -- region 7, echo.go:63
  refine G.v (V.mv rfl) rfl ?_
  refine G.v (V.asg rfl) rfl ?_
  refine G.nil ?_
  refine GC.ret1 rfl rfl fun w' hw' => ⟨rb, root, rt, eb, zb, z, 1000 * j, T, q, R, L, rfl, hinv, by omega, ?_, hw'⟩
  rw [hL, List.take_of_length_le (by omega)]
end Go.Proofs

/- The search of Router.Find, as a machine over the table of nodes. No program in sight. -/
namespace Bw
open Go Go.Proofs

/-- the state: the node, how much of the path is behind, how many parameters, their values, the best node so far -/
structure St where
  n : Nat
  si : Nat
  pi : Nat
  vals : List (List UInt8)
  best : Option Nat

inductive Res where
  | none' (vals : List (List UInt8))
  | hit (h : Nat) (vals : List (List UInt8))
  | miss (b : Nat) (vals : List (List UInt8))

def resOf (best : Option Nat) (vals : List (List UInt8)) : Res :=
  match best with
  | some b => .miss b vals
  | none => .none' vals

/-- up to the next slash -/
def upTo (s : List UInt8) : Nat := (s.takeWhile fun c => c != 47).length

/-- the child that is chosen by a byte -/
def kidOf (T : List NR) (r : NR) (c : UInt8) : Option Nat := (r.kids.find? fun a => lbl T a == c)

def adv (r : NR) (si : Nat) : Nat := if r.kd = 0 then si + r.pre.length else si
def best1 (r : NR) (path : List UInt8) (si : Nat) (best : Option Nat) : Option Nat := if path.drop si = [] ∧ r.hdl = true ∧ best = none then some r.n else best

/-- label 0: the loop's head; 1: Param; 2: Any -/
inductive Run (T : List NR) (meth path : List UInt8) : Nat → St → Res → Prop
  | off0 {r : NR} {st : St} (hr : r ∈ T) (hn : r.n = st.n) (hk : r.kd = 0) (hp : ¬ r.pre <+: path.drop st.si) (h0 : r.par = none) : Run T meth path 0 st (.none' st.vals)
  | off1 {r : NR} {st : St} {p : Nat} {x : Res} (hr : r ∈ T) (hn : r.n = st.n) (hk : r.kd = 0) (hp : ¬ r.pre <+: path.drop st.si) (h0 : r.par = some p) (h : Run T meth path 1 { st with n := p } x) : Run T meth path 0 st x
  | hit {r : NR} {st : St} {h : Nat} (hr : r ∈ T) (hn : r.n = st.n) (hk : r.kd = 0 → r.pre <+: path.drop st.si) (he : path.drop (adv r st.si) = []) (hh : r.hdl = true) (hg : getM r.f r.kv meth = some h) : Run T meth path 0 st (.hit h st.vals)
  | nf {r : NR} {st : St} {h : Nat} (hr : r ∈ T) (hn : r.n = st.n) (hk : r.kd = 0 → r.pre <+: path.drop st.si) (he : path.drop (adv r st.si) = []) (hh : r.hdl = false) (hg : r.nf = some h) : Run T meth path 0 st (.hit h st.vals)
  | down {r : NR} {st : St} {c : Nat} {x : Res} (hr : r ∈ T) (hn : r.n = st.n) (hk : r.kd = 0 → r.pre <+: path.drop st.si) (he : path.drop (adv r st.si) ≠ []) (hc : kidOf T r ((path.drop (adv r st.si)).headD 0) = some c)
      (h : Run T meth path 0 { st with n := c, si := adv r st.si } x) : Run T meth path 0 st x
  | stay {r : NR} {st : St} {x : Res} (hr : r ∈ T) (hn : r.n = st.n) (hk : r.kd = 0 → r.pre <+: path.drop st.si) (he : path.drop (adv r st.si) = [] → (r.hdl = true → getM r.f r.kv meth = none) ∧ (r.hdl = false → r.nf = none))
      (hc : path.drop (adv r st.si) ≠ [] → kidOf T r ((path.drop (adv r st.si)).headD 0) = none) (h : Run T meth path 1 { st with si := adv r st.si, best := best1 r path (adv r st.si) st.best } x) : Run T meth path 0 st x
  | par {r c : NR} {st : St} {x : Res} (hr : r ∈ T) (hn : r.n = st.n) (hp : r.pch = some c.n) (hc : c ∈ T) (hs : path.drop st.si ≠ []) (hv : st.pi < st.vals.length)
      (h : Run T meth path 0 { st with n := c.n, si := st.si + (if c.leaf then (path.drop st.si).length else upTo (path.drop st.si)), pi := st.pi + 1, vals := st.vals.set st.pi ((path.drop st.si).take (if c.leaf then (path.drop st.si).length else upTo (path.drop st.si))) } x) : Run T meth path 1 st x
  | npar {r : NR} {st : St} {x : Res} (hr : r ∈ T) (hn : r.n = st.n) (hp : r.pch = none ∨ path.drop st.si = []) (h : Run T meth path 2 st x) : Run T meth path 1 st x
  | anyHit {r c : NR} {st : St} {h : Nat} (hr : r ∈ T) (hn : r.n = st.n) (ha : r.ach = some c.n) (hc : c ∈ T) (hpc : c.pc = st.pi + 1) (hv : st.pi < st.vals.length) (hg : getM c.f c.kv meth = some h) :
      Run T meth path 2 st (.hit h (st.vals.set st.pi (path.drop st.si)))
  | anyNf {r c : NR} {st : St} {h : Nat} (hr : r ∈ T) (hn : r.n = st.n) (ha : r.ach = some c.n) (hc : c ∈ T) (hpc : c.pc = st.pi + 1) (hv : st.pi < st.vals.length) (hg : getM c.f c.kv meth = none) (hf : c.nf = some h) :
      Run T meth path 2 st (.hit h (st.vals.set st.pi (path.drop st.si)))
  | anyStop {r c : NR} {st : St} (hr : r ∈ T) (hn : r.n = st.n) (ha : r.ach = some c.n) (hc : c ∈ T) (hk : c.kd = 2) (hpc : c.pc = st.pi + 1) (hv : st.pi < st.vals.length) (hg : getM c.f c.kv meth = none) (hf : c.nf = none) :
      Run T meth path 2 st (.miss (st.best.getD c.n) (st.vals.set st.pi []))
  | end0 {r : NR} {st : St} (hr : r ∈ T) (hn : r.n = st.n) (ha : r.ach = none) (hk : r.kd = 0) (hs : r.pre.length ≤ st.si) (h0 : r.par = none) : Run T meth path 2 st (resOf st.best st.vals)
  | up0 {r : NR} {st : St} {p : Nat} {x : Res} (hr : r ∈ T) (hn : r.n = st.n) (ha : r.ach = none) (hk : r.kd = 0) (hs : r.pre.length ≤ st.si) (h0 : r.par = some p) (h : Run T meth path 1 { st with n := p, si := st.si - r.pre.length } x) : Run T meth path 2 st x
  | up1 {r : NR} {st : St} {p : Nat} {x : Res} {v : List UInt8} (hr : r ∈ T) (hn : r.n = st.n) (ha : r.ach = none) (hk : r.kd = 1) (hpi : 0 < st.pi) (hv : st.vals[st.pi - 1]? = some v) (hs : v.length ≤ st.si) (h0 : r.par = some p)
      (h : Run T meth path 2 { st with n := p, si := st.si - v.length, pi := st.pi - 1, vals := st.vals.set (st.pi - 1) [] } x) : Run T meth path 2 st x

/-- what stands in memory and is left alone -/
def RF (w : World) (D : Nat → Prop) (E : SH) : Prop := ∀ e ∈ E, w.heap[e.b]? = some e.k.den ∧ ¬ D e.b
theorem RF.cell {w : World} {D : Nat → Prop} {E : SH} (h : RF w D E) {b off : Nat} {wf : Bool} {l : List Value} {t : TypeId} {fz : Nat × Nat} {v : Value} (hm : ⟨b, wf, .row l t fz⟩ ∈ E) (hv : nth l off = some v) : w.cell? ⟨b, off, none⟩ = some v := by
  have h1 := (h _ hm).1
  simp only [Blk.den] at h1
  simp only [World.cell?, h1]
  rw [nth_eq] at hv
  simp [hv]
theorem RF.D {w : World} {D : Nat → Prop} {E : SH} (h : RF w D E) {e : Ent} (hm : e ∈ E) : ¬ D e.b := (h e hm).2
end Bw
namespace Bw
open Go Go.Proofs

theorem setL_set : ∀ (l : List Value) (i : Nat) (v : Value), setL l i v = l.set i v
  | [], _, _ => by simp [setL]
  | _ :: _, 0, _ => by simp [setL]
  | a :: l, i + 1, v => by simp [setL, setL_set l i v]

/-- a call of a closure that turns the entries H1 and leaves the others -/
theorem G.callVL {P : Program} {c : Cx} {n : Nat} {k : List Item} {fr : SF} {H : SH} {ops : Array Oper} {rest : List Oper} {ty : TypeId} {pos : String} {aft : Array Edge}
    {H1 Hk : SH} {g : FuncId} {x : Operand} {xs : List Operand} {vs cs : List Value} {tys : Array TypeId} {d : Nat} (J : Value → SH → Prop) (hp : H.Perm (H1 ++ Hk)) (ha : ∀ e ∈ H1, e.w = true)
    (hg : ∀ (args : Array Value) w, (callFunc g args).run P w = .ok (.enter g args) w) (hx : ev fr x = some (.func (.func g) #[] cs.toArray)) (he : evs fr xs = some vs) (hd : Nat.blt d n = true)
    (hc : ∀ w, HF c.w0 c.D H w → HF w (fun b => ∃ e ∈ H1, e.b = b) H1 w →
      Calls P g (vs ++ cs).toArray w (fun e w' => ∃ v H1', e = .returned v ∧ (∀ x ∈ H1', x.w = true) ∧ HF w (fun b => ∃ e ∈ H1, e.b = b) H1' w' ∧ J v H1'))
    (hk : ∀ v H1', J v H1' → G P c n k ops rest ((d, v) :: fr) (H1' ++ Hk)) :
    G P c n k ops (⟨some d, .call ⟨.value x, xs.toArray, tys⟩, ty, pos, aft, none⟩ :: rest) fr H := by
  intro hf a w haa hw
  refine wpList_step fun K' hK' => ?_
  simp only [Region.wanted, if_true, Oper.wp, run_callV haa hg hx he, Oper.upon]
  have hh := hw.perm hp
  have hnd := List.pairwise_append.1 hh.nd
  refine (hc w hw (hh.loc (fun e he => List.mem_append_left _ he) hnd.1)).mono fun e w' ⟨v, H1', h1, h2, h3, h4⟩ => ?_
  subst h1
  exact hK' _ _ (hk v H1' h4 hf _ _ (haa.put hd v) (hw.back hp ha h2 h3))

/-- the search's own memory -/
structure LB where
  b9 : Nat
  b13 : Nat
  b14 : Nat
  b15 : Nat
  b6 : Nat
  b12 : Nat
  pb : Nat
  z : Nat
def LB.ents (B : LB) (path : List UInt8) (cur : Option Nat) (si pi : Nat) (s : List UInt8) (vals : List (List UInt8)) : SH :=
  [⟨B.b9, true, .row [PO cur] 136 (0, 0)⟩, ⟨B.b13, true, .row [I (si : Int)] 3 (0, 0)⟩, ⟨B.b14, true, .row [I (pi : Int)] 3 (0, 0)⟩, ⟨B.b15, true, .row [.slice (some ⟨B.pb, 0, none⟩) B.z B.z] 24 (0, 0)⟩, ⟨B.b6, true, .row [S path] 9 (0, 0)⟩,
    ⟨B.b12, true, .row [S s] 9 (0, 0)⟩, ⟨B.pb, true, .row (vals.map S) 9 (0, 0)⟩]
theorem LB.w {B : LB} {path cur si pi s vals} : ∀ e ∈ B.ents path cur si pi s vals, e.w = true := by
  intro e he
  simp only [LB.ents, List.mem_cons, List.not_mem_nil, or_false] at he
  rcases he with rfl | rfl | rfl | rfl | rfl | rfl | rfl <;> rfl
end Bw

/- Find's backtracking. Printed by wip/mk_e9.py. -/
namespace Go.Proofs
open Go Bw
set_option maxRecDepth 20000

theorem f91_s (w : World) (D : Nat → Prop) (B : LB) (n : Nat) (par : Option Nat) (path pre s : List UInt8) (si pi : Nat) (vals : List (List UInt8)) (hH : HF w D (B.ents path (some n) si pi s vals) w) (h1 : w.cell? ⟨n, 1, none⟩ = some (PO par)) (_h5 : w.cell? ⟨n, 5, none⟩ = some (S pre))
    (h10 : w.cell? ⟨n, 10, none⟩ = some (.int .u8 ((0 : Nat) : Int))) (hD : ¬ D n) (_hsl : si ≤ path.length) (_hpl : path.length ≤ 1000000) (_hpi1 : pi ≤ 1000000) :
    Calls Tryd.prog 91 #[.int .u8 0, Pt B.b9 0, Pt B.b13 0, Pt B.b14 0, Pt B.b15 0, Pt B.b6 0, Pt B.b12 0] w fun e w' => e = .returned (.tuple #[.int .u8 1, .bool par.isSome]) ∧ HF w D (B.ents path par si pi s vals) w' := by
  refine enter D (B.ents path (some n) si pi s vals) Tryd.func91 rfl Tryd.ntmps91 rfl rfl hH fun c hc => ?_
  subst hc
  refine GC.seq ?_
  refine GC.reg ?_  -- region 0, router.go:545
  refine G.v (V.asg rfl) rfl ?_
  refine G.v (V.asg rfl) rfl ?_
  refine G.nil ?_
  refine GC.seq ?_
  refine GC.reg ?_  -- region 1, router.go:546
  refine G.v (V.ld (v := Pt n 0) Tryd.isAgg136 rfl (.head _) rfl) rfl ?_
  refine G.v (V.asg rfl) rfl ?_
  refine G.nil ?_
  refine GC.seq ?_
  refine GC.reg ?_  -- region 2, router.go:547
  refine G.v (V.mv rfl) rfl ?_
  refine G.v (V.nc rfl) rfl ?_
  refine G.v (V.fa F146_1 rfl) rfl ?_
  refine G.v (V.ldC Tryd.isAgg136 rfl h1 hD) rfl ?_
  refine G.st (v := PO par) Tryd.sizeOf136 rfl rfl (by cases par <;> rfl) .z rfl rfl ?_
  refine G.nil ?_
  refine GC.seq ?_
  refine GC.reg ?_  -- region 3, router.go:548
  refine G.v (V.ld Tryd.isAgg136 rfl (.head _) rfl) rfl ?_
  refine G.v (V.neO Tryd.underlying136 rfl) rfl ?_
  refine G.v (V.asg rfl) rfl ?_
  refine G.nil ?_
  refine GC.seq ?_
  refine GC.seq ?_
  refine GC.reg ?_  -- region 4, router.go:551
  refine G.v (V.mv rfl) rfl ?_
  refine G.v (V.nc rfl) rfl ?_
  refine G.v (V.fa F146_10 rfl) rfl ?_
  refine G.v (V.ldC Tryd.isAgg141 rfl h10 hD) rfl ?_
  refine G.v (V.eqI rfl rfl) rfl ?_
  refine G.nil ?_
  refine GC.condF rfl ?_
  refine GC.reg ?_  -- region 6, router.go:554
  refine G.v (V.mv rfl) rfl ?_
  refine G.v (V.nc rfl) rfl ?_
  refine G.v (V.fa F146_10 rfl) rfl ?_
  refine G.v (V.ldC Tryd.isAgg141 rfl h10 hD) rfl ?_
  refine G.v (v := .int .u8 1) (V.add (kd := .u8) (i := ((0 : Nat) : Int)) (j := 1) rfl rfl) rfl ?_
  refine G.v (V.asg rfl) rfl ?_
  refine G.nil ?_
  refine GC.seq ?_
  refine GC.seq ?_
  refine GC.reg ?_  -- region 7, router.go:557
  refine G.v (V.mv rfl) rfl ?_
  refine G.v (V.eqI rfl rfl) rfl ?_
  refine G.nil ?_
  refine GC.condT rfl ?_
  exact GC.ret2 rfl rfl rfl fun w' hw' => ⟨rfl, hw'⟩
theorem f91_0 (w : World) (D : Nat → Prop) (B : LB) (n : Nat) (par : Option Nat) (path pre s : List UInt8) (si pi : Nat) (vals : List (List UInt8)) (hs : pre.length ≤ si) (hH : HF w D (B.ents path (some n) si pi s vals) w) (h1 : w.cell? ⟨n, 1, none⟩ = some (PO par)) (h5 : w.cell? ⟨n, 5, none⟩ = some (S pre))
    (h10 : w.cell? ⟨n, 10, none⟩ = some (.int .u8 ((0 : Nat) : Int))) (hD : ¬ D n) (hsl : si ≤ path.length) (hpl : path.length ≤ 1000000) (_hpi1 : pi ≤ 1000000) :
    Calls Tryd.prog 91 #[.int .u8 2, Pt B.b9 0, Pt B.b13 0, Pt B.b14 0, Pt B.b15 0, Pt B.b6 0, Pt B.b12 0] w fun e w' => e = .returned (.tuple #[.int .u8 1, .bool par.isSome]) ∧ HF w D (B.ents path par (si - pre.length) pi (path.drop (si - pre.length)) vals) w' := by
  refine enter D (B.ents path (some n) si pi s vals) Tryd.func91 rfl Tryd.ntmps91 rfl rfl hH fun c hc => ?_
  subst hc
  refine GC.seq ?_
  refine GC.reg ?_  -- region 0, router.go:545
  refine G.v (V.asg rfl) rfl ?_
  refine G.v (V.asg rfl) rfl ?_
  refine G.nil ?_
  refine GC.seq ?_
  refine GC.reg ?_  -- region 1, router.go:546
  refine G.v (V.ld (v := Pt n 0) Tryd.isAgg136 rfl (.head _) rfl) rfl ?_
  refine G.v (V.asg rfl) rfl ?_
  refine G.nil ?_
  refine GC.seq ?_
  refine GC.reg ?_  -- region 2, router.go:547
  refine G.v (V.mv rfl) rfl ?_
  refine G.v (V.nc rfl) rfl ?_
  refine G.v (V.fa F146_1 rfl) rfl ?_
  refine G.v (V.ldC Tryd.isAgg136 rfl h1 hD) rfl ?_
  refine G.st (v := PO par) Tryd.sizeOf136 rfl rfl (by cases par <;> rfl) .z rfl rfl ?_
  refine G.nil ?_
  refine GC.seq ?_
  refine GC.reg ?_  -- region 3, router.go:548
  refine G.v (V.ld Tryd.isAgg136 rfl (.head _) rfl) rfl ?_
  refine G.v (V.neO Tryd.underlying136 rfl) rfl ?_
  refine G.v (V.asg rfl) rfl ?_
  refine G.nil ?_
  refine GC.seq ?_
  refine GC.seq ?_
  refine GC.reg ?_  -- region 4, router.go:551
  refine G.v (V.mv rfl) rfl ?_
  refine G.v (V.nc rfl) rfl ?_
  refine G.v (V.fa F146_10 rfl) rfl ?_
  refine G.v (V.ldC Tryd.isAgg141 rfl h10 hD) rfl ?_
  refine G.v (V.eqI rfl rfl) rfl ?_
  refine G.nil ?_
  refine GC.condF rfl ?_
  refine GC.reg ?_  -- region 6, router.go:554
  refine G.v (V.mv rfl) rfl ?_
  refine G.v (V.nc rfl) rfl ?_
  refine G.v (V.fa F146_10 rfl) rfl ?_
  refine G.v (V.ldC Tryd.isAgg141 rfl h10 hD) rfl ?_
  refine G.v (v := .int .u8 1) (V.add (kd := .u8) (i := ((0 : Nat) : Int)) (j := 1) rfl rfl) rfl ?_
  refine G.v (V.asg rfl) rfl ?_
  refine G.nil ?_
  refine GC.seq ?_
  refine GC.seq ?_
  refine GC.reg ?_  -- region 7, router.go:557
  refine G.v (V.mv rfl) rfl ?_
  refine G.v (V.eqI rfl rfl) rfl ?_
  refine G.nil ?_
  refine GC.condF rfl ?_
  refine GC.skip ?_
  refine GC.seq ?_
  refine GC.seq ?_
  refine GC.reg ?_  -- region 8, router.go:563
  refine G.v (V.mv rfl) rfl ?_
  refine G.v (V.nc rfl) rfl ?_
  refine G.v (V.fa F146_10 rfl) rfl ?_
  refine G.v (V.ldC Tryd.isAgg141 rfl h10 hD) rfl ?_
  refine G.v (V.eqI rfl rfl) rfl ?_
  refine G.nil ?_
  refine GC.condT rfl ?_
  refine GC.regT 7 mixed (by kernel_rfl) rfl rfl ?_  -- region 9, router.go:564
  refine GS.v (V.ld Tryd.isAgg3 rfl (.tail _ (.head _)) rfl) rfl ?_
  refine GS.v (V.mv rfl) rfl ?_
  refine GS.v (V.nc rfl) rfl ?_
  refine GS.v (V.fa F146_5 rfl) rfl ?_
  refine GS.v (V.ldC Tryd.isAgg9 rfl h5 hD) rfl ?_
  refine GS.v (V.lenS Tryd.underlying9 rfl) rfl ?_
  refine GS.v (V.subI (r := ((si - pre.length : Nat) : Int)) rfl rfl (by omega) (by omega) (by omega)) rfl ?_
  refine GS.nil ?_
  refine G.st Tryd.sizeOf3 rfl rfl rfl (.s .z) rfl rfl ?_
  refine G.nil ?_
  refine GC.seq ?_
  refine GC.reg ?_  -- region 13, router.go:572
  refine G.v (V.ld Tryd.isAgg9 rfl (.tail _ (.tail _ (.tail _ (.tail _ (.head _))))) rfl) rfl ?_
  refine G.v (V.ld Tryd.isAgg3 rfl (.tail _ (.head _)) rfl) rfl ?_
  refine G.v (V.slL (i := (si - pre.length)) Tryd.underlying9 rfl rfl (by omega)) rfl ?_
  refine G.st Tryd.sizeOf9 rfl rfl rfl (.s (.s (.s (.s (.s .z))))) rfl rfl ?_
  refine G.nil ?_
  exact GC.ret2 rfl rfl rfl fun w' hw' => ⟨rfl, hw'⟩
theorem f91_1 (w : World) (D : Nat → Prop) (B : LB) (n : Nat) (par : Option Nat) (path pre s : List UInt8) (si pi : Nat) (vals : List (List UInt8)) (hpi : 0 < pi) (v : List UInt8) (hv : vals[pi - 1]? = some v) (hvz : vals.length = B.z) (hs : v.length ≤ si) (hH : HF w D (B.ents path (some n) si pi s vals) w) (h1 : w.cell? ⟨n, 1, none⟩ = some (PO par)) (_h5 : w.cell? ⟨n, 5, none⟩ = some (S pre))
    (h10 : w.cell? ⟨n, 10, none⟩ = some (.int .u8 ((1 : Nat) : Int))) (hD : ¬ D n) (hsl : si ≤ path.length) (hpl : path.length ≤ 1000000) (hpi1 : pi ≤ 1000000) :
    Calls Tryd.prog 91 #[.int .u8 2, Pt B.b9 0, Pt B.b13 0, Pt B.b14 0, Pt B.b15 0, Pt B.b6 0, Pt B.b12 0] w fun e w' => e = .returned (.tuple #[.int .u8 2, .bool par.isSome]) ∧ HF w D (B.ents path par (si - v.length) (pi - 1) (path.drop (si - v.length)) (vals.set (pi - 1) [])) w' := by
  refine enter D (B.ents path (some n) si pi s vals) Tryd.func91 rfl Tryd.ntmps91 rfl rfl hH fun c hc => ?_
  subst hc
  refine GC.seq ?_
  refine GC.reg ?_  -- region 0, router.go:545
  refine G.v (V.asg rfl) rfl ?_
  refine G.v (V.asg rfl) rfl ?_
  refine G.nil ?_
  refine GC.seq ?_
  refine GC.reg ?_  -- region 1, router.go:546
  refine G.v (V.ld (v := Pt n 0) Tryd.isAgg136 rfl (.head _) rfl) rfl ?_
  refine G.v (V.asg rfl) rfl ?_
  refine G.nil ?_
  refine GC.seq ?_
  refine GC.reg ?_  -- region 2, router.go:547
  refine G.v (V.mv rfl) rfl ?_
  refine G.v (V.nc rfl) rfl ?_
  refine G.v (V.fa F146_1 rfl) rfl ?_
  refine G.v (V.ldC Tryd.isAgg136 rfl h1 hD) rfl ?_
  refine G.st (v := PO par) Tryd.sizeOf136 rfl rfl (by cases par <;> rfl) .z rfl rfl ?_
  refine G.nil ?_
  refine GC.seq ?_
  refine GC.reg ?_  -- region 3, router.go:548
  refine G.v (V.ld Tryd.isAgg136 rfl (.head _) rfl) rfl ?_
  refine G.v (V.neO Tryd.underlying136 rfl) rfl ?_
  refine G.v (V.asg rfl) rfl ?_
  refine G.nil ?_
  refine GC.seq ?_
  refine GC.seq ?_
  refine GC.reg ?_  -- region 4, router.go:551
  refine G.v (V.mv rfl) rfl ?_
  refine G.v (V.nc rfl) rfl ?_
  refine G.v (V.fa F146_10 rfl) rfl ?_
  refine G.v (V.ldC Tryd.isAgg141 rfl h10 hD) rfl ?_
  refine G.v (V.eqI rfl rfl) rfl ?_
  refine G.nil ?_
  refine GC.condF rfl ?_
  refine GC.reg ?_  -- region 6, router.go:554
  refine G.v (V.mv rfl) rfl ?_
  refine G.v (V.nc rfl) rfl ?_
  refine G.v (V.fa F146_10 rfl) rfl ?_
  refine G.v (V.ldC Tryd.isAgg141 rfl h10 hD) rfl ?_
  refine G.v (v := .int .u8 2) (V.add (kd := .u8) (i := ((1 : Nat) : Int)) (j := 1) rfl rfl) rfl ?_
  refine G.v (V.asg rfl) rfl ?_
  refine G.nil ?_
  refine GC.seq ?_
  refine GC.seq ?_
  refine GC.reg ?_  -- region 7, router.go:557
  refine G.v (V.mv rfl) rfl ?_
  refine G.v (V.eqI rfl rfl) rfl ?_
  refine G.nil ?_
  refine GC.condF rfl ?_
  refine GC.skip ?_
  refine GC.seq ?_
  refine GC.seq ?_
  refine GC.reg ?_  -- region 8, router.go:563
  refine G.v (V.mv rfl) rfl ?_
  refine G.v (V.nc rfl) rfl ?_
  refine G.v (V.fa F146_10 rfl) rfl ?_
  refine G.v (V.ldC Tryd.isAgg141 rfl h10 hD) rfl ?_
  refine G.v (V.eqI rfl rfl) rfl ?_
  refine G.nil ?_
  refine GC.condF rfl ?_
  refine GC.seq ?_
  refine GC.reg ?_  -- region 10, router.go:566
  refine G.v (V.ld Tryd.isAgg3 rfl (.tail _ (.tail _ (.head _))) rfl) rfl ?_
  refine G.v (V.subI (r := ((pi - 1 : Nat) : Int)) rfl rfl (by omega) (by omega) (by omega)) rfl ?_
  refine G.st Tryd.sizeOf3 rfl rfl rfl (.s (.s .z)) rfl rfl ?_
  refine G.nil ?_
  refine GC.seq ?_
  refine GC.regT 7 mixed (by kernel_rfl) rfl rfl ?_  -- region 11, router.go:569
  have hlt : pi - 1 < vals.length := (List.getElem?_eq_some_iff.1 hv).1
  refine GS.v (V.ld Tryd.isAgg3 rfl (.tail _ (.head _)) rfl) rfl ?_
  refine GS.v (V.ld Tryd.isAgg24 rfl (.tail _ (.tail _ (.tail _ (.head _)))) rfl) rfl ?_
  refine GS.v (V.ld Tryd.isAgg3 rfl (.tail _ (.tail _ (.head _))) rfl) rfl ?_
  refine GS.v (V.ia (i := pi - 1) Tryd.underlying24 Tryd.sizeOf9 rfl rfl (by omega)) rfl ?_
  refine GS.v (V.ld (v := S v) Tryd.isAgg9 rfl (.tail _ (.tail _ (.tail _ (.tail _ (.tail _ (.tail _ (.head _))))))) (by rw [nth_eq, Nat.zero_add, Nat.mul_one, List.getElem?_map, hv]; rfl)) rfl ?_
  refine GS.v (V.lenS Tryd.underlying9 rfl) rfl ?_
  refine GS.v (V.subI (r := ((si - v.length : Nat) : Int)) rfl rfl (by omega) (by omega) (by omega)) rfl ?_
  refine GS.nil ?_
  refine G.st Tryd.sizeOf3 rfl rfl rfl (.s .z) rfl rfl ?_
  refine G.nil ?_
  refine GC.reg ?_  -- region 12, router.go:570
  refine G.v (V.ld Tryd.isAgg24 rfl (.tail _ (.tail _ (.tail _ (.head _)))) rfl) rfl ?_
  refine G.v (V.ld Tryd.isAgg3 rfl (.tail _ (.tail _ (.head _))) rfl) rfl ?_
  refine G.v (V.ia (i := pi - 1) Tryd.underlying24 Tryd.sizeOf9 rfl rfl (by omega)) rfl ?_
  refine G.st (v := S []) Tryd.sizeOf9 rfl rfl rfl (.s (.s (.s (.s (.s (.s .z)))))) (by rw [nth_eq, Nat.zero_add, Nat.mul_one, List.getElem?_map, hv]; rfl) rfl ?_
  refine G.nil ?_
  refine GC.seq ?_
  refine GC.reg ?_  -- region 13, router.go:572
  refine G.v (V.ld Tryd.isAgg9 rfl (.tail _ (.tail _ (.tail _ (.tail _ (.head _))))) rfl) rfl ?_
  refine G.v (V.ld Tryd.isAgg3 rfl (.tail _ (.head _)) rfl) rfl ?_
  refine G.v (V.slL (i := (si - v.length)) Tryd.underlying9 rfl rfl (by omega)) rfl ?_
  refine G.st Tryd.sizeOf9 rfl rfl rfl (.s (.s (.s (.s (.s .z))))) rfl rfl ?_
  refine G.nil ?_
  refine GC.ret2 rfl rfl rfl fun w' hw' => ⟨rfl, ?_⟩
  have es : setL (vals.map S) (0 + (pi - 1) * 1) (S []) = (vals.set (pi - 1) []).map S := by rw [setL_set, Nat.zero_add, Nat.mul_one, List.map_set]
  unfold LB.ents
  rw [← es]
  exact hw'
theorem f91_2 (w : World) (D : Nat → Prop) (B : LB) (n : Nat) (par : Option Nat) (path pre s : List UInt8) (si pi : Nat) (vals : List (List UInt8)) (hpi : 0 < pi) (v : List UInt8) (hv : vals[pi - 1]? = some v) (hvz : vals.length = B.z) (hs : v.length ≤ si) (hH : HF w D (B.ents path (some n) si pi s vals) w) (h1 : w.cell? ⟨n, 1, none⟩ = some (PO par)) (_h5 : w.cell? ⟨n, 5, none⟩ = some (S pre))
    (h10 : w.cell? ⟨n, 10, none⟩ = some (.int .u8 ((2 : Nat) : Int))) (hD : ¬ D n) (hsl : si ≤ path.length) (hpl : path.length ≤ 1000000) (hpi1 : pi ≤ 1000000) :
    Calls Tryd.prog 91 #[.int .u8 2, Pt B.b9 0, Pt B.b13 0, Pt B.b14 0, Pt B.b15 0, Pt B.b6 0, Pt B.b12 0] w fun e w' => e = .returned (.tuple #[.int .u8 0, .bool par.isSome]) ∧ HF w D (B.ents path par (si - v.length) (pi - 1) (path.drop (si - v.length)) (vals.set (pi - 1) [])) w' := by
  refine enter D (B.ents path (some n) si pi s vals) Tryd.func91 rfl Tryd.ntmps91 rfl rfl hH fun c hc => ?_
  subst hc
  refine GC.seq ?_
  refine GC.reg ?_  -- region 0, router.go:545
  refine G.v (V.asg rfl) rfl ?_
  refine G.v (V.asg rfl) rfl ?_
  refine G.nil ?_
  refine GC.seq ?_
  refine GC.reg ?_  -- region 1, router.go:546
  refine G.v (V.ld (v := Pt n 0) Tryd.isAgg136 rfl (.head _) rfl) rfl ?_
  refine G.v (V.asg rfl) rfl ?_
  refine G.nil ?_
  refine GC.seq ?_
  refine GC.reg ?_  -- region 2, router.go:547
  refine G.v (V.mv rfl) rfl ?_
  refine G.v (V.nc rfl) rfl ?_
  refine G.v (V.fa F146_1 rfl) rfl ?_
  refine G.v (V.ldC Tryd.isAgg136 rfl h1 hD) rfl ?_
  refine G.st (v := PO par) Tryd.sizeOf136 rfl rfl (by cases par <;> rfl) .z rfl rfl ?_
  refine G.nil ?_
  refine GC.seq ?_
  refine GC.reg ?_  -- region 3, router.go:548
  refine G.v (V.ld Tryd.isAgg136 rfl (.head _) rfl) rfl ?_
  refine G.v (V.neO Tryd.underlying136 rfl) rfl ?_
  refine G.v (V.asg rfl) rfl ?_
  refine G.nil ?_
  refine GC.seq ?_
  refine GC.seq ?_
  refine GC.reg ?_  -- region 4, router.go:551
  refine G.v (V.mv rfl) rfl ?_
  refine G.v (V.nc rfl) rfl ?_
  refine G.v (V.fa F146_10 rfl) rfl ?_
  refine G.v (V.ldC Tryd.isAgg141 rfl h10 hD) rfl ?_
  refine G.v (V.eqI rfl rfl) rfl ?_
  refine G.nil ?_
  refine GC.condT rfl ?_
  refine GC.reg ?_  -- region 5, router.go:552
  refine G.v (V.asg rfl) rfl ?_
  refine G.nil ?_
  refine GC.seq ?_
  refine GC.seq ?_
  refine GC.reg ?_  -- region 7, router.go:557
  refine G.v (V.mv rfl) rfl ?_
  refine G.v (V.eqI rfl rfl) rfl ?_
  refine G.nil ?_
  refine GC.condF rfl ?_
  refine GC.skip ?_
  refine GC.seq ?_
  refine GC.seq ?_
  refine GC.reg ?_  -- region 8, router.go:563
  refine G.v (V.mv rfl) rfl ?_
  refine G.v (V.nc rfl) rfl ?_
  refine G.v (V.fa F146_10 rfl) rfl ?_
  refine G.v (V.ldC Tryd.isAgg141 rfl h10 hD) rfl ?_
  refine G.v (V.eqI rfl rfl) rfl ?_
  refine G.nil ?_
  refine GC.condF rfl ?_
  refine GC.seq ?_
  refine GC.reg ?_  -- region 10, router.go:566
  refine G.v (V.ld Tryd.isAgg3 rfl (.tail _ (.tail _ (.head _))) rfl) rfl ?_
  refine G.v (V.subI (r := ((pi - 1 : Nat) : Int)) rfl rfl (by omega) (by omega) (by omega)) rfl ?_
  refine G.st Tryd.sizeOf3 rfl rfl rfl (.s (.s .z)) rfl rfl ?_
  refine G.nil ?_
  refine GC.seq ?_
  refine GC.regT 7 mixed (by kernel_rfl) rfl rfl ?_  -- region 11, router.go:569
  have hlt : pi - 1 < vals.length := (List.getElem?_eq_some_iff.1 hv).1
  refine GS.v (V.ld Tryd.isAgg3 rfl (.tail _ (.head _)) rfl) rfl ?_
  refine GS.v (V.ld Tryd.isAgg24 rfl (.tail _ (.tail _ (.tail _ (.head _)))) rfl) rfl ?_
  refine GS.v (V.ld Tryd.isAgg3 rfl (.tail _ (.tail _ (.head _))) rfl) rfl ?_
  refine GS.v (V.ia (i := pi - 1) Tryd.underlying24 Tryd.sizeOf9 rfl rfl (by omega)) rfl ?_
  refine GS.v (V.ld (v := S v) Tryd.isAgg9 rfl (.tail _ (.tail _ (.tail _ (.tail _ (.tail _ (.tail _ (.head _))))))) (by rw [nth_eq, Nat.zero_add, Nat.mul_one, List.getElem?_map, hv]; rfl)) rfl ?_
  refine GS.v (V.lenS Tryd.underlying9 rfl) rfl ?_
  refine GS.v (V.subI (r := ((si - v.length : Nat) : Int)) rfl rfl (by omega) (by omega) (by omega)) rfl ?_
  refine GS.nil ?_
  refine G.st Tryd.sizeOf3 rfl rfl rfl (.s .z) rfl rfl ?_
  refine G.nil ?_
  refine GC.reg ?_  -- region 12, router.go:570
  refine G.v (V.ld Tryd.isAgg24 rfl (.tail _ (.tail _ (.tail _ (.head _)))) rfl) rfl ?_
  refine G.v (V.ld Tryd.isAgg3 rfl (.tail _ (.tail _ (.head _))) rfl) rfl ?_
  refine G.v (V.ia (i := pi - 1) Tryd.underlying24 Tryd.sizeOf9 rfl rfl (by omega)) rfl ?_
  refine G.st (v := S []) Tryd.sizeOf9 rfl rfl rfl (.s (.s (.s (.s (.s (.s .z)))))) (by rw [nth_eq, Nat.zero_add, Nat.mul_one, List.getElem?_map, hv]; rfl) rfl ?_
  refine G.nil ?_
  refine GC.seq ?_
  refine GC.reg ?_  -- region 13, router.go:572
  refine G.v (V.ld Tryd.isAgg9 rfl (.tail _ (.tail _ (.tail _ (.tail _ (.head _))))) rfl) rfl ?_
  refine G.v (V.ld Tryd.isAgg3 rfl (.tail _ (.head _)) rfl) rfl ?_
  refine G.v (V.slL (i := (si - v.length)) Tryd.underlying9 rfl rfl (by omega)) rfl ?_
  refine G.st Tryd.sizeOf9 rfl rfl rfl (.s (.s (.s (.s (.s .z))))) rfl rfl ?_
  refine G.nil ?_
  refine GC.ret2 rfl rfl rfl fun w' hw' => ⟨rfl, ?_⟩
  have es : setL (vals.map S) (0 + (pi - 1) * 1) (S []) = (vals.set (pi - 1) []).map S := by rw [setL_set, Nat.zero_add, Nat.mul_one, List.map_set]
  unfold LB.ents
  rw [← es]
  exact hw'
end Go.Proofs
