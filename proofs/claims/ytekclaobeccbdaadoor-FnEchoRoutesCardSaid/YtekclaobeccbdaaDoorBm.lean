/- Routes that stand apart; a route without parameters is found by its path. -/
import Derived.Test.YtekclaobeccbdaaDoorBl
import Derived.Laws.OwnMore
/- EchoKey, EchoApart. Printed by wip/mk_h6.py. -/
namespace Go.Proofs
open Go Bw
set_option maxRecDepth 20000

def ekey (r : RB) : List UInt8 := r.m ++ [32] ++ (parts (ePath r.p)).flatten
theorem grp_flat : ∀ (u : List Tok) (acc : List UInt8), (grp acc u).flatten = acc ++ tb u
  | [], acc => by
    simp only [grp, txt, tb, List.map_nil, List.append_nil]
    split
    · rename_i h; rw [h]; rfl
    · simp
  | .b c :: u, acc => by rw [grp, grp_flat u]; simp [tb, Tok.byte]
  | .P :: u, acc => by
    rw [grp]
    simp only [List.flatten_append, List.flatten_cons, grp_flat u, txt, tb, List.map_cons, Tok.byte]
    split
    · rename_i h; rw [h]; rfl
    · simp
  | .A :: u, acc => by
    rw [grp]
    simp only [List.flatten_append, List.flatten_cons, grp_flat u, txt, tb, List.map_cons, Tok.byte]
    split
    · rename_i h; rw [h]; rfl
    · simp
theorem parts_flat (p : List UInt8) : (parts p).flatten = tb (prs p none).1 := by unfold parts; rw [grp_flat]; rfl
theorem flat_take_le : ∀ (l : List (List UInt8)) (j : Nat), (l.take j).flatten.length ≤ l.flatten.length
  | [], j => by simp
  | a :: l, 0 => by simp
  | a :: l, j + 1 => by have := flat_take_le l j; simp only [List.take_succ_cons, List.flatten_cons, List.length_append]; omega

theorem f44_any (w : World) (r : RB) (hm : r.m.length ≤ 100000) (hp : r.p.length ≤ 90000) : Calls Tryd.prog 44 #[.agg r.cells.toArray] w fun e w' => e = .returned (S (ekey r)) ∧ HF w (fun _ => False) [] w' := by
  refine enter (fun _ => False) [] Tryd.func44 rfl Tryd.ntmps44 rfl rfl (HF.start w _) fun c hc => ?_
  subst hc
  refine GC.seq ?_
  refine GC.reg ?_  -- region 0, echo.go:170
  refine G.bx (l := r.cells) rfl (by simp [cells_agg, RB.cells]) rfl (fun b1 hb1 => ?_)
  refine G.v (V.asg rfl) rfl ?_
  refine G.nil ?_
  refine GC.seq ?_
  refine GC.reg ?_  -- region 1, echo.go:171
  refine G.v (V.fa F23_1 rfl) rfl ?_
  refine G.v (V.ld Tryd.isAgg9 rfl (.head _) rfl) rfl ?_
  refine G.callP Tryd.call21 rfl rfl (fun w1 hw1 => f21_any w1 r.p (by omega)) ?_
  refine G.callW (fun v H2 => ∃ v1 v2 H1, v = .tuple #[v1, v2] ∧ Own 9 1 v1 (parts (ePath r.p)).length ((parts (ePath r.p)).map S) H1 ∧ H2 = H1 ++ [⟨b1, true, .row r.cells 23 (0, 0)⟩]) Tryd.call39 rfl rfl (fun w1 hw1 => ?_) ?_
  · have hl := ePath_len r.p
    refine (f39_any w1 (ePath r.p) (by omega)).mono fun e w' ⟨v1, v2, H1, H2, h1, h2, h3, h4⟩ => ⟨_, _, h1, ?_, v1, v2, H1, rfl, h2, rfl⟩
    have := hw1.after0 h4 (fun e he => by
      rcases List.mem_append.1 he with he | he
      · exact h2.w e he
      · exact h3.w e he)
    exact this.sub (List.Sublist.append (List.sublist_append_left _ _) (List.Sublist.refl _))
  rintro v H2 ⟨v1, v2, H1, rfl, hown, rfl⟩
  obtain ⟨adp, cpp, rfl⟩ := hown.slice
  refine G.v (V.mv rfl) rfl ?_
  refine G.v (V.ex rfl rfl) rfl ?_
  refine G.v (V.ex rfl rfl) rfl ?_
  refine G.v (V.asg rfl) rfl ?_
  refine G.v (V.asg rfl) rfl ?_
  refine G.nil ?_
  refine GC.seq ?_
  refine GC.reg ?_  -- region 2, echo.go:172
  refine G.v (V.fa F23_0 rfl) rfl ?_
  refine G.v (V.ld (b := b1) (off := 0 + 0) (wf := true) (l := r.cells) (T := 23) (fz := (0, 0)) (v := S r.m) Tryd.isAgg9 rfl (by simp) rfl) rfl ?_
  refine G.v (V.cat rfl rfl (by simp only [List.length_cons, List.length_nil]; omega)) rfl ?_
  refine G.v (V.asg rfl) rfl ?_
  refine G.nil ?_
  refine GC.seq ?_
  refine GC.seq ?_
  refine GC.reg ?_  -- region 3, echo.go:173
  refine G.v (V.mv rfl) rfl ?_
  have hfl : (parts (ePath r.p)).flatten.length ≤ 100000 := by
    rw [parts_flat]
    have h1 := prs_len (ePath r.p) none
    have h2 := ePath_len r.p
    simp only [tb, List.length_map]; omega
  have hpc : (parts (ePath r.p)).length ≤ 1000000 := by
    have key : ∀ (u : List Tok) (acc : List UInt8), (grp acc u).length ≤ 2 * u.length + 1 := by
      intro u
      induction u with
      | nil => intro acc; simp only [grp, txt]; split <;> simp
      | cons t u ih =>
        intro acc
        have htx : (txt acc).length ≤ 1 := by unfold txt; split <;> simp
        cases t with
        | b c => have := ih (acc ++ [c]); simp only [grp, List.length_cons]; omega
        | P => have := ih []; simp only [grp, List.length_append, List.length_cons]; omega
        | A => have := ih []; simp only [grp, List.length_append, List.length_cons]; omega
    have h1 := key (prs (ePath r.p) none).1 []
    have h2 := prs_len (ePath r.p) none
    have h3 := ePath_len r.p
    show (grp [] (prs (ePath r.p) none).1).length ≤ _
    omega
  refine G.v (V.lenL Tryd.underlying24 rfl) rfl ?_
  refine G.v (V.mv rfl) rfl ?_
  refine G.nil ?_
  refine GC.block ?_
  refine GC.loopJ (fun N fr' H' => ∃ j, j + N = (parts (ePath r.p)).length ∧ Sub [(18, .slice adp (parts (ePath r.p)).length cpp), (19, I ((parts (ePath r.p)).length : Nat)), (20, I ((j : Nat) : Int)), (5, S (r.m ++ [32] ++ ((parts (ePath r.p)).take j).flatten))] fr' ∧ H' = H1 ++ [⟨b1, true, .row r.cells 23 (0, 0)⟩]) (parts (ePath r.p)).length
    ⟨0, by omega, .cons rfl (.cons rfl (.cons rfl (.cons (by rw [List.take_zero, List.flatten_nil, List.append_nil]; rfl) .nil))), rfl⟩ ?_
  rintro N fr' H' ⟨j, hj, hs, rfl⟩ ih
  refine GC.weak hs ?_
  clear hs
  refine GC.seq ?_
  refine GC.reg ?_  -- region 4, echo.go:173
  refine G.v (V.lt rfl rfl) rfl ?_
  refine G.nil ?_
  refine GC.seq ?_
  refine GC.condD rfl (fun h21 => ?_) (fun h21 => ?_)
  · refine GC.skip ?_
    refine GC.seq ?_
    refine GC.block ?_
    refine GC.seq ?_
    have hlt : j < (parts (ePath r.p)).length := by omega
    obtain ⟨x, hx⟩ : ∃ x, (parts (ePath r.p))[j]? = some x := ⟨_, List.getElem?_eq_getElem hlt⟩
    obtain ⟨bp, cpp2, sp, hve, rfl⟩ := hown.at (i := j) hlt
    simp only [Value.slice.injEq, true_and] at hve
    obtain ⟨rfl, rfl⟩ := hve
    have hfj := flat_take_le (parts (ePath r.p)) (j + 1)
    rw [List.take_add_one, hx, List.flatten_append] at hfj
    simp only [Option.toList, List.flatten_cons, List.flatten_nil, List.append_nil, List.length_append] at hfj
    refine GC.reg ?_  -- region 5, echo.go:173
    refine G.v (V.ia (i := j) Tryd.underlying24 Tryd.sizeOf9 rfl rfl hlt) rfl ?_
    refine G.v (V.ld (b := bp) (off := 0 + j * 1) (wf := true) (l := (parts (ePath r.p)).map S ++ sp) (T := 9) (fz := (0, 0)) (v := S x) Tryd.isAgg9 rfl (by simp) (by rw [nth_eq, Nat.zero_add, Nat.mul_one, List.getElem?_append_left (by simp; omega), List.getElem?_map, hx]; rfl)) rfl ?_
    refine G.v (V.asg rfl) rfl ?_
    refine G.nil ?_
    refine GC.reg ?_  -- region 6, echo.go:174
    refine G.v (V.mv rfl) rfl ?_
    refine G.v (V.mv rfl) rfl ?_
    refine G.v (V.cat rfl rfl (by simp only [List.length_append, List.length_cons, List.length_nil]; omega)) rfl ?_
    refine G.v (V.asg rfl) rfl ?_
    refine G.nil ?_
    refine GC.inBlock ?_
    refine GC.reg ?_  -- region 7, echo.go:173
    refine G.v (V.addI rfl rfl rfl (by omega) (by omega)) rfl ?_
    refine G.v (V.mv rfl) rfl ?_
    refine G.nil ?_
    refine ih (N - 1) _ _ (by omega) ⟨j + 1, by omega, .cons rfl (.cons rfl (.cons rfl (.cons ?_ .nil))), rfl⟩
    rw [List.take_add_one, hx, List.flatten_append]
    simp only [Option.toList, List.flatten_cons, List.flatten_nil, List.append_nil, ← List.append_assoc]
    rfl
  refine GC.exit rfl ?_
  refine GC.seq ?_
  refine GC.reg ?_  -- region 8, echo.go:176
  refine G.v (V.mv rfl) rfl ?_
  refine G.v (V.asg rfl) rfl ?_
  refine G.nil ?_
  have e : r.m ++ [32] ++ ((parts (ePath r.p)).take j).flatten = ekey r := by rw [List.take_of_length_le (by omega)]; rfl
  exact GC.ret1 rfl rfl fun w' hw' => ⟨by rw [e], hw'.sub (List.nil_sublist _)⟩

theorem kvGet_keys : ∀ (ks : List (List UInt8)) (x : List UInt8), (kvGet (ks.map fun k => (k, Value.bool true)) x).getD (.bool false) = .bool (decide (x ∈ ks))
  | [], x => by simp [kvGet]
  | k :: ks, x => by
    have ih := kvGet_keys ks x
    simp only [List.map_cons, kvGet]
    by_cases h : k = x
    · simp [h]
    · rw [if_neg h, ih]
      have : x ≠ k := fun e => h e.symm
      simp [this]
theorem kvPut_keys {ks : List (List UInt8)} {x : List UInt8} (h : x ∉ ks) : kvPut (ks.map fun k => (k, Value.bool true)) x (.bool true) = (ks ++ [x]).map fun k => (k, Value.bool true) := by
  rw [kvPut_none _ _ _ 0]
  · simp
  · have h1 := kvIdx_get (ks.map fun k => (k, Value.bool true)) x 0
    have h2 := kvGet_keys ks x
    rw [decide_eq_false h] at h2
    have h3 : ∀ (ks : List (List UInt8)) (v : Value), kvGet (ks.map fun k => (k, Value.bool true)) x = some v → v = .bool true := by
      intro ks
      induction ks with
      | nil => intro v hv; cases hv
      | cons a l ih =>
        intro v hv
        simp only [List.map_cons, kvGet] at hv
        split at hv
        · exact (Option.some.inj hv).symm
        · exact ih v hv
    cases hg : kvGet (ks.map fun k => (k, Value.bool true)) x with
    | none => rw [hg] at h1; exact Option.map_eq_none_iff.1 h1
    | some v =>
      have := h3 ks v hg
      subst this
      rw [hg] at h2
      simp at h2

theorem f25_any (w : World) (ad : Option Addr) (cp : Nat) (Rs : List RB) (hat : RtsAt w ad Rs) (hl : Rs.length ≤ 1000000) (hb : ∀ r ∈ Rs, r.m.length ≤ 100000 ∧ r.p.length ≤ 90000) : Calls Tryd.prog 25 #[.slice ad Rs.length cp] w fun e w' => ∃ b : Bool, (b = true ↔ (Rs.map ekey).Nodup) ∧ e = .returned (.bool b) ∧ HF w (fun _ => False) [] w' := by
  refine enter (fun _ => False) [] Tryd.func25 rfl Tryd.ntmps25 rfl rfl (HF.start w _) fun c hc => ?_
  subst hc
  refine GC.seq ?_
  refine GC.reg ?_  -- region 0, echo.go:180
  refine G.v (V.asg rfl) rfl ?_
  refine G.nil ?_
  refine GC.seq ?_
  refine GC.reg ?_  -- region 1, echo.go:181
  refine G.mm rfl (fun mb hmb => ?_)
  refine G.v (V.asg rfl) rfl ?_
  refine G.nil ?_
  refine GC.seq ?_
  refine GC.seq ?_
  refine GC.reg ?_  -- region 2, echo.go:182
  refine G.v (V.mv rfl) rfl ?_
  refine G.v (V.lenL Tryd.underlying28 rfl) rfl ?_
  refine G.v (V.mv rfl) rfl ?_
  refine G.nil ?_
  refine GC.block ?_
  refine GC.loopJ (fun N fr' H' => ∃ j, j + N = Rs.length ∧ ((Rs.take j).map ekey).Nodup ∧ Sub [(3, .map (some mb)), (8, .slice ad Rs.length cp), (9, I (Rs.length : Nat)), (10, I ((j : Nat) : Int))] fr' ∧ H' = [⟨mb, true, .obj (mkM (((Rs.take j).map ekey).map fun k => (k, Value.bool true)))⟩]) Rs.length
    ⟨0, by omega, by simp, .cons rfl (.cons rfl (.cons rfl (.cons rfl .nil))), rfl⟩ ?_
  rintro N fr' H' ⟨j, hj, hnd, hs, rfl⟩ ih
  refine GC.weak hs ?_
  clear hs
  refine GC.seq ?_
  refine GC.reg ?_  -- region 3, echo.go:182
  refine G.v (V.lt rfl rfl) rfl ?_
  refine G.nil ?_
  refine GC.seq ?_
  refine GC.condD rfl (fun h11 => ?_) (fun h11 => ?_)
  · refine GC.skip ?_
    refine GC.seq ?_
    refine GC.block ?_
    refine GC.seq ?_
    have hlt : j < Rs.length := by omega
    obtain ⟨r, hr⟩ : ∃ r, Rs[j]? = some r := ⟨_, List.getElem?_eq_getElem hlt⟩
    obtain ⟨ab, o, rfl, hcell⟩ := hat j r hr
    obtain ⟨hbm, hbp⟩ := hb r (List.mem_of_getElem? hr)
    have htk : (Rs.take (j + 1)).map ekey = ((Rs.take j).map ekey) ++ [ekey r] := by rw [List.take_add_one, hr, List.map_append]; rfl
    refine GC.reg ?_  -- region 4, echo.go:182
    refine G.v (V.ia (i := j) Tryd.underlying28 Tryd.sizeOf23 rfl rfl hlt) rfl ?_
    refine G.v (V.ldAC (cs := r.cells) Tryd.isAgg23 Tryd.sizeOf23 rfl hcell rfl id) rfl ?_
    refine G.al Tryd.zeroValue23 rfl rfl (fun xb hxb => ?_)
    refine G.stA (cs := r.cells) Tryd.sizeOf23 rfl rfl (fun v hv => ?_) .z rfl ?_
    · simp only [RB.cells, List.mem_cons, List.not_mem_nil, or_false] at hv
      rcases hv with rfl | rfl | rfl <;> rfl
    refine G.nil ?_
    refine GC.seq ?_
    refine GC.reg ?_  -- region 5, echo.go:183
    refine G.v (V.ldA (cs := r.cells) Tryd.isAgg23 Tryd.sizeOf23 rfl (.head _) rfl rfl) rfl ?_
    refine G.callP Tryd.call44 rfl rfl (fun w1 hw1 => f44_any w1 r hbm hbp) ?_
    refine G.v (V.asg rfl) rfl ?_
    refine G.nil ?_
    refine GC.seq ?_
    refine GC.reg ?_  -- region 6, echo.go:183
    refine G.v (V.mv rfl) rfl ?_
    refine G.v (V.mv rfl) rfl ?_
    have hlk := kvGet_keys ((Rs.take j).map ekey) (ekey r)
    refine G.v (v := .bool (decide (ekey r ∈ ((Rs.take j).map ekey)))) (hlk ▸ V.lk Tryd.underlying72 Tryd.underlying9 Tryd.zeroValue4 rfl rfl (.tail _ (.head _))) rfl ?_
    refine G.nil ?_
    refine GC.condD rfl (fun h18 => ?_) (fun h18 => ?_)
    · refine GC.seq ?_
      refine GC.reg ?_  -- region 7, echo.go:184
      refine G.v (V.asg rfl) rfl ?_
      refine G.nil ?_
      refine GC.ret1 rfl rfl fun w' hw' => ⟨false, ⟨fun h => (by cases h), fun h => ?_⟩, rfl, hw'.sub (List.nil_sublist _)⟩
      exfalso
      have h1 : ((Rs.take (j + 1)).map ekey).Nodup := (List.Sublist.map ekey (List.take_sublist _ _)).nodup h
      rw [htk] at h1
      exact (List.nodup_append.1 h1).2.2 _ h18 _ (.head _) rfl
    refine GC.reg ?_  -- region 8, echo.go:186
    refine G.v (V.mv rfl) rfl ?_
    refine G.v (V.mv rfl) rfl ?_
    refine G.mu Tryd.underlying72 Tryd.underlying9 rfl rfl rfl (.s .z) ?_
    refine G.nil ?_
    refine GC.inBlock ?_
    refine GC.reg ?_  -- region 9, echo.go:182
    refine G.v (V.addI rfl rfl rfl (by omega) (by omega)) rfl ?_
    refine G.v (V.mv rfl) rfl ?_
    refine G.nil ?_
    have hnd2 : ((Rs.take (j + 1)).map ekey).Nodup := by
      rw [htk]
      refine List.nodup_append.2 ⟨hnd, by simp, fun a ha b hb e => ?_⟩
      rw [List.mem_singleton.1 hb] at e
      exact h18 (e ▸ ha)
    have hpk := kvPut_keys h18
    rw [← htk] at hpk
    refine GC.turn (fun w1 hw1 => ?_) (ih (N - 1) _ _ (by omega) ⟨j + 1, by omega, hnd2, .cons rfl (.cons rfl (.cons rfl (.cons rfl .nil))), rfl⟩)
    have := hw1.sub (List.sublist_cons_self _ _)
    simp only [putE] at this
    rw [hpk] at this
    exact this
  refine GC.exit rfl ?_
  refine GC.seq ?_
  refine GC.reg ?_  -- region 10, echo.go:189
  refine G.v (V.asg rfl) rfl ?_
  refine G.nil ?_
  refine GC.ret1 rfl rfl fun w' hw' => ⟨true, ⟨fun _ => ?_, fun _ => rfl⟩, rfl, hw'.sub (List.nil_sublist _)⟩
  rw [List.take_of_length_le (by omega)] at hnd; exact hnd
end Go.Proofs

/- A route without parameters is found by its path. No program in sight. -/
namespace Bw
open Go Go.Proofs

theorem tb_inj : ∀ {u v : List Tok}, (∀ t ∈ u, t.ok) → (∀ t ∈ v, t.ok) → tb u = tb v → u = v
  | [], [], _, _, _ => rfl
  | [], _ :: _, _, _, h => by simp [tb] at h
  | _ :: _, [], _, _, h => by simp [tb] at h
  | a :: u, b :: v, hu, hv, h => by
    simp only [tb, List.map_cons, List.cons.injEq] at h
    rw [Tok.byte_inj (hu a (.head _)) (hv b (.head _)) h.1, tb_inj (fun t ht => hu t (.tail _ ht)) (fun t ht => hv t (.tail _ ht)) h.2]

/-- routes that don't take each other's place -/
theorem apart_of {Rs : List RB} (hR : Right Rs) (hn : (Rs.map ekey).Nodup) {i j : Nat} {a b : RB} (hi : Rs[i]? = some a) (hj : Rs[j]? = some b) (ht : (prs a.p none).1 = (prs b.p none).1) (hm : a.m = b.m) : i = j := by
  have h1 := hR.2 a (List.mem_of_getElem? hi)
  have h2 := hR.2 b (List.mem_of_getElem? hj)
  have hk : ekey a = ekey b := by
    unfold ekey
    rw [ePath_of h1.hd, ePath_of h2.hd, parts_flat, parts_flat, ht, hm]
  have g1 : (Rs.map ekey)[i]? = some (ekey a) := by rw [List.getElem?_map, hi]; rfl
  have g2 : (Rs.map ekey)[j]? = some (ekey b) := by rw [List.getElem?_map, hj]; rfl
  obtain ⟨l1, e1⟩ := List.getElem?_eq_some_iff.1 g1
  obtain ⟨l2, e2⟩ := List.getElem?_eq_some_iff.1 g2
  exact (List.getElem_inj hn).1 (by rw [e1, e2, hk])

theorem mem_KS {Rs : List RB} {k : RB × Nat} : k ∈ Rs.zipIdx.reverse ↔ Rs[k.2]? = some k.1 := by
  rw [List.mem_reverse, List.mem_zipIdx_iff_getElem?]

/-- what is looked up, is it -/
theorem look_KS {Rs : List RB} (hR : Right Rs) (hn : (Rs.map ekey).Nodup) {i : Nat} {a : RB} (hi : Rs[i]? = some a) : (KS Rs).look a.m (prs a.p none).1 = some (a, i) := by
  show lookO tkk mk' Rs.zipIdx.reverse a.m (prs a.p none).1 = some (a, i)
  cases h : lookO tkk mk' Rs.zipIdx.reverse a.m (prs a.p none).1 with
  | none => exact absurd ⟨rfl, rfl⟩ (lookO_none.1 h (a, i) (mem_KS.2 hi))
  | some k =>
    obtain ⟨h1, h2, h3⟩ := lookO_some h
    obtain ⟨b, j⟩ := k
    have := apart_of hR hn (mem_KS.1 h1) hi h2 h3
    subst this
    have hb : Rs[j]? = some b := mem_KS.1 h1
    rw [hi] at hb
    cases hb
    rfl

/-- text tokens alone: the search goes straight down -/
theorem visK_text {α : Type} {K : Kn α} {meth : List UInt8} {a : α} (hnf : meth ≠ nfName) : ∀ (l : List UInt8) (p : List Tok) (vs : List (List UInt8)) (b : Option (List Tok)) (f : Nat),
    (∀ q, q <+: p ++ bs l → K.has q) → K.hasH (p ++ bs l) → K.look meth (p ++ bs l) = some a → l.length < f → visK K meth f p l vs b = .stop (.hit a vs)
  | l, p, vs, b, 0, _, _, _, hf => by omega
  | [], p, vs, b, f + 1, _, hH, hl, _ => by
    have e : p ++ bs [] = p := by simp [bs]
    rw [e] at hH hl
    have hown : K.own meth p [] vs = some (.hit a vs) := by
      unfold Kn.own
      rw [if_pos rfl, if_pos hH]
      simp [Kn.look1, hnf, hl]
    rw [visK_parts, hown]
  | c :: l, p, vs, b, f + 1, hh, hH, hl, hf => by
    have e : p ++ bs (c :: l) = p ++ [Tok.b c] ++ bs l := by simp [bs]
    rw [e] at hH hl
    have hown : K.own meth p (c :: l) vs = none := by unfold Kn.own; rw [if_neg (by simp)]
    have ih := visK_text (K := K) hnf l (p ++ [Tok.b c]) vs (K.bst p (c :: l) b) f (fun q hq => hh q (by rw [e]; exact hq)) hH hl (by simpa using hf)
    have htx : K.text (fun p' s' => visK K meth f p' s' vs (K.bst p (c :: l) b)) p (c :: l) (K.bst p (c :: l) b) = .stop (.hit a vs) := by
      simp only [Kn.text]
      rw [if_pos (hh _ (by rw [e]; exact List.prefix_append _ _))]
      exact ih
    rw [visK_parts, hown]
    simp only
    rw [htx]; rfl

/-- a route without parameters has text tokens alone -/
theorem bs_of {p : List UInt8} (h : (prs p none).2 = []) : (prs p none).1 = bs p := by
  have key : ∀ (p : List UInt8), (prs p none).2 = [] → (prs p none).1 = bs p := by
    intro p
    induction p with
    | nil => intro _; rfl
    | cons c r ih =>
      intro h
      by_cases h58 : c = 58
      · subst h58
        rw [prs_P'] at h
        have h1 := prs_cnt r (some [])
        simp only at h
        rw [h] at h1
        simp at h1
      · by_cases h42 : c = 42
        · subst h42
          rw [prs_A'] at h; cases h
        · rw [prs_b' r h58 h42] at h ⊢
          simp only at h ⊢
          rw [ih h]; rfl
  exact key p h

theorem textFound {Rs : List RB} (hR : Right Rs) (hn : (Rs.map ekey).Nodup) {i : Nat} {a : RB} (hi : Rs[i]? = some a) (hm : a.m ≠ nfName) (ht : (prs a.p none).2 = []) : visK (KS Rs) a.m 202 [] a.p [] none = .stop (.hit (a, i) []) := by
  have hb := bs_of ht
  have hA := hR.2 a (List.mem_of_getElem? hi)
  have hlk := look_KS hR hn hi
  rw [hb] at hlk
  refine visK_text hm a.p [] [] none 202 (fun q hq => ?_) ?_ ?_ (by have := hA.pl; omega)
  · refine ⟨(a, i), mem_KS.2 hi, ?_⟩
    show q <+: (prs a.p none).1
    rw [hb]; simpa using hq
  · refine ⟨(a, i), mem_KS.2 hi, ?_, hm⟩
    show (prs a.p none).1 = _
    rw [hb]; simp
  · simpa using hlk
end Bw

/- append of nothing. -/
namespace Bw
open Go Go.Proofs
theorem G.appZ {P : Program} {c : Cx} {n : Nat} {k : List Item} {fr : SF} {H : SH} {ops : Array Oper} {rest : List Oper} {ty T e : TypeId} {i : TypeInfo} {pos : String} {aft : Array Edge} {x y : Operand} {b l cp mc d : Nat} {ad : Option Addr}
    (hT : P.underlying T = some (.slice e)) (hi : P.info? e = some i) (hx : ev fr x = some (.slice (some ⟨b, 0, none⟩) l cp)) (hy : ev fr y = some (.slice ad 0 mc)) (hle : l ≤ cp) (hd : Nat.blt d n = true)
    (hk : G P c n k ops rest ((d, .slice (some ⟨b, 0, none⟩) l cp) :: fr) H) :
    G P c n k ops (⟨some d, .call ⟨.builtin .append, #[x, y], #[T, T]⟩, ty, pos, aft, none⟩ :: rest) fr H := by
  refine G.eff (fun a w ha hw => ⟨w, ?_, hw⟩) hd hk
  have hr : (Builtin.append_ #[T, T] ty #[.slice (some ⟨b, 0, none⟩) l cp, .slice ad 0 mc]).run P w = .ok (.slice (some ⟨b, 0, none⟩) l cp) w := by
    cases ad with
    | none => simp [Builtin.append_, run_underlying hT, Go.sizeOf, typeInfo, hi, Builtin.lenOf, Builtin.firstCells, hle, storeCells]
    | some a => simp [Builtin.append_, run_underlying hT, Go.sizeOf, typeInfo, hi, Builtin.lenOf, Builtin.firstCells, hle, storeCells, loadCells, loadCellsFrom]
  simp [execOp, resolve, invoke, builtin, ha.eval hx, ha.eval hy, hr]
end Bw
