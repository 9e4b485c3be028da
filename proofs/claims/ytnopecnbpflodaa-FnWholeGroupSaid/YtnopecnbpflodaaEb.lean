/- Pieces of the function that adds a route, joined; what a tree stands for. -/
import Derived.Test.YtnopecnbpflodaaEa
import Derived.Test.YtnopecnbpflodaaKa
/- addRoute: behind the split: the path ends here; the ways down. Printed by wip/mk_gu10.py. -/
set_option maxRecDepth 20000
namespace Go.Proofs
open Go Bw
open Gt
def thn : Code → Code
 | .cond _ a _ => a
 | c => c
def mid5 : List Item → List Item
 | .code (.seq (.seq _ cnd) tail) :: k => .code (sR (sR (sR (sR (thn cnd))))) :: .code tail :: k
 | k => k
/-- behind the search for an index -/
noncomputable def K72s : List Item := mid5 K72m
theorem idxOf_some {c : UInt8} : ∀ {l : List UInt8} {j : Nat}, idxOf c l = some j → l[j]? = some c ∧ ∀ q : Nat, q < j → l[q]? ≠ some c
 | [], j, h => by cases h
 | d :: l, j, h => by
  unfold idxOf at h
  by_cases e : c = d
  ·rw [if_pos e] at h; cases h; exact ⟨by simp [e], fun q hq => by omega⟩
  ·rw [if_neg e] at h
   obtain ⟨j', h1, rfl⟩ := Option.map_eq_some_iff.1 h
   obtain ⟨h2, h3⟩ := idxOf_some h1
   refine ⟨by simpa using h2, fun q hq => ?_⟩
   cases q with
   | zero => simp; exact fun e2 => e e2.symm
   | succ q => simpa using h3 q (by omega)
theorem idxOf_none {c : UInt8} : ∀ {l : List UInt8}, idxOf c l = none → ∀ q : Nat, l[q]? ≠ some c
 | [], h, q => by simp
 | d :: l, h, q => by
  unfold idxOf at h
  by_cases e : c = d
  ·rw [if_pos e] at h; cases h
  ·rw [if_neg e] at h
   cases q with
   | zero => simp; exact fun e2 => e e2.symm
   | succ q => simpa using idxOf_none (Option.map_eq_none_iff.1 h) q
theorem f72_set {R : Ending → World → Prop} {w : World} {D : Nat → Prop} {nb hb num pfi i : Nat} {p full tp idx : List UInt8} {wl : Bool} {nt pr : Nat} {h0 : Option Nat} {f0 : List UInt8} {kids : List T0} {bs : List Nat} {kv hv : Value} {Hs Hh Hk Hr : SH} {fr : SF}
  (hs : Own 89 1 kv kids.length (bs.map (Pt · 0)) Hs) (hh : HV h0 hv Hh) (hk : HTs kids bs Hk) (_hpl : p.length ≤ 100000) (_hfl : full.length ≤ 100000) (_hpf : pfi + p.length ≤ full.length) (_hip : i ≤ p.length) (hti : tp.length = i) (hsub : Sub [(0, Pt nb 0), (1, S p), (2, .slice (some ⟨hb, 0, none⟩) 1 1), (6, S full), (7, I (pfi : Int)), (8, I (i : Nat))] fr) (hie : i = p.length) (hn : h0 = none)
  (fin : ∀ Hn' w', HT (.node () tp idx wl nt pr (some num) full kids) nb Hn' → HF w D (Hn' ++ Hr) w' → R (.returned (.tuple #[])) w') :
  GC Try.prog ⟨72, Try.f72, R, w, D⟩ 377 K72m fr (⟨nb, true, .row (nodeR tp idx wl nt pr kv hv f0) 107 (0, 0)⟩ :: ((Hs ++ (Hh ++ Hk)) ++ (⟨hb, true, .row [I (num : Int)] 3 (0, 0)⟩ :: Hr))) := by
 refine GC.weak hsub ?_
 clear hsub
 obtain ⟨X, hX⟩ : ∃ X, X = (Hh ++ Hk) ++ (⟨hb, true, .row [I (num : Int)] 3 (0, 0)⟩ :: Hr) := ⟨_, rfl⟩
 refine GC.turn (H' := ⟨nb, true, .row (nodeR tp idx wl nt pr kv hv f0) 107 (0, 0)⟩ :: (Hs ++ X)) (fun w1 h1 => by rw [hX, ← List.append_assoc]; exact h1) ?_
 have hkl2 := hk.len
 obtain ⟨ad, cap, rfl⟩ := hs.slice
 obtain ⟨ad2, l2, c2, rfl, hnn⟩ := hh.slice
 rw [hn] at hnn
 have had : ad2 = none := by cases ad2 with | none => rfl | some _ => cases hnn
 subst had
 refine GC.seq ?_
 refine GC.seq ?_
 refine GC.reg ?_
 refine G.m1 ?_
 refine G.m1 ?_
 refine G.v (V.lenS Try.underlying9 rfl) rfl ?_
 refine G.v (V.lt rfl rfl) rfl ?_
 refine G.nil ?_
 refine GC.condD rfl (fun h129 => absurd h129 (by omega)) (fun h129 => ?_)
 refine GC.skip ?_
 refine GC.seq ?_
 refine GC.seq ?_
 refine GC.reg ?_
 refine G.m1 ?_
 refine G.v (V.nc rfl) rfl ?_
 refine G.v (V.fa F107_6 rfl) rfl ?_
 refine G.v (V.ld (b := nb) (off := 0 + 6) (wf := true) (l := nodeR tp idx wl nt pr (.slice ad kids.length cap) (.slice none l2 c2) f0) (T := 107) (fz := (0, 0)) (v := .slice none l2 c2) Try.isAgg94 rfl (.head _) rfl) rfl ?_
 refine G.v (V.neL Try.underlying94 rfl) rfl ?_
 refine G.nil ?_
 refine GC.cond rfl (fun h364 => absurd h364 (by decide)) (fun h364 => ?_)
 refine GC.skip ?_
 refine GC.seq ?_
 refine GC.reg ?_
 refine G.m1 ?_
 refine G.m1 ?_
 refine G.v (V.nc rfl) rfl ?_
 refine G.v (V.fa F107_6 rfl) rfl ?_
 refine G.st (b := nb) (off := 0 + 6) (l := nodeR tp idx wl nt pr (.slice ad kids.length cap) (.slice none l2 c2) f0) (T := 107) (fz := (0, 0)) (v := .slice (some ⟨hb, 0, none⟩) 1 1) Try.sizeOf94 rfl rfl rfl (.z) rfl rfl ?_
 refine G.nil ?_
 refine GC.seq ?_
 refine GC.turn (H' := ⟨nb, true, .row (nodeR tp idx wl nt pr (.slice ad kids.length cap) (.slice (some ⟨hb, 0, none⟩) 1 1) f0) 107 (0, 0)⟩ :: (Hs ++ X)) (fun w1 h1 => h1) ?_
 refine GC.reg ?_
 refine G.m1 ?_
 refine G.m1 ?_
 refine G.v (V.nc rfl) rfl ?_
 refine G.v (V.fa F107_7 rfl) rfl ?_
 refine G.st (b := nb) (off := 0 + 7) (l := nodeR tp idx wl nt pr (.slice ad kids.length cap) (.slice (some ⟨hb, 0, none⟩) 1 1) f0) (T := 107) (fz := (0, 0)) (v := S full) Try.sizeOf9 rfl rfl rfl (.z) rfl rfl ?_
 refine G.nil ?_
 refine GC.turn (H' := ⟨nb, true, .row (nodeR tp idx wl nt pr (.slice ad kids.length cap) (.slice (some ⟨hb, 0, none⟩) 1 1) full) 107 (0, 0)⟩ :: (Hs ++ X)) (fun w1 h1 => h1) ?_
 refine GC.ret0 rfl fun w' hw' => fin _ w' (HT.mk hs (HV.row (k := num) (hb := hb)) hk) ?_
 rw [hX] at hw'
 have p1 := perm_idx [[⟨nb, true, .row (nodeR tp idx wl nt pr (.slice ad kids.length cap) (.slice (some ⟨hb, 0, none⟩) 1 1) full) 107 (0, 0)⟩], Hs, Hh, Hk, [⟨hb, true, .row [I (num : Int)] 3 (0, 0)⟩], Hr] [0, 1, 2, 3, 4, 5] [2, 0, 1, 4, 3, 5] (by decide)
 have h2 := hw'.perm (H' := Hh ++ ((⟨nb, true, .row (nodeR tp idx wl nt pr (.slice ad kids.length cap) (.slice (some ⟨hb, 0, none⟩) 1 1) full) 107 (0, 0)⟩ :: (Hs ++ ([⟨hb, true, .row [I (num : Int)] 3 (0, 0)⟩] ++ Hk))) ++ Hr)) (by simpa using p1)
 exact h2.sub (List.sublist_append_right _ _)
theorem f72_dup {R : Ending → World → Prop} {w : World} {D : Nat → Prop} {nb hb num pfi i : Nat} {p full tp idx : List UInt8} {wl : Bool} {nt pr : Nat} {h0 : Option Nat} {f0 : List UInt8} {kids : List T0} {bs : List Nat} {kv hv : Value} {Hs Hh Hk Hr : SH} {fr : SF}
  (hs : Own 89 1 kv kids.length (bs.map (Pt · 0)) Hs) (hh : HV h0 hv Hh) (hk : HTs kids bs Hk) (_hpl : p.length ≤ 100000) (hfl : full.length ≤ 100000) (_hpf : pfi + p.length ≤ full.length) (_hip : i ≤ p.length) (hti : tp.length = i) (hsub : Sub [(0, Pt nb 0), (1, S p), (2, .slice (some ⟨hb, 0, none⟩) 1 1), (6, S full), (7, I (pfi : Int)), (8, I (i : Nat))] fr) (hie : i = p.length) (hn : h0.isSome = true)
  (pan : ∀ e w', onePanic e → HF w D [] w' → R e w') :
  GC Try.prog ⟨72, Try.f72, R, w, D⟩ 377 K72m fr (⟨nb, true, .row (nodeR tp idx wl nt pr kv hv f0) 107 (0, 0)⟩ :: ((Hs ++ (Hh ++ Hk)) ++ (⟨hb, true, .row [I (num : Int)] 3 (0, 0)⟩ :: Hr))) := by
 refine GC.weak hsub ?_
 clear hsub
 obtain ⟨X, hX⟩ : ∃ X, X = (Hh ++ Hk) ++ (⟨hb, true, .row [I (num : Int)] 3 (0, 0)⟩ :: Hr) := ⟨_, rfl⟩
 refine GC.turn (H' := ⟨nb, true, .row (nodeR tp idx wl nt pr kv hv f0) 107 (0, 0)⟩ :: (Hs ++ X)) (fun w1 h1 => by rw [hX, ← List.append_assoc]; exact h1) ?_
 have hkl2 := hk.len
 obtain ⟨ad, cap, rfl⟩ := hs.slice
 obtain ⟨ad2, l2, c2, rfl, hnn⟩ := hh.slice
 obtain ⟨ad3, rfl⟩ : ∃ a, ad2 = some a := by cases ad2 with | none => rw [← Option.not_isNone, ← hnn] at hn; cases hn | some a => exact ⟨a, rfl⟩
 refine GC.seq ?_
 refine GC.seq ?_
 refine GC.reg ?_
 refine G.m1 ?_
 refine G.m1 ?_
 refine G.v (V.lenS Try.underlying9 rfl) rfl ?_
 refine G.v (V.lt rfl rfl) rfl ?_
 refine G.nil ?_
 refine GC.condD rfl (fun h129 => absurd h129 (by omega)) (fun h129 => ?_)
 refine GC.skip ?_
 refine GC.seq ?_
 refine GC.seq ?_
 refine GC.reg ?_
 refine G.m1 ?_
 refine G.v (V.nc rfl) rfl ?_
 refine G.v (V.fa F107_6 rfl) rfl ?_
 refine G.v (V.ld (b := nb) (off := 0 + 6) (wf := true) (l := nodeR tp idx wl nt pr (.slice ad kids.length cap) (.slice (some ad3) l2 c2) f0) (T := 107) (fz := (0, 0)) (v := .slice (some ad3) l2 c2) Try.isAgg94 rfl (.head _) rfl) rfl ?_
 refine G.v (V.neL Try.underlying94 rfl) rfl ?_
 refine G.nil ?_
 refine GC.cond rfl (fun h364 => ?_) (fun h364 => absurd h364 (by simp))
 refine GC.reg ?_
 refine G.m1 ?_
 refine G.v (V.cat rfl rfl (by simp; omega)) rfl ?_
 refine G.v (V.cat rfl rfl (by simp; omega)) rfl ?_
 refine G.v (V.miS Try.underlying9 rfl) rfl ?_
 refine G.panic rfl fun w' hw' => pan _ _ ⟨_, _, rfl⟩ (hw'.sub (List.nil_sublist _))
theorem f72_par {R : Ending → World → Prop} {w : World} {D : Nat → Prop} {nb hb num pfi i : Nat} {p full tp idx : List UInt8} {wl : Bool} {nt pr : Nat} {h0 : Option Nat} {f0 : List UInt8} {kids : List T0} {bs : List Nat} {kv hv : Value} {Hs Hh Hk Hr : SH} {fr : SF}
  (hs : Own 89 1 kv kids.length (bs.map (Pt · 0)) Hs) (hh : HV h0 hv Hh) (hk : HTs kids bs Hk) (_hpl : p.length ≤ 100000) (hfl : full.length ≤ 100000) (hpf : pfi + p.length ≤ full.length) (hip : i ≤ p.length) (hti : tp.length = i) (hsub : Sub [(0, Pt nb 0), (1, S p), (2, .slice (some ⟨hb, 0, none⟩) 1 1), (6, S full), (7, I (pfi : Int)), (8, I (i : Nat))] fr) {c : UInt8} {k0 : T0} (hlt : i < p.length) (hc : p[i]? = some c) (hc47 : c = 47) (hnt : nt = 2) (hkk : kids = [k0])
  (go : ∀ cb Hk1 Hr' fr', HT k0.incr cb Hk1 → (∀ k' Hk1', HT k' cb Hk1' → ∃ Hn', HT (.node () tp idx wl nt pr h0 f0 [k']) nb Hn' ∧ (Hk1' ++ Hr').Perm (Hn' ++ Hr)) → Sub [(0, Pt cb 0), (1, S (p.drop i)), (2, .slice (some ⟨hb, 0, none⟩) 1 1), (6, S full), (7, I ((pfi + tp.length : Nat) : Int))] fr' → GC Try.prog ⟨72, Try.f72, R, w, D⟩ 377 K72 fr' (Hk1 ++ (⟨hb, true, .row [I (num : Int)] 3 (0, 0)⟩ :: Hr'))) :
  GC Try.prog ⟨72, Try.f72, R, w, D⟩ 377 K72m fr (⟨nb, true, .row (nodeR tp idx wl nt pr kv hv f0) 107 (0, 0)⟩ :: ((Hs ++ (Hh ++ Hk)) ++ (⟨hb, true, .row [I (num : Int)] 3 (0, 0)⟩ :: Hr))) := by
 refine GC.weak hsub ?_
 clear hsub
 obtain ⟨X, hX⟩ : ∃ X, X = (Hh ++ Hk) ++ (⟨hb, true, .row [I (num : Int)] 3 (0, 0)⟩ :: Hr) := ⟨_, rfl⟩
 refine GC.turn (H' := ⟨nb, true, .row (nodeR tp idx wl nt pr kv hv f0) 107 (0, 0)⟩ :: (Hs ++ X)) (fun w1 h1 => by rw [hX, ← List.append_assoc]; exact h1) ?_
 have hkl2 := hk.len
 obtain ⟨ad, cap, rfl⟩ := hs.slice
 obtain ⟨ad2, l2, c2, rfl, hnn⟩ := hh.slice
 subst hkk
 obtain ⟨rb, cap2, spare, e1, rfl⟩ := hs.at (i := 0) (by simp)
 cases e1
 cases hk with
 | @cons _ b1 K1 _ _ _ hk1 hk0 =>
 cases hk0
 cases hk1 with
 | @mk kpath kidx kwild knt kpr ko kfull kkids _ kbs kkv khv Ks Kh Kk ks kh kk =>
 refine GC.seq ?_
 refine GC.seq ?_
 refine GC.reg ?_
 refine G.m1 ?_
 refine G.m1 ?_
 refine G.v (V.lenS Try.underlying9 rfl) rfl ?_
 refine G.v (V.lt rfl rfl) rfl ?_
 refine G.nil ?_
 refine GC.condD rfl (fun h129 => ?_) (fun h129 => absurd (by omega) h129)
 refine GC.seq ?_
 refine GC.reg ?_
 refine G.m1 ?_
 refine G.m1 ?_
 refine G.v (V.slL (i := i) Try.underlying9 rfl rfl hip) rfl ?_
 refine G.m2 ?_
 refine G.nil ?_
 refine GC.seq ?_
 refine GC.reg ?_
 refine G.m1 ?_
 refine G.v (V.idx (i := 0) (b := c) Try.underlying9 rfl rfl (by rw [List.getElem?_drop]; exact hc)) rfl ?_
 refine G.m2 ?_
 refine G.nil ?_
 refine GC.seq ?_
 refine GC.seq ?_
 refine GC.join (fun fr' H' => Sub [(0, Pt nb 0), (1, S (p.drop i)), (2, .slice (some ⟨hb, 0, none⟩) 1 1), (6, S full), (7, I (pfi : Int)), (151, .bool true)] fr' ∧ H' = ⟨nb, true, .row (nodeR tp idx wl nt pr (.slice (some ⟨rb, 0, none⟩) 1 cap) (.slice ad2 l2 c2) f0) 107 (0, 0)⟩ :: ([⟨rb, true, .row ([b1].map (Pt · 0) ++ spare) 89 (0, 0)⟩] ++ X)) (fun J18 => ?_) ?_
 ·refine GC.reg ?_
  refine G.m1 ?_
  refine G.v (V.nc rfl) rfl ?_
  refine G.v (V.fa F107_3 rfl) rfl ?_
  refine G.v (V.ld (b := nb) (off := 0 + 3) (wf := true) (l := nodeR tp idx wl nt pr (.slice (some ⟨rb, 0, none⟩) 1 cap) (.slice ad2 l2 c2) f0) (T := 107) (fz := (0, 0)) (v := .int .u8 (nt : Int)) Try.isAgg103 rfl (.head _) rfl) rfl ?_
  refine G.v (V.eqI rfl rfl) rfl ?_
  refine G.m1 ?_
  refine G.bc 140 rfl (fun h140 => ?_) (fun h140 => ?_)
  ·refine G.m5 ?_
   refine G.vg rfl rfl (V.eqI rfl rfl) rfl ?_
   refine G.m3 ?_
   refine G.m1 ?_
   refine G.bc 144 rfl (fun h144 => ?_) (fun h144 => ?_)
   ·refine G.m5 ?_
    refine G.vg rfl rfl (V.nc rfl) rfl ?_
    refine G.vg rfl rfl (V.fa F107_5 rfl) rfl ?_
    refine G.vg rfl rfl (V.ld (b := nb) (off := 0 + 5) (wf := true) (l := nodeR tp idx wl nt pr (.slice (some ⟨rb, 0, none⟩) 1 cap) (.slice ad2 l2 c2) f0) (T := 107) (fz := (0, 0)) (v := (.slice (some ⟨rb, 0, none⟩) 1 cap)) Try.isAgg105 rfl (.head _) rfl) rfl ?_
    refine G.vg rfl rfl (V.lenL Try.underlying105 rfl) rfl ?_
    refine G.vg rfl rfl (V.eqI rfl rfl) rfl ?_
    refine G.m3 ?_
    refine G.nil ?_
    exact J18 _ _ ⟨.of rfl, rfl⟩
   ·refine G.s1 ?_
    refine G.s1 ?_
    refine G.s1 ?_
    refine G.s1 ?_
    refine G.s1 ?_
    refine G.s1 ?_
    refine G.m4 ?_
    refine G.nil ?_
    exact absurd h144 (by rw [hc47]; decide)
  ·refine G.s1 ?_
   refine G.s1 ?_
   refine G.m4 ?_
   refine G.m1 ?_
   refine G.s1 ?_
   refine G.s1 ?_
   refine G.s1 ?_
   refine G.s1 ?_
   refine G.s1 ?_
   refine G.s1 ?_
   refine G.m4 ?_
   refine G.nil ?_
   exact absurd h140 (by rw [hnt]; decide)
 rintro fr' H' ⟨hs18, rfl⟩
 refine GC.weak hs18 ?_
 clear hs18
 refine GC.condT rfl ?_
 refine GC.seq ?_
 refine GC.reg ?_
 refine G.m1 ?_
 refine G.m1 ?_
 refine G.v (V.nc rfl) rfl ?_
 refine G.v (V.fa F107_0 rfl) rfl ?_
 refine G.v (V.ld (b := nb) (off := 0 + 0) (wf := true) (l := nodeR tp idx wl nt pr (.slice (some ⟨rb, 0, none⟩) 1 cap) (.slice ad2 l2 c2) f0) (T := 107) (fz := (0, 0)) (v := S tp) Try.isAgg9 rfl (.head _) rfl) rfl ?_
 refine G.v (V.lenS Try.underlying9 rfl) rfl ?_
 refine G.v (V.addI (r := ((pfi + tp.length : Nat) : Int)) rfl rfl rfl (by omega) (by omega)) rfl ?_
 refine G.m2 ?_
 refine G.nil ?_
 refine GC.seq ?_
 refine GC.reg ?_
 refine G.m1 ?_
 refine G.v (V.nc rfl) rfl ?_
 refine G.v (V.fa F107_5 rfl) rfl ?_
 refine G.v (V.ld (b := nb) (off := 0 + 5) (wf := true) (l := nodeR tp idx wl nt pr (.slice (some ⟨rb, 0, none⟩) 1 cap) (.slice ad2 l2 c2) f0) (T := 107) (fz := (0, 0)) (v := (.slice (some ⟨rb, 0, none⟩) 1 cap)) Try.isAgg105 rfl (.head _) rfl) rfl ?_
 refine G.v (V.ia (i := 0) Try.underlying105 Try.sizeOf89 rfl rfl (by omega)) rfl ?_
 refine G.v (V.ld (b := rb) (off := 0 + 0 * 1) (wf := true) (l := [b1].map (Pt · 0) ++ spare) (T := 89) (fz := (0, 0)) (v := Pt b1 0) Try.isAgg89 rfl (.tail _ (.head _)) rfl) rfl ?_
 refine G.m2 ?_
 refine G.nil ?_
 refine GC.seq ?_
 refine GC.turn (H' := ⟨b1, true, .row (nodeR kpath kidx kwild knt kpr kkv khv kfull) 107 (0, 0)⟩ :: (⟨nb, true, .row (nodeR tp idx wl nt pr (.slice (some ⟨rb, 0, none⟩) 1 cap) (.slice ad2 l2 c2) f0) 107 (0, 0)⟩ :: ⟨rb, true, .row ([b1].map (Pt · 0) ++ spare) 89 (0, 0)⟩ :: (Hh ++ ((Ks ++ (Kh ++ Kk)) ++ (⟨hb, true, .row [I (num : Int)] 3 (0, 0)⟩ :: Hr))))) (fun w1 h1 => ?_) ?_
 ·rw [hX] at h1
  have p1 := perm_idx [[⟨nb, true, .row (nodeR tp idx wl nt pr (.slice (some ⟨rb, 0, none⟩) 1 cap) (.slice ad2 l2 c2) f0) 107 (0, 0)⟩], [⟨rb, true, .row ([b1].map (Pt · 0) ++ spare) 89 (0, 0)⟩], Hh, [⟨b1, true, .row (nodeR kpath kidx kwild knt kpr kkv khv kfull) 107 (0, 0)⟩], (Ks ++ (Kh ++ Kk)), [⟨hb, true, .row [I (num : Int)] 3 (0, 0)⟩], Hr] [0, 1, 2, 3, 4, 5, 6] [3, 0, 1, 2, 4, 5, 6] (by decide)
  exact h1.perm (by simpa using p1)
 refine GC.reg ?_
 refine G.m1 ?_
 refine G.v (V.nc rfl) rfl ?_
 refine G.v (V.fa F107_4 rfl) rfl ?_
 refine G.v (V.ld (b := b1) (off := 0 + 4) (wf := true) (l := nodeR kpath kidx kwild knt kpr kkv khv kfull) (T := 107) (fz := (0, 0)) (v := .int .u32 ((kpr % 4294967296 : Nat) : Int)) Try.isAgg104 rfl (.head _) rfl) rfl ?_
 refine G.v (V.add rfl rfl) rfl ?_
 rw [wrapU32]
 refine G.v (V.nc rfl) rfl ?_
 refine G.v (V.fa F107_4 rfl) rfl ?_
 refine G.st (b := b1) (off := 0 + 4) (l := nodeR kpath kidx kwild knt kpr kkv khv kfull) (T := 107) (fz := (0, 0)) (v := .int .u32 (((kpr + 1) % 4294967296 : Nat) : Int)) Try.sizeOf104 rfl rfl rfl (.z) rfl rfl ?_
 refine G.nil ?_
 refine GC.exit rfl ?_
 refine GC.inLoop ?_
 refine GC.turn (H' := (⟨b1, true, .row (nodeR kpath kidx kwild knt (kpr + 1) kkv khv kfull) 107 (0, 0)⟩ :: (Ks ++ (Kh ++ Kk))) ++ (⟨hb, true, .row [I (num : Int)] 3 (0, 0)⟩ :: (⟨nb, true, .row (nodeR tp idx wl nt pr (.slice (some ⟨rb, 0, none⟩) 1 cap) (.slice ad2 l2 c2) f0) 107 (0, 0)⟩ :: ⟨rb, true, .row ([b1].map (Pt · 0) ++ spare) 89 (0, 0)⟩ :: (Hh ++ Hr)))) (fun w1 h1 => ?_) (go b1 _ _ _ (HT.mk (pr := kpr + 1) ks kh kk) (fun k' Hk1' hk' => ⟨_, HT.mk (kids := [k']) (bs := [b1]) hs hh (HTs.one hk'), ?_⟩) (.of rfl))
 ·have h2 : HF w D (⟨b1, true, .row (nodeR kpath kidx kwild knt (kpr + 1) kkv khv kfull) 107 (0, 0)⟩ :: (⟨nb, true, .row (nodeR tp idx wl nt pr (.slice (some ⟨rb, 0, none⟩) 1 cap) (.slice ad2 l2 c2) f0) 107 (0, 0)⟩ :: ⟨rb, true, .row ([b1].map (Pt · 0) ++ spare) 89 (0, 0)⟩ :: (Hh ++ ((Ks ++ (Kh ++ Kk)) ++ (⟨hb, true, .row [I (num : Int)] 3 (0, 0)⟩ :: Hr))))) w1 := h1
  have p1 := perm_idx [[⟨b1, true, .row (nodeR kpath kidx kwild knt (kpr + 1) kkv khv kfull) 107 (0, 0)⟩], [⟨nb, true, .row (nodeR tp idx wl nt pr (.slice (some ⟨rb, 0, none⟩) 1 cap) (.slice ad2 l2 c2) f0) 107 (0, 0)⟩, ⟨rb, true, .row ([b1].map (Pt · 0) ++ spare) 89 (0, 0)⟩], Hh, (Ks ++ (Kh ++ Kk)), [⟨hb, true, .row [I (num : Int)] 3 (0, 0)⟩], Hr] [0, 1, 2, 3, 4, 5] [0, 3, 4, 1, 2, 5] (by decide)
  exact h2.perm (by simpa using p1)
 ·have p1 := perm_idx [Hk1', [⟨nb, true, .row (nodeR tp idx wl nt pr (.slice (some ⟨rb, 0, none⟩) 1 cap) (.slice ad2 l2 c2) f0) 107 (0, 0)⟩, ⟨rb, true, .row ([b1].map (Pt · 0) ++ spare) 89 (0, 0)⟩], Hh, Hr] [0, 1, 2, 3] [1, 2, 0, 3] (by decide)
  simpa using p1
end Go.Proofs

/- addRoute: the search for an index. Printed by wip/mk_gu11.py. -/
set_option maxRecDepth 20000
namespace Go.Proofs
open Go Bw
open Gt
theorem bump_len (idx : List UInt8) (kids : List T0) (j : Nat) (hj : j < kids.length) : (bump idx kids j).2.1.length = kids.length := by
 unfold bump
 exact (moveTo_len _ (newPos_le _ _ _) (by simpa using hj)).trans (by simp)
theorem bump_np (idx : List UInt8) (kids : List T0) (j : Nat) : (bump idx kids j).2.2 ≤ j := newPos_le _ _ _
theorem u8_eq {x y : UInt8} (h : (x.toNat : Int) = (y.toNat : Int)) : x = y := UInt8.toNat_inj.1 (by omega)
theorem f72_idx {R : Ending → World → Prop} {w : World} {D : Nat → Prop} {nb hb num pfi i : Nat} {p full tp idx : List UInt8} {wl : Bool} {nt pr : Nat} {h0 : Option Nat} {f0 : List UInt8} {kids : List T0} {bs : List Nat} {kv hv : Value} {Hs Hh Hk Hr : SH} {fr : SF}
  (hs : Own 89 1 kv kids.length (bs.map (Pt · 0)) Hs) (hh : HV h0 hv Hh) (hk : HTs kids bs Hk) (_hpl : p.length ≤ 100000) (hfl : full.length ≤ 100000) (hpf : pfi + p.length ≤ full.length) (hip : i ≤ p.length) (hti : tp.length = i) (hsub : Sub [(0, Pt nb 0), (1, S p), (2, .slice (some ⟨hb, 0, none⟩) 1 1), (6, S full), (7, I (pfi : Int)), (8, I (i : Nat))] fr) {c : UInt8} (hlt : i < p.length) (hc : p[i]? = some c) (hnp : ¬ (nt = 2 ∧ c = 47 ∧ kids.length = 1)) (hkl9 : kids.length ≤ 90000) (hik : idx.length ≤ kids.length) {j : Nat} {k : T0} (hj : idxOf c idx = some j) (hkj : (bump idx kids j).2.1[(bump idx kids j).2.2]? = some k)
  (go : ∀ cb Hk1 Hr' fr', HT k cb Hk1 → (∀ k' Hk1', HT k' cb Hk1' → ∃ Hn', HT (.node () tp (bump idx kids j).1 wl nt pr h0 f0 ((bump idx kids j).2.1.set (bump idx kids j).2.2 k')) nb Hn' ∧ (Hk1' ++ Hr').Perm (Hn' ++ Hr)) → Sub [(0, Pt cb 0), (1, S (p.drop i)), (2, .slice (some ⟨hb, 0, none⟩) 1 1), (6, S full), (7, I ((pfi + tp.length : Nat) : Int))] fr' → GC Try.prog ⟨72, Try.f72, R, w, D⟩ 377 K72 fr' (Hk1 ++ (⟨hb, true, .row [I (num : Int)] 3 (0, 0)⟩ :: Hr'))) :
  GC Try.prog ⟨72, Try.f72, R, w, D⟩ 377 K72m fr (⟨nb, true, .row (nodeR tp idx wl nt pr kv hv f0) 107 (0, 0)⟩ :: ((Hs ++ (Hh ++ Hk)) ++ (⟨hb, true, .row [I (num : Int)] 3 (0, 0)⟩ :: Hr))) := by
 refine GC.weak hsub ?_
 clear hsub
 obtain ⟨X, hX⟩ : ∃ X, X = (Hh ++ Hk) ++ (⟨hb, true, .row [I (num : Int)] 3 (0, 0)⟩ :: Hr) := ⟨_, rfl⟩
 refine GC.turn (H' := ⟨nb, true, .row (nodeR tp idx wl nt pr kv hv f0) 107 (0, 0)⟩ :: (Hs ++ X)) (fun w1 h1 => by rw [hX, ← List.append_assoc]; exact h1) ?_
 have hkl2 := hk.len
 obtain ⟨ad, cap, rfl⟩ := hs.slice
 obtain ⟨ad2, l2, c2, rfl, hnn⟩ := hh.slice
 obtain ⟨hjc, hjn⟩ := idxOf_some hj
 have hjl : j < idx.length := (List.getElem?_eq_some_iff.1 hjc).1
 refine GC.seq ?_
 refine GC.seq ?_
 refine GC.reg ?_
 refine G.m1 ?_
 refine G.m1 ?_
 refine G.v (V.lenS Try.underlying9 rfl) rfl ?_
 refine G.v (V.lt rfl rfl) rfl ?_
 refine G.nil ?_
 refine GC.condD rfl (fun h129 => ?_) (fun h129 => absurd (by omega) h129)
 refine GC.seq ?_
 refine GC.reg ?_
 refine G.m1 ?_
 refine G.m1 ?_
 refine G.v (V.slL (i := i) Try.underlying9 rfl rfl hip) rfl ?_
 refine G.m2 ?_
 refine G.nil ?_
 refine GC.seq ?_
 refine GC.reg ?_
 refine G.m1 ?_
 refine G.v (V.idx (i := 0) (b := c) Try.underlying9 rfl rfl (by rw [List.getElem?_drop]; exact hc)) rfl ?_
 refine G.m2 ?_
 refine G.nil ?_
 refine GC.seq ?_
 refine GC.seq ?_
 refine GC.join (fun fr' H' => Sub [(0, Pt nb 0), (1, S (p.drop i)), (2, .slice (some ⟨hb, 0, none⟩) 1 1), (6, S full), (7, I (pfi : Int)), (10, .int .u8 (c.toNat : Int)), (151, .bool false)] fr' ∧ H' = ⟨nb, true, .row (nodeR tp idx wl nt pr (.slice ad kids.length cap) (.slice ad2 l2 c2) f0) 107 (0, 0)⟩ :: (Hs ++ X)) (fun J18 => ?_) ?_
 ·refine GC.reg ?_
  refine G.m1 ?_
  refine G.v (V.nc rfl) rfl ?_
  refine G.v (V.fa F107_3 rfl) rfl ?_
  refine G.v (V.ld (b := nb) (off := 0 + 3) (wf := true) (l := nodeR tp idx wl nt pr (.slice ad kids.length cap) (.slice ad2 l2 c2) f0) (T := 107) (fz := (0, 0)) (v := .int .u8 (nt : Int)) Try.isAgg103 rfl (.head _) rfl) rfl ?_
  refine G.v (V.eqI rfl rfl) rfl ?_
  refine G.m1 ?_
  refine G.bc 140 rfl (fun h140 => ?_) (fun h140 => ?_)
  ·refine G.m5 ?_
   refine G.vg rfl rfl (V.eqI rfl rfl) rfl ?_
   refine G.m3 ?_
   refine G.m1 ?_
   refine G.bc 144 rfl (fun h144 => ?_) (fun h144 => ?_)
   ·refine G.m5 ?_
    refine G.vg rfl rfl (V.nc rfl) rfl ?_
    refine G.vg rfl rfl (V.fa F107_5 rfl) rfl ?_
    refine G.vg rfl rfl (V.ld (b := nb) (off := 0 + 5) (wf := true) (l := nodeR tp idx wl nt pr (.slice ad kids.length cap) (.slice ad2 l2 c2) f0) (T := 107) (fz := (0, 0)) (v := (.slice ad kids.length cap)) Try.isAgg105 rfl (.head _) rfl) rfl ?_
    refine G.vg rfl rfl (V.lenL Try.underlying105 rfl) rfl ?_
    refine G.vg rfl rfl (V.eqI rfl rfl) rfl ?_
    refine G.m3 ?_
    refine G.nil ?_
    refine J18 _ _ ⟨?_, rfl⟩
    have e151 : decide (((kids.length : Nat) : Int) = 1) = false := decide_eq_false fun e => hnp ⟨by have := of_decide_eq_true h140; omega, u47 (by have := of_decide_eq_true h144; omega), by omega⟩
    rw [e151]
    exact .of rfl
   ·refine G.s1 ?_
    refine G.s1 ?_
    refine G.s1 ?_
    refine G.s1 ?_
    refine G.s1 ?_
    refine G.s1 ?_
    refine G.m4 ?_
    refine G.nil ?_
    exact J18 _ _ ⟨.of rfl, rfl⟩
  ·refine G.s1 ?_
   refine G.s1 ?_
   refine G.m4 ?_
   refine G.m1 ?_
   refine G.s1 ?_
   refine G.s1 ?_
   refine G.s1 ?_
   refine G.s1 ?_
   refine G.s1 ?_
   refine G.s1 ?_
   refine G.m4 ?_
   refine G.nil ?_
   exact J18 _ _ ⟨.of rfl, rfl⟩
 rintro fr' H' ⟨hs18, rfl⟩
 refine GC.weak hs18 ?_
 clear hs18
 refine GC.condF rfl ?_
 refine GC.skip ?_
 refine GC.seq ?_
 refine GC.seq ?_
 refine GC.regQ mixed (by kernel_rfl) ?_
 refine GQ.v (V.mv rfl) rfl ?_
 refine GQ.v (V.nc rfl) rfl ?_
 refine GQ.v (V.fa F107_1 rfl) rfl ?_
 refine GQ.v (V.ld (b := nb) (off := 0 + 1) (wf := true) (l := nodeR tp idx wl nt pr (.slice ad kids.length cap) (.slice ad2 l2 c2) f0) (T := 107) (fz := (0, 0)) (v := S idx) Try.isAgg9 rfl (.head _) rfl) rfl ?_
 refine GQ.v (V.lenS Try.underlying9 rfl) rfl ?_
 refine GQ.v (V.asg rfl) rfl ?_
 refine GQ.v (V.asg rfl) rfl ?_
 refine GQ.nil ?_
 refine GC.block ?_
 refine GC.loopJ (fun N fr' H' => ∃ q, q + N = j ∧ Sub [(0, Pt nb 0), (1, S (p.drop i)), (2, .slice (some ⟨hb, 0, none⟩) 1 1), (6, S full), (7, I (pfi : Int)), (10, .int .u8 (c.toNat : Int)), (11, I (q : Nat)), (12, I (idx.length : Nat))] fr' ∧ H' = ⟨nb, true, .row (nodeR tp idx wl nt pr (.slice ad kids.length cap) (.slice ad2 l2 c2) f0) 107 (0, 0)⟩ :: (Hs ++ X)) j
  ⟨0, by omega, .of rfl, rfl⟩ ?_
 rintro N fr' H' ⟨q, hq, hs22, rfl⟩ ih
 refine GC.weak hs22 ?_
 clear hs22
 refine GC.seq ?_
 refine GC.seq ?_
 refine GC.reg ?_
 refine G.m1 ?_
 refine G.m1 ?_
 refine G.v (V.lt rfl rfl) rfl ?_
 refine G.nil ?_
 refine GC.condD rfl (fun h179 => ?_) (fun h179 => absurd (by omega) h179)
 refine GC.skip ?_
 refine GC.seq ?_
 refine GC.block ?_
 refine GC.seq ?_
 obtain ⟨x, hx⟩ : ∃ x, idx[q]? = some x := ⟨_, List.getElem?_eq_getElem (by omega)⟩
 refine GC.reg ?_
 refine G.m1 ?_
 refine G.m1 ?_
 refine G.v (V.nc rfl) rfl ?_
 refine G.v (V.fa F107_1 rfl) rfl ?_
 refine G.v (V.ld (b := nb) (off := 0 + 1) (wf := true) (l := nodeR tp idx wl nt pr (.slice ad kids.length cap) (.slice ad2 l2 c2) f0) (T := 107) (fz := (0, 0)) (v := S idx) Try.isAgg9 rfl (.head _) rfl) rfl ?_
 refine G.m1 ?_
 refine G.v (V.idx (i := q) (b := x) Try.underlying9 rfl rfl hx) rfl ?_
 refine G.v (V.eqI rfl rfl) rfl ?_
 refine G.nil ?_
 refine GC.condD rfl (fun h189 => ?_) (fun h189 => ?_)
 ·refine GC.seq ?_
  have hqj : q = j := by
   rcases Nat.lt_or_ge q j with h | h
   ·exact absurd (by rw [hx, u8_eq h189]) (hjn q h)
   ·omega
  subst hqj
  refine GC.reg ?_
  refine G.m1 ?_
  refine G.m1 ?_
  refine G.v (V.nc rfl) rfl ?_
  refine G.v (V.fa F107_0 rfl) rfl ?_
  refine G.v (V.ld (b := nb) (off := 0 + 0) (wf := true) (l := nodeR tp idx wl nt pr (.slice ad kids.length cap) (.slice ad2 l2 c2) f0) (T := 107) (fz := (0, 0)) (v := S tp) Try.isAgg9 rfl (.head _) rfl) rfl ?_
  refine G.v (V.lenS Try.underlying9 rfl) rfl ?_
  refine G.v (V.addI (r := ((pfi + tp.length : Nat) : Int)) rfl rfl rfl (by omega) (by omega)) rfl ?_
  refine G.m2 ?_
  refine G.nil ?_
  refine GC.seq ?_
  refine GC.reg ?_
  refine G.m1 ?_
  refine G.m1 ?_
  refine G.callL (H1 := ⟨nb, true, .row (nodeR tp idx wl nt pr (.slice ad kids.length cap) (.slice ad2 l2 c2) f0) 107 (0, 0)⟩ :: (Hs ++ Hk)) (Hk := Hh ++ (⟨hb, true, .row [I (num : Int)] 3 (0, 0)⟩ :: Hr)) (fun v H1' => v = I ((bump idx kids q).2.2 : Nat) ∧ ∃ Hs' Hk', Own 89 1 (.slice ad kids.length cap) kids.length ((moveTo bs q (bump idx kids q).2.2).map (Pt · 0)) Hs' ∧ HTs (bump idx kids q).2.1 (moveTo bs q (bump idx kids q).2.2) Hk' ∧ H1' = ⟨nb, true, .row (nodeR tp (bump idx kids q).1 wl nt pr (.slice ad kids.length cap) (.slice ad2 l2 c2) f0) 107 (0, 0)⟩ :: (Hs' ++ Hk')) ?_ (fun e0 he0 => ?_) Try.call81 rfl rfl (fun w1 hw1 _ => ?_) ?_
  ·rw [hX]
   have p1 := perm_idx [[⟨nb, true, .row (nodeR tp idx wl nt pr (.slice ad kids.length cap) (.slice ad2 l2 c2) f0) 107 (0, 0)⟩], Hs, Hh, Hk, [⟨hb, true, .row [I (num : Int)] 3 (0, 0)⟩], Hr] [0, 1, 2, 3, 4, 5] [0, 1, 3, 2, 4, 5] (by decide)
   simpa using p1
  ·rcases List.mem_cons.1 he0 with rfl | he0
   ·rfl
   ·rcases List.mem_append.1 he0 with he0 | he0
    ·exact hs.w e0 he0
    ·exact hk.w e0 he0
  ·refine (f81_any w1 _ nb q tp idx wl nt pr (.slice ad2 l2 c2) f0 (.slice ad kids.length cap) kids bs Hs Hk (by omega) hjl (by omega) (by omega) hs hk hw1).mono fun e w' ⟨h1, Hs', Hk', h2, h3, h4⟩ => ⟨_, _, h1, fun e0 he0 => ?_, h4, rfl, Hs', Hk', h2, h3, rfl⟩
   rcases List.mem_cons.1 he0 with rfl | he0
   ·rfl
   ·rcases List.mem_append.1 he0 with he0 | he0
    ·exact h2.w e0 he0
    ·exact h3.w e0 he0
  rintro v H1' ⟨rfl, Hs2, Hk2, hs2, hk2, rfl⟩
  have hnpq := bump_np idx kids q
  have hbl := bump_len idx kids q (by omega)
  generalize hB : (bump idx kids q) = B at *
  obtain ⟨cb, C1, C2, hcb, hkc, hperm, hback⟩ := hk2.foc hkj
  have hnpl : B.2.2 < kids.length := by omega
  obtain ⟨rb, cap2, spare, e1, rfl⟩ := hs2.at hnpl
  cases e1
  refine G.m2 ?_
  refine G.nil ?_
  refine GC.seq ?_
  refine GC.reg ?_
  refine G.m1 ?_
  refine G.v (V.nc rfl) rfl ?_
  refine G.v (V.fa F107_5 rfl) rfl ?_
  refine G.v (V.ld (b := nb) (off := 0 + 5) (wf := true) (l := nodeR tp B.1 wl nt pr (.slice (some ⟨rb, 0, none⟩) kids.length cap) (.slice ad2 l2 c2) f0) (T := 107) (fz := (0, 0)) (v := (.slice (some ⟨rb, 0, none⟩) kids.length cap)) Try.isAgg105 rfl (.head _) rfl) rfl ?_
  refine G.m1 ?_
  refine G.v (V.ia (i := B.2.2) Try.underlying105 Try.sizeOf89 rfl rfl hnpl) rfl ?_
  refine G.v (V.ld (b := rb) (off := 0 + B.2.2 * 1) (wf := true) (l := (moveTo bs q B.2.2).map (Pt · 0) ++ spare) (T := 89) (fz := (0, 0)) (v := Pt cb 0) Try.isAgg89 rfl (.tail _ (.head _)) (by rw [nth_eq, Nat.zero_add, Nat.mul_one, List.getElem?_append_left (by rw [List.length_map, hk2.len, hbl]; exact hnpl), List.getElem?_map, hcb]; rfl)) rfl ?_
  refine G.m2 ?_
  refine G.nil ?_
  refine GC.exit rfl ?_
  refine GC.inLoop ?_
  refine GC.turn (H' := C1 ++ (⟨hb, true, .row [I (num : Int)] 3 (0, 0)⟩ :: (⟨nb, true, .row (nodeR tp B.1 wl nt pr (.slice (some ⟨rb, 0, none⟩) kids.length cap) (.slice ad2 l2 c2) f0) 107 (0, 0)⟩ :: ([⟨rb, true, .row ((moveTo bs q B.2.2).map (Pt · 0) ++ spare) 89 (0, 0)⟩] ++ (Hh ++ (C2 ++ Hr)))))) (fun w1 h1 => h1.perm ?_) ?_
  ·have p1 := perm_idx [[⟨nb, true, .row (nodeR tp B.1 wl nt pr (.slice (some ⟨rb, 0, none⟩) kids.length cap) (.slice ad2 l2 c2) f0) 107 (0, 0)⟩], [⟨rb, true, .row ((moveTo bs q B.2.2).map (Pt · 0) ++ spare) 89 (0, 0)⟩], C1, C2, Hh, [⟨hb, true, .row [I (num : Int)] 3 (0, 0)⟩], Hr] [0, 1, 2, 3, 4, 5, 6] [2, 5, 0, 1, 4, 3, 6] (by decide)
   refine List.Perm.trans (((hperm.append_left [⟨rb, true, .row ((moveTo bs q B.2.2).map (Pt · 0) ++ spare) 89 (0, 0)⟩]).cons ⟨nb, true, .row (nodeR tp B.1 wl nt pr (.slice (some ⟨rb, 0, none⟩) kids.length cap) (.slice ad2 l2 c2) f0) 107 (0, 0)⟩).append_right (Hh ++ (⟨hb, true, .row [I (num : Int)] 3 (0, 0)⟩ :: Hr))) ?_
   simpa using p1
  refine go cb C1 _ _ hkc (fun k' Hk1' hk' => ?_) (.of rfl)
  ·obtain ⟨H2, hk3, hp3⟩ := hback k' Hk1' hk'
   refine ⟨_, HT.mk (by rw [List.length_set, hbl]; exact hs2) hh hk3, ?_⟩
   have p1 := perm_idx [Hk1', [⟨nb, true, .row (nodeR tp B.1 wl nt pr (.slice (some ⟨rb, 0, none⟩) kids.length cap) (.slice ad2 l2 c2) f0) 107 (0, 0)⟩], [⟨rb, true, .row ((moveTo bs q B.2.2).map (Pt · 0) ++ spare) 89 (0, 0)⟩], Hh, C2, Hr] [0, 1, 2, 3, 4, 5] [1, 2, 3, 0, 4, 5] (by decide)
   refine List.Perm.trans (l₂ := ⟨nb, true, .row (nodeR tp B.1 wl nt pr (.slice (some ⟨rb, 0, none⟩) kids.length cap) (.slice ad2 l2 c2) f0) 107 (0, 0)⟩ :: ([⟨rb, true, .row ((moveTo bs q B.2.2).map (Pt · 0) ++ spare) 89 (0, 0)⟩] ++ (Hh ++ ((Hk1' ++ C2) ++ Hr)))) (by simpa using p1) ?_
   have p2 := (((hp3.symm.append_right Hr).append_left Hh).append_left [⟨rb, true, .row ((moveTo bs q B.2.2).map (Pt · 0) ++ spare) 89 (0, 0)⟩]).cons ⟨nb, true, .row (nodeR tp B.1 wl nt pr (.slice (some ⟨rb, 0, none⟩) kids.length cap) (.slice ad2 l2 c2) f0) 107 (0, 0)⟩
   simpa using p2
 refine GC.skip ?_
 refine GC.inBlock ?_
 refine GC.reg ?_
 refine G.m1 ?_
 refine G.v (V.addI (r := ((q + 1 : Nat) : Int)) rfl rfl rfl (by omega) (by omega)) rfl ?_
 refine G.m2 ?_
 refine G.nil ?_
 have hxc : x ≠ c := fun e => h189 (by rw [e])
 have hqj : q ≠ j := fun e => hxc (by rw [e, hjc] at hx; exact (Option.some.inj hx).symm)
 exact ih (N - 1) _ _ (by omega) ⟨q + 1, by omega, .of rfl, rfl⟩
theorem f72_none {R : Ending → World → Prop} {w : World} {D : Nat → Prop} {nb hb num pfi i : Nat} {p full tp idx : List UInt8} {wl : Bool} {nt pr : Nat} {h0 : Option Nat} {f0 : List UInt8} {kids : List T0} {bs : List Nat} {kv hv : Value} {Hs Hh Hk Hr : SH} {fr : SF}
  (hs : Own 89 1 kv kids.length (bs.map (Pt · 0)) Hs) (hh : HV h0 hv Hh) (hk : HTs kids bs Hk) (_hpl : p.length ≤ 100000) (_hfl : full.length ≤ 100000) (_hpf : pfi + p.length ≤ full.length) (hip : i ≤ p.length) (hti : tp.length = i) (hsub : Sub [(0, Pt nb 0), (1, S p), (2, .slice (some ⟨hb, 0, none⟩) 1 1), (6, S full), (7, I (pfi : Int)), (8, I (i : Nat))] fr) {c : UInt8} (hlt : i < p.length) (hc : p[i]? = some c) (hnp : ¬ (nt = 2 ∧ c = 47 ∧ kids.length = 1)) (hkl9 : kids.length ≤ 90000) (hik : idx.length ≤ kids.length) (hj : idxOf c idx = none)
  (go : ∀ fr', Sub [(0, Pt nb 0), (1, S (p.drop i)), (2, .slice (some ⟨hb, 0, none⟩) 1 1), (6, S full), (7, I (pfi : Int)), (10, .int .u8 (c.toNat : Int))] fr' → GC Try.prog ⟨72, Try.f72, R, w, D⟩ 377 K72s fr' (⟨nb, true, .row (nodeR tp idx wl nt pr kv hv f0) 107 (0, 0)⟩ :: ((Hs ++ (Hh ++ Hk)) ++ (⟨hb, true, .row [I (num : Int)] 3 (0, 0)⟩ :: Hr)))) :
  GC Try.prog ⟨72, Try.f72, R, w, D⟩ 377 K72m fr (⟨nb, true, .row (nodeR tp idx wl nt pr kv hv f0) 107 (0, 0)⟩ :: ((Hs ++ (Hh ++ Hk)) ++ (⟨hb, true, .row [I (num : Int)] 3 (0, 0)⟩ :: Hr))) := by
 refine GC.weak hsub ?_
 clear hsub
 obtain ⟨X, hX⟩ : ∃ X, X = (Hh ++ Hk) ++ (⟨hb, true, .row [I (num : Int)] 3 (0, 0)⟩ :: Hr) := ⟨_, rfl⟩
 refine GC.turn (H' := ⟨nb, true, .row (nodeR tp idx wl nt pr kv hv f0) 107 (0, 0)⟩ :: (Hs ++ X)) (fun w1 h1 => by rw [hX, ← List.append_assoc]; exact h1) ?_
 have hkl2 := hk.len
 obtain ⟨ad, cap, rfl⟩ := hs.slice
 obtain ⟨ad2, l2, c2, rfl, hnn⟩ := hh.slice
 have hjn := idxOf_none hj
 refine GC.seq ?_
 refine GC.seq ?_
 refine GC.reg ?_
 refine G.m1 ?_
 refine G.m1 ?_
 refine G.v (V.lenS Try.underlying9 rfl) rfl ?_
 refine G.v (V.lt rfl rfl) rfl ?_
 refine G.nil ?_
 refine GC.condD rfl (fun h129 => ?_) (fun h129 => absurd (by omega) h129)
 refine GC.seq ?_
 refine GC.reg ?_
 refine G.m1 ?_
 refine G.m1 ?_
 refine G.v (V.slL (i := i) Try.underlying9 rfl rfl hip) rfl ?_
 refine G.m2 ?_
 refine G.nil ?_
 refine GC.seq ?_
 refine GC.reg ?_
 refine G.m1 ?_
 refine G.v (V.idx (i := 0) (b := c) Try.underlying9 rfl rfl (by rw [List.getElem?_drop]; exact hc)) rfl ?_
 refine G.m2 ?_
 refine G.nil ?_
 refine GC.seq ?_
 refine GC.seq ?_
 refine GC.join (fun fr' H' => Sub [(0, Pt nb 0), (1, S (p.drop i)), (2, .slice (some ⟨hb, 0, none⟩) 1 1), (6, S full), (7, I (pfi : Int)), (10, .int .u8 (c.toNat : Int)), (151, .bool false)] fr' ∧ H' = ⟨nb, true, .row (nodeR tp idx wl nt pr (.slice ad kids.length cap) (.slice ad2 l2 c2) f0) 107 (0, 0)⟩ :: (Hs ++ X)) (fun J18 => ?_) ?_
 ·refine GC.reg ?_
  refine G.m1 ?_
  refine G.v (V.nc rfl) rfl ?_
  refine G.v (V.fa F107_3 rfl) rfl ?_
  refine G.v (V.ld (b := nb) (off := 0 + 3) (wf := true) (l := nodeR tp idx wl nt pr (.slice ad kids.length cap) (.slice ad2 l2 c2) f0) (T := 107) (fz := (0, 0)) (v := .int .u8 (nt : Int)) Try.isAgg103 rfl (.head _) rfl) rfl ?_
  refine G.v (V.eqI rfl rfl) rfl ?_
  refine G.m1 ?_
  refine G.bc 140 rfl (fun h140 => ?_) (fun h140 => ?_)
  ·refine G.m5 ?_
   refine G.vg rfl rfl (V.eqI rfl rfl) rfl ?_
   refine G.m3 ?_
   refine G.m1 ?_
   refine G.bc 144 rfl (fun h144 => ?_) (fun h144 => ?_)
   ·refine G.m5 ?_
    refine G.vg rfl rfl (V.nc rfl) rfl ?_
    refine G.vg rfl rfl (V.fa F107_5 rfl) rfl ?_
    refine G.vg rfl rfl (V.ld (b := nb) (off := 0 + 5) (wf := true) (l := nodeR tp idx wl nt pr (.slice ad kids.length cap) (.slice ad2 l2 c2) f0) (T := 107) (fz := (0, 0)) (v := (.slice ad kids.length cap)) Try.isAgg105 rfl (.head _) rfl) rfl ?_
    refine G.vg rfl rfl (V.lenL Try.underlying105 rfl) rfl ?_
    refine G.vg rfl rfl (V.eqI rfl rfl) rfl ?_
    refine G.m3 ?_
    refine G.nil ?_
    refine J18 _ _ ⟨?_, rfl⟩
    have e151 : decide (((kids.length : Nat) : Int) = 1) = false := decide_eq_false fun e => hnp ⟨by have := of_decide_eq_true h140; omega, u47 (by have := of_decide_eq_true h144; omega), by omega⟩
    rw [e151]
    exact .of rfl
   ·refine G.s1 ?_
    refine G.s1 ?_
    refine G.s1 ?_
    refine G.s1 ?_
    refine G.s1 ?_
    refine G.s1 ?_
    refine G.m4 ?_
    refine G.nil ?_
    exact J18 _ _ ⟨.of rfl, rfl⟩
  ·refine G.s1 ?_
   refine G.s1 ?_
   refine G.m4 ?_
   refine G.m1 ?_
   refine G.s1 ?_
   refine G.s1 ?_
   refine G.s1 ?_
   refine G.s1 ?_
   refine G.s1 ?_
   refine G.s1 ?_
   refine G.m4 ?_
   refine G.nil ?_
   exact J18 _ _ ⟨.of rfl, rfl⟩
 rintro fr' H' ⟨hs18, rfl⟩
 refine GC.weak hs18 ?_
 clear hs18
 refine GC.condF rfl ?_
 refine GC.skip ?_
 refine GC.seq ?_
 refine GC.seq ?_
 refine GC.regQ mixed (by kernel_rfl) ?_
 refine GQ.v (V.mv rfl) rfl ?_
 refine GQ.v (V.nc rfl) rfl ?_
 refine GQ.v (V.fa F107_1 rfl) rfl ?_
 refine GQ.v (V.ld (b := nb) (off := 0 + 1) (wf := true) (l := nodeR tp idx wl nt pr (.slice ad kids.length cap) (.slice ad2 l2 c2) f0) (T := 107) (fz := (0, 0)) (v := S idx) Try.isAgg9 rfl (.head _) rfl) rfl ?_
 refine GQ.v (V.lenS Try.underlying9 rfl) rfl ?_
 refine GQ.v (V.asg rfl) rfl ?_
 refine GQ.v (V.asg rfl) rfl ?_
 refine GQ.nil ?_
 refine GC.block ?_
 refine GC.loopJ (fun N fr' H' => ∃ q, q + N = idx.length ∧ Sub [(0, Pt nb 0), (1, S (p.drop i)), (2, .slice (some ⟨hb, 0, none⟩) 1 1), (6, S full), (7, I (pfi : Int)), (10, .int .u8 (c.toNat : Int)), (11, I (q : Nat)), (12, I (idx.length : Nat))] fr' ∧ H' = ⟨nb, true, .row (nodeR tp idx wl nt pr (.slice ad kids.length cap) (.slice ad2 l2 c2) f0) 107 (0, 0)⟩ :: (Hs ++ X)) idx.length
  ⟨0, by omega, .of rfl, rfl⟩ ?_
 rintro N fr' H' ⟨q, hq, hs22, rfl⟩ ih
 refine GC.weak hs22 ?_
 clear hs22
 refine GC.seq ?_
 refine GC.seq ?_
 refine GC.reg ?_
 refine G.m1 ?_
 refine G.m1 ?_
 refine G.v (V.lt rfl rfl) rfl ?_
 refine G.nil ?_
 refine GC.condD rfl (fun h179 => ?_) (fun h179 => ?_)
 ·refine GC.skip ?_
  refine GC.seq ?_
  refine GC.block ?_
  refine GC.seq ?_
  obtain ⟨x, hx⟩ : ∃ x, idx[q]? = some x := ⟨_, List.getElem?_eq_getElem (by omega)⟩
  refine GC.reg ?_
  refine G.m1 ?_
  refine G.m1 ?_
  refine G.v (V.nc rfl) rfl ?_
  refine G.v (V.fa F107_1 rfl) rfl ?_
  refine G.v (V.ld (b := nb) (off := 0 + 1) (wf := true) (l := nodeR tp idx wl nt pr (.slice ad kids.length cap) (.slice ad2 l2 c2) f0) (T := 107) (fz := (0, 0)) (v := S idx) Try.isAgg9 rfl (.head _) rfl) rfl ?_
  refine G.m1 ?_
  refine G.v (V.idx (i := q) (b := x) Try.underlying9 rfl rfl hx) rfl ?_
  refine G.v (V.eqI rfl rfl) rfl ?_
  refine G.nil ?_
  refine GC.condD rfl (fun h189 => absurd (by rw [hx, u8_eq h189]) (hjn q)) (fun h189 => ?_)
  refine GC.skip ?_
  refine GC.inBlock ?_
  refine GC.reg ?_
  refine G.m1 ?_
  refine G.v (V.addI (r := ((q + 1 : Nat) : Int)) rfl rfl rfl (by omega) (by omega)) rfl ?_
  refine G.m2 ?_
  refine G.nil ?_
  exact ih (N - 1) _ _ (by omega) ⟨q + 1, by omega, .of rfl, rfl⟩
 refine GC.exit rfl ?_
 refine GC.turn (H' := (⟨nb, true, .row (nodeR tp idx wl nt pr (.slice ad kids.length cap) (.slice ad2 l2 c2) f0) 107 (0, 0)⟩ :: ((Hs ++ (Hh ++ Hk)) ++ (⟨hb, true, .row [I (num : Int)] 3 (0, 0)⟩ :: Hr)))) (fun w1 h1 => ?_) (go _ (.of rfl))
 rw [List.append_assoc]
 rw [hX] at h1
 exact h1
end Go.Proofs

/- addRoute: a new child; insertChild. Printed by wip/mk_gu12.py. -/
set_option maxRecDepth 20000
namespace Go.Proofs
open Go Bw
open Gt
def mid6 : List Item → List Item
 | .code (.seq _ b) :: k => .code b :: k
 | k => k
/-- the call of insertChild -/
noncomputable def K72e : List Item := mid6 K72s
theorem addB_at {wl : Bool} {bs : List Nat} {cb n : Nat} (h : bs.length = n + wl.toNat) : (addB wl bs cb)[n]? = some cb := by
 unfold addB
 cases wl with
 | false => simp at h; rw [if_neg (by simp)]; simp [← h]
 | true =>
  simp at h
  have hb : bs ≠ [] := fun e => by rw [e] at h; simp at h
  rw [if_pos ⟨rfl, hb⟩, List.append_assoc, List.getElem?_append_right (by simp; omega)]
  simp; rw [h]; simp
theorem f72_new {R : Ending → World → Prop} {w : World} {D : Nat → Prop} {nb hb num pfi : Nat} {p full tp idx : List UInt8} {wl : Bool} {nt pr : Nat} {h0 : Option Nat} {f0 : List UInt8} {kids : List T0} {bs : List Nat} {kv hv : Value} {Hs Hh Hk Hr : SH} {fr : SF} {c : UInt8}
  (hs : Own 89 1 kv kids.length (bs.map (Pt · 0)) Hs) (hh : HV h0 hv Hh) (hk : HTs kids bs Hk) (_hpl : p.length ≤ 100000) (_hfl : full.length ≤ 100000) (hsub : Sub [(0, Pt nb 0), (1, S p), (2, .slice (some ⟨hb, 0, none⟩) 1 1), (6, S full), (7, I (pfi : Int)), (10, .int .u8 (c.toNat : Int))] fr) {k : T0} (h58 : c ≠ 58) (h42 : c ≠ 42) (hn3 : nt ≠ 3) (hkl9 : kids.length ≤ 90000) (hlen : kids.length = idx.length + wl.toNat) (hkj : (bump (idx ++ [c]) (addKid wl kids (.node () [] [] false 0 0 none full [])) idx.length).2.1[(bump (idx ++ [c]) (addKid wl kids (.node () [] [] false 0 0 none full [])) idx.length).2.2]? = some k)
  (go : ∀ cb Hk1 Hr' fr', HT k cb Hk1 → (∀ k' Hk1', HT k' cb Hk1' → ∃ Hn', HT (.node () tp (bump (idx ++ [c]) (addKid wl kids (.node () [] [] false 0 0 none full [])) idx.length).1 wl nt pr h0 f0 ((bump (idx ++ [c]) (addKid wl kids (.node () [] [] false 0 0 none full [])) idx.length).2.1.set (bump (idx ++ [c]) (addKid wl kids (.node () [] [] false 0 0 none full [])) idx.length).2.2 k')) nb Hn' ∧ (Hk1' ++ Hr').Perm (Hn' ++ Hr)) → Sub [(0, Pt cb 0), (1, S p), (2, .slice (some ⟨hb, 0, none⟩) 1 1), (6, S full)] fr' → GC Try.prog ⟨72, Try.f72, R, w, D⟩ 377 K72e fr' (Hk1 ++ (⟨hb, true, .row [I (num : Int)] 3 (0, 0)⟩ :: Hr'))) :
  GC Try.prog ⟨72, Try.f72, R, w, D⟩ 377 K72s fr (⟨nb, true, .row (nodeR tp idx wl nt pr kv hv f0) 107 (0, 0)⟩ :: ((Hs ++ (Hh ++ Hk)) ++ (⟨hb, true, .row [I (num : Int)] 3 (0, 0)⟩ :: Hr))) := by
 refine GC.weak hsub ?_
 clear hsub
 obtain ⟨X, hX⟩ : ∃ X, X = (Hh ++ Hk) ++ (⟨hb, true, .row [I (num : Int)] 3 (0, 0)⟩ :: Hr) := ⟨_, rfl⟩
 refine GC.turn (H' := ⟨nb, true, .row (nodeR tp idx wl nt pr kv hv f0) 107 (0, 0)⟩ :: (Hs ++ X)) (fun w1 h1 => by rw [hX, ← List.append_assoc]; exact h1) ?_
 have hkl2 := hk.len
 obtain ⟨ad, cap, rfl⟩ := hs.slice
 obtain ⟨ad2, l2, c2, rfl, hnn⟩ := hh.slice
 refine GC.seq ?_
 refine GC.seq ?_
 refine GC.join (fun fr' H' => Sub [(0, Pt nb 0), (1, S p), (2, .slice (some ⟨hb, 0, none⟩) 1 1), (6, S full), (7, I (pfi : Int)), (10, .int .u8 (c.toNat : Int)), (219, .bool true)] fr' ∧ H' = ⟨nb, true, .row (nodeR tp idx wl nt pr (.slice ad kids.length cap) (.slice ad2 l2 c2) f0) 107 (0, 0)⟩ :: (Hs ++ X)) (fun J29 => ?_) ?_
 ·refine GC.reg ?_
  refine G.m1 ?_
  refine G.v (V.neI rfl rfl) rfl ?_
  refine G.m1 ?_
  refine G.bc 209 rfl (fun h209 => ?_) (fun h209 => ?_)
  ·refine G.m5 ?_
   refine G.vg rfl rfl (V.neI rfl rfl) rfl ?_
   refine G.m3 ?_
   refine G.m1 ?_
   refine G.bc 213 rfl (fun h213 => ?_) (fun h213 => ?_)
   ·refine G.m5 ?_
    refine G.vg rfl rfl (V.nc rfl) rfl ?_
    refine G.vg rfl rfl (V.fa F107_3 rfl) rfl ?_
    refine G.vg rfl rfl (V.ld (b := nb) (off := 0 + 3) (wf := true) (l := nodeR tp idx wl nt pr (.slice ad kids.length cap) (.slice ad2 l2 c2) f0) (T := 107) (fz := (0, 0)) (v := .int .u8 (nt : Int)) Try.isAgg103 rfl (.head _) rfl) rfl ?_
    refine G.vg rfl rfl (V.neI rfl rfl) rfl ?_
    refine G.m3 ?_
    refine G.nil ?_
    refine J29 _ _ ⟨?_, rfl⟩
    have e : (!decide ((nt : Int) = 3)) = true := by simp; omega
    rw [e]
    exact .of rfl
   ·refine G.s1 ?_
    refine G.s1 ?_
    refine G.s1 ?_
    refine G.s1 ?_
    refine G.s1 ?_
    refine G.m4 ?_
    refine G.nil ?_
    exact absurd h213 (by simpa using fun e : (c.toNat : Int) = 42 => h42 (u42 e))
  ·refine G.s1 ?_
   refine G.s1 ?_
   refine G.m4 ?_
   refine G.m1 ?_
   refine G.s1 ?_
   refine G.s1 ?_
   refine G.s1 ?_
   refine G.s1 ?_
   refine G.s1 ?_
   refine G.m4 ?_
   refine G.nil ?_
   exact absurd h209 (by simpa using fun e : (c.toNat : Int) = 58 => h58 (u58 e))
 rintro fr' H' ⟨hs29, rfl⟩
 refine GC.weak hs29 ?_
 clear hs29
 refine GC.condT rfl ?_
 refine GC.seq ?_
 refine GC.regM 10 (fun w1 => w1.heap[nb]? = some (Blk.den (.row (nodeR tp idx wl nt pr (.slice ad kids.length cap) (.slice ad2 l2 c2) f0) 107 (0, 0)))) mixed (by kernel_rfl) ?_
 refine GM.p 0 rfl (by kernel_rfl) (by kernel_rfl) (fun w1 h1 => h1.has ⟨nb, true, .row (nodeR tp idx wl nt pr (.slice ad kids.length cap) (.slice ad2 l2 c2) f0) 107 (0, 0)⟩ (by first | exact .head _ | exact .tail _ (.head _))) (fun _ => V.mv rfl) rfl ?_
 refine GM.p 1 rfl (by kernel_rfl) (by kernel_rfl) (fun w1 h1 => h1.has ⟨nb, true, .row (nodeR tp idx wl nt pr (.slice ad kids.length cap) (.slice ad2 l2 c2) f0) 107 (0, 0)⟩ (by first | exact .head _ | exact .tail _ (.head _))) (fun _ => V.nc rfl) rfl ?_
 refine GM.p 2 rfl (by kernel_rfl) (by kernel_rfl) (fun w1 h1 => h1.has ⟨nb, true, .row (nodeR tp idx wl nt pr (.slice ad kids.length cap) (.slice ad2 l2 c2) f0) 107 (0, 0)⟩ (by first | exact .head _ | exact .tail _ (.head _))) (fun _ => V.fa F107_1 rfl) rfl ?_
 refine GM.ld 3 rfl (by kernel_rfl) (by kernel_rfl) (fun w1 h1 => h1.has ⟨nb, true, .row (nodeR tp idx wl nt pr (.slice ad kids.length cap) (.slice ad2 l2 c2) f0) 107 (0, 0)⟩ (by first | exact .head _ | exact .tail _ (.head _))) Try.isAgg9 rfl (fun w1 h1 => cellB h1 rfl) rfl ?_
 refine GM.p 4 rfl (by kernel_rfl) (by kernel_rfl) (fun w1 h1 => h1.has ⟨nb, true, .row (nodeR tp idx wl nt pr (.slice ad kids.length cap) (.slice ad2 l2 c2) f0) 107 (0, 0)⟩ (by first | exact .head _ | exact .tail _ (.head _))) (fun _ => V.mv rfl) rfl ?_
 refine GM.one 5 rfl (by kernel_rfl) ?_
 refine GMB.bs (vs := [.int .u8 (c.toNat : Int)]) (BS1 Try.underlying68 Try.sizeOf5 Try.zeroValue5 (v := .int .u8 (c.toNat : Int)) rfl) rfl (fun w1 h1 => h1.has ⟨nb, true, .row (nodeR tp idx wl nt pr (.slice ad kids.length cap) (.slice ad2 l2 c2) f0) 107 (0, 0)⟩ (.head _)) rfl (fun tb => ?_)
 refine GM.one 6 rfl (by kernel_rfl) ?_
 refine GMB.v (V.cvBS (l := [c]) (T := 5) (wf := true) Try.underlying68 Try.underlying5 Try.underlying9 rfl (.head _) (by simp)) (fun w1 h1 => h1.has ⟨nb, true, .row (nodeR tp idx wl nt pr (.slice ad kids.length cap) (.slice ad2 l2 c2) f0) 107 (0, 0)⟩ (.tail _ (.head _))) rfl ?_
 refine GM.p 7 rfl (by kernel_rfl) (by kernel_rfl) (fun w1 h1 => h1.has ⟨nb, true, .row (nodeR tp idx wl nt pr (.slice ad kids.length cap) (.slice ad2 l2 c2) f0) 107 (0, 0)⟩ (by first | exact .head _ | exact .tail _ (.head _))) (fun _ => V.cat rfl rfl (by simp; omega)) rfl ?_
 refine GM.p 8 rfl (by kernel_rfl) (by kernel_rfl) (fun w1 h1 => h1.has ⟨nb, true, .row (nodeR tp idx wl nt pr (.slice ad kids.length cap) (.slice ad2 l2 c2) f0) 107 (0, 0)⟩ (by first | exact .head _ | exact .tail _ (.head _))) (fun _ => V.nc rfl) rfl ?_
 refine GM.p 9 rfl (by kernel_rfl) (by kernel_rfl) (fun w1 h1 => h1.has ⟨nb, true, .row (nodeR tp idx wl nt pr (.slice ad kids.length cap) (.slice ad2 l2 c2) f0) 107 (0, 0)⟩ (by first | exact .head _ | exact .tail _ (.head _))) (fun _ => V.fa F107_1 rfl) rfl ?_
 refine GM.tl (by kernel_rfl) ?_
 refine G.st (b := nb) (off := 0 + 1) (l := nodeR tp idx wl nt pr (.slice ad kids.length cap) (.slice ad2 l2 c2) f0) (T := 107) (fz := (0, 0)) (v := S (idx ++ [c])) Try.sizeOf9 rfl rfl rfl (.s .z) rfl rfl ?_
 refine G.nil ?_
 refine GC.seq ?_
 refine GC.turn (H' := ⟨nb, true, .row (nodeR tp (idx ++ [c]) wl nt pr (.slice ad kids.length cap) (.slice ad2 l2 c2) f0) 107 (0, 0)⟩ :: (Hs ++ X)) (fun w1 h1 => h1.sub (List.sublist_cons_self _ _)) ?_
 refine GC.reg ?_
 refine G.m1 ?_
 refine G.v (V.bd (vs := [(7, S full)]) rfl (fun w1 => bd_new _ w1)) rfl ?_
 refine G.bx (l := nodeR [] [] false 0 0 (.slice none 0 0) (.slice none 0 0) full) rfl (by simp [cells_agg, nodeR]) rfl (fun cb hcb => ?_)
 refine G.m2 ?_
 refine G.nil ?_
 refine GC.seq ?_
 refine GC.reg ?_
 refine G.m1 ?_
 refine G.m1 ?_
 rw [← hkl2] at hs
 refine G.callL (H1 := ⟨nb, true, .row (nodeR tp (idx ++ [c]) wl nt pr (.slice ad kids.length cap) (.slice ad2 l2 c2) f0) 107 (0, 0)⟩ :: Hs) (Hk := ⟨cb, true, .row (nodeR [] [] false 0 0 (.slice none 0 0) (.slice none 0 0) full) 107 (0, 0)⟩ :: X) (fun v H1' => v = .tuple #[] ∧ ∃ kv' Hs', Own 89 1 kv' (bs.length + 1) ((addB wl bs cb).map (Pt · 0)) Hs' ∧ H1' = ⟨nb, true, .row (nodeR tp (idx ++ [c]) wl nt pr kv' (.slice ad2 l2 c2) f0) 107 (0, 0)⟩ :: Hs') (List.perm_middle (l₁ := ⟨nb, true, .row (nodeR tp (idx ++ [c]) wl nt pr (.slice ad kids.length cap) (.slice ad2 l2 c2) f0) 107 (0, 0)⟩ :: Hs)).symm (fun e0 he0 => ?_) Try.call82 rfl rfl (fun w1 hw1 _ => ?_) ?_
 ·rcases List.mem_cons.1 he0 with rfl | he0
  ·rfl
  ·exact hs.w e0 he0
 ·refine (f82_any w1 _ nb cb tp (idx ++ [c]) wl nt pr (.slice ad2 l2 c2) f0 (.slice ad bs.length cap) bs Hs (by omega) hs (by rw [hkl2]; exact hw1)).mono fun e w' ⟨h1, kv', Hs', h2, h3⟩ => ⟨_, _, h1, fun e0 he0 => ?_, h3, rfl, kv', Hs', h2, rfl⟩
  rcases List.mem_cons.1 he0 with rfl | he0
  ·rfl
  ·exact h2.w e0 he0
 rintro v H1' ⟨rfl, kv2, Hs2, hs2, rfl⟩
 obtain ⟨Hk2, hk2, hp2⟩ := hk.add (wild := wl) (HT.mk (path := []) (idx := []) (wild := false) (nt := 0) (pr := 0) (h := none) (full := full) (nb := cb) Own.nil HV.nil HTs.nil)
 have hal := addKid_len wl kids (.node () [] [] false 0 0 none full [])
 rw [hkl2, ← hal] at hs2
 refine G.turn (H' := ⟨nb, true, .row (nodeR tp (idx ++ [c]) wl nt pr kv2 (.slice ad2 l2 c2) f0) 107 (0, 0)⟩ :: (Hs2 ++ (Hk2 ++ (Hh ++ (⟨hb, true, .row [I (num : Int)] 3 (0, 0)⟩ :: Hr))))) (fun w1 h1 => h1.perm ?_) ?_
 ·rw [hX]
  have e1 : Hk2.Perm (⟨cb, true, .row (nodeR [] [] false 0 0 (.slice none 0 0) (.slice none 0 0) full) 107 (0, 0)⟩ :: Hk) := by simpa using hp2
  have p1 := perm_idx [[⟨nb, true, .row (nodeR tp (idx ++ [c]) wl nt pr kv2 (.slice ad2 l2 c2) f0) 107 (0, 0)⟩], Hs2, [⟨cb, true, .row (nodeR [] [] false 0 0 (.slice none 0 0) (.slice none 0 0) full) 107 (0, 0)⟩], Hh, Hk, [⟨hb, true, .row [I (num : Int)] 3 (0, 0)⟩], Hr] [0, 1, 2, 3, 4, 5, 6] [0, 1, 2, 4, 3, 5, 6] (by decide)
  refine List.Perm.trans (l₂ := ⟨nb, true, .row (nodeR tp (idx ++ [c]) wl nt pr kv2 (.slice ad2 l2 c2) f0) 107 (0, 0)⟩ :: (Hs2 ++ ((⟨cb, true, .row (nodeR [] [] false 0 0 (.slice none 0 0) (.slice none 0 0) full) 107 (0, 0)⟩ :: Hk) ++ (Hh ++ (⟨hb, true, .row [I (num : Int)] 3 (0, 0)⟩ :: Hr))))) (by simpa using p1) ?_
  exact ((e1.symm.append_right _).append_left Hs2).cons _
 refine G.nil ?_
 refine GC.seq ?_
 refine GC.reg ?_
 refine G.m1 ?_
 refine G.m1 ?_
 refine G.v (V.nc rfl) rfl ?_
 refine G.v (V.fa F107_1 rfl) rfl ?_
 refine G.v (V.ld (b := nb) (off := 0 + 1) (wf := true) (l := nodeR tp (idx ++ [c]) wl nt pr kv2 (.slice ad2 l2 c2) f0) (T := 107) (fz := (0, 0)) (v := S (idx ++ [c])) Try.isAgg9 rfl (.head _) rfl) rfl ?_
 refine G.v (V.lenS Try.underlying9 rfl) rfl ?_
 refine G.v (V.subI (r := ((idx.length : Nat) : Int)) rfl rfl (by simp) (by omega) (by omega)) rfl ?_
 generalize hKs : addKid wl kids (.node () [] [] false 0 0 none full []) = ks at *
 have hksl : idx.length < ks.length := by omega
 refine G.callL (H1 := ⟨nb, true, .row (nodeR tp (idx ++ [c]) wl nt pr kv2 (.slice ad2 l2 c2) f0) 107 (0, 0)⟩ :: (Hs2 ++ Hk2)) (Hk := Hh ++ (⟨hb, true, .row [I (num : Int)] 3 (0, 0)⟩ :: Hr)) (fun v H1' => ∃ Hs' Hk', Own 89 1 kv2 ks.length ((moveTo (addB wl bs cb) idx.length (bump (idx ++ [c]) ks idx.length).2.2).map (Pt · 0)) Hs' ∧ HTs (bump (idx ++ [c]) ks idx.length).2.1 (moveTo (addB wl bs cb) idx.length (bump (idx ++ [c]) ks idx.length).2.2) Hk' ∧ H1' = ⟨nb, true, .row (nodeR tp (bump (idx ++ [c]) ks idx.length).1 wl nt pr kv2 (.slice ad2 l2 c2) f0) 107 (0, 0)⟩ :: (Hs' ++ Hk')) ?_ (fun e0 he0 => ?_) Try.call81 rfl rfl (fun w1 hw1 _ => ?_) ?_
 ·have p1 := perm_idx [[⟨nb, true, .row (nodeR tp (idx ++ [c]) wl nt pr kv2 (.slice ad2 l2 c2) f0) 107 (0, 0)⟩], Hs2, Hk2, Hh, [⟨hb, true, .row [I (num : Int)] 3 (0, 0)⟩], Hr] [0, 1, 2, 3, 4, 5] [0, 1, 2, 3, 4, 5] (by decide)
  simp
 ·rcases List.mem_cons.1 he0 with rfl | he0
  ·rfl
  ·rcases List.mem_append.1 he0 with he0 | he0
   ·exact hs2.w e0 he0
   ·exact hk2.w e0 he0
 ·refine (f81_any w1 _ nb idx.length tp (idx ++ [c]) wl nt pr (.slice ad2 l2 c2) f0 kv2 ks (addB wl bs cb) Hs2 Hk2 hksl (by simp) (by simp; omega) (by omega) hs2 hk2 hw1).mono fun e w' ⟨h1, Hs', Hk', h2, h3, h4⟩ => ⟨_, _, h1, fun e0 he0 => ?_, h4, Hs', Hk', h2, h3, rfl⟩
  rcases List.mem_cons.1 he0 with rfl | he0
  ·rfl
  ·rcases List.mem_append.1 he0 with he0 | he0
   ·exact h2.w e0 he0
   ·exact h3.w e0 he0
 rintro v H1' ⟨Hs3, Hk3, hs3, hk3, rfl⟩
 have hnpq := bump_np (idx ++ [c]) ks idx.length
 have hbl := bump_len (idx ++ [c]) ks idx.length hksl
 generalize hB : bump (idx ++ [c]) ks idx.length = B at *
 obtain ⟨cb2, C1, C2, hcb2, hkc, hperm, hback⟩ := hk3.foc hkj
 have hcc : cb2 = cb := by
  rw [moveTo_get _ hnpq (by rw [addB_len, hkl2]; omega), if_neg (by omega), if_pos rfl, addB_at (by rw [hkl2]; exact hlen)] at hcb2
  exact (Option.some.inj hcb2).symm
 subst hcc
 refine G.nil ?_
 refine GC.reg ?_
 refine G.m1 ?_
 refine G.m2 ?_
 refine G.nil ?_
 refine GC.turn (H' := C1 ++ (⟨hb, true, .row [I (num : Int)] 3 (0, 0)⟩ :: (⟨nb, true, .row (nodeR tp B.1 wl nt pr kv2 (.slice ad2 l2 c2) f0) 107 (0, 0)⟩ :: (Hs3 ++ (Hh ++ (C2 ++ Hr)))))) (fun w1 h1 => h1.perm ?_) ?_
 ·have p1 := perm_idx [[⟨nb, true, .row (nodeR tp B.1 wl nt pr kv2 (.slice ad2 l2 c2) f0) 107 (0, 0)⟩], Hs3, C1, C2, Hh, [⟨hb, true, .row [I (num : Int)] 3 (0, 0)⟩], Hr] [0, 1, 2, 3, 4, 5, 6] [2, 5, 0, 1, 4, 3, 6] (by decide)
  refine List.Perm.trans (((hperm.append_left Hs3).cons ⟨nb, true, .row (nodeR tp B.1 wl nt pr kv2 (.slice ad2 l2 c2) f0) 107 (0, 0)⟩).append_right (Hh ++ (⟨hb, true, .row [I (num : Int)] 3 (0, 0)⟩ :: Hr))) ?_
  simpa using p1
 refine go cb2 C1 _ _ hkc (fun k' Hk1' hk' => ?_) (.of rfl)
 obtain ⟨H2, hk4, hp4⟩ := hback k' Hk1' hk'
 refine ⟨_, HT.mk (by rw [List.length_set, hbl]; exact hs3) hh hk4, ?_⟩
 have p1 := perm_idx [Hk1', [⟨nb, true, .row (nodeR tp B.1 wl nt pr kv2 (.slice ad2 l2 c2) f0) 107 (0, 0)⟩], Hs3, Hh, C2, Hr] [0, 1, 2, 3, 4, 5] [1, 2, 3, 0, 4, 5] (by decide)
 refine List.Perm.trans (l₂ := ⟨nb, true, .row (nodeR tp B.1 wl nt pr kv2 (.slice ad2 l2 c2) f0) 107 (0, 0)⟩ :: (Hs3 ++ (Hh ++ ((Hk1' ++ C2) ++ Hr)))) (by simpa using p1) ?_
 have p2 := (((hp4.symm.append_right Hr).append_left Hh).append_left Hs3).cons ⟨nb, true, .row (nodeR tp B.1 wl nt pr kv2 (.slice ad2 l2 c2) f0) 107 (0, 0)⟩
 simpa using p2
theorem f72_same {R : Ending → World → Prop} {w : World} {D : Nat → Prop} {nb hb num pfi : Nat} {p full tp idx : List UInt8} {wl : Bool} {nt pr : Nat} {h0 : Option Nat} {f0 : List UInt8} {kids : List T0} {bs : List Nat} {kv hv : Value} {Hs Hh Hk Hr : SH} {fr : SF} {c : UInt8}
  (hs : Own 89 1 kv kids.length (bs.map (Pt · 0)) Hs) (hh : HV h0 hv Hh) (hk : HTs kids bs Hk) (_hpl : p.length ≤ 100000) (_hfl : full.length ≤ 100000) (hsub : Sub [(0, Pt nb 0), (1, S p), (2, .slice (some ⟨hb, 0, none⟩) 1 1), (6, S full), (7, I (pfi : Int)), (10, .int .u8 (c.toNat : Int))] fr) (hc3 : c = 58 ∨ c = 42 ∨ nt = 3) (hwl : wl = false)
  (go : ∀ fr', Sub [(0, Pt nb 0), (1, S p), (2, .slice (some ⟨hb, 0, none⟩) 1 1), (6, S full)] fr' → GC Try.prog ⟨72, Try.f72, R, w, D⟩ 377 K72e fr' (⟨nb, true, .row (nodeR tp idx wl nt pr kv hv f0) 107 (0, 0)⟩ :: ((Hs ++ (Hh ++ Hk)) ++ (⟨hb, true, .row [I (num : Int)] 3 (0, 0)⟩ :: Hr)))) :
  GC Try.prog ⟨72, Try.f72, R, w, D⟩ 377 K72s fr (⟨nb, true, .row (nodeR tp idx wl nt pr kv hv f0) 107 (0, 0)⟩ :: ((Hs ++ (Hh ++ Hk)) ++ (⟨hb, true, .row [I (num : Int)] 3 (0, 0)⟩ :: Hr))) := by
 refine GC.weak hsub ?_
 clear hsub
 obtain ⟨X, hX⟩ : ∃ X, X = (Hh ++ Hk) ++ (⟨hb, true, .row [I (num : Int)] 3 (0, 0)⟩ :: Hr) := ⟨_, rfl⟩
 refine GC.turn (H' := ⟨nb, true, .row (nodeR tp idx wl nt pr kv hv f0) 107 (0, 0)⟩ :: (Hs ++ X)) (fun w1 h1 => by rw [hX, ← List.append_assoc]; exact h1) ?_
 have hkl2 := hk.len
 obtain ⟨ad, cap, rfl⟩ := hs.slice
 obtain ⟨ad2, l2, c2, rfl, hnn⟩ := hh.slice
 refine GC.seq ?_
 refine GC.seq ?_
 refine GC.join (fun fr' H' => Sub [(0, Pt nb 0), (1, S p), (2, .slice (some ⟨hb, 0, none⟩) 1 1), (6, S full), (7, I (pfi : Int)), (10, .int .u8 (c.toNat : Int)), (219, .bool false)] fr' ∧ H' = ⟨nb, true, .row (nodeR tp idx wl nt pr (.slice ad kids.length cap) (.slice ad2 l2 c2) f0) 107 (0, 0)⟩ :: (Hs ++ X)) (fun J29 => ?_) ?_
 ·refine GC.reg ?_
  refine G.m1 ?_
  refine G.v (V.neI rfl rfl) rfl ?_
  refine G.m1 ?_
  refine G.bc 209 rfl (fun h209 => ?_) (fun h209 => ?_)
  ·refine G.m5 ?_
   refine G.vg rfl rfl (V.neI rfl rfl) rfl ?_
   refine G.m3 ?_
   refine G.m1 ?_
   refine G.bc 213 rfl (fun h213 => ?_) (fun h213 => ?_)
   ·refine G.m5 ?_
    refine G.vg rfl rfl (V.nc rfl) rfl ?_
    refine G.vg rfl rfl (V.fa F107_3 rfl) rfl ?_
    refine G.vg rfl rfl (V.ld (b := nb) (off := 0 + 3) (wf := true) (l := nodeR tp idx wl nt pr (.slice ad kids.length cap) (.slice ad2 l2 c2) f0) (T := 107) (fz := (0, 0)) (v := .int .u8 (nt : Int)) Try.isAgg103 rfl (.head _) rfl) rfl ?_
    refine G.vg rfl rfl (V.neI rfl rfl) rfl ?_
    refine G.m3 ?_
    refine G.nil ?_
    refine J29 _ _ ⟨?_, rfl⟩
    have e : (!decide ((nt : Int) = 3)) = false := by
     rcases hc3 with rfl | rfl | rfl
     ·exact absurd h209 (by decide)
     ·exact absurd h213 (by decide)
     ·rfl
    rw [e]
    exact .of rfl
   ·refine G.s1 ?_
    refine G.s1 ?_
    refine G.s1 ?_
    refine G.s1 ?_
    refine G.s1 ?_
    refine G.m4 ?_
    refine G.nil ?_
    exact J29 _ _ ⟨.of rfl, rfl⟩
  ·refine G.s1 ?_
   refine G.s1 ?_
   refine G.m4 ?_
   refine G.m1 ?_
   refine G.s1 ?_
   refine G.s1 ?_
   refine G.s1 ?_
   refine G.s1 ?_
   refine G.s1 ?_
   refine G.m4 ?_
   refine G.nil ?_
   exact J29 _ _ ⟨.of rfl, rfl⟩
 rintro fr' H' ⟨hs29, rfl⟩
 refine GC.weak hs29 ?_
 clear hs29
 refine GC.condF rfl ?_
 refine GC.seq ?_
 refine GC.reg ?_
 refine G.m1 ?_
 refine G.v (V.nc rfl) rfl ?_
 refine G.v (V.fa F107_2 rfl) rfl ?_
 refine G.v (V.ld (b := nb) (off := 0 + 2) (wf := true) (l := nodeR tp idx wl nt pr (.slice ad kids.length cap) (.slice ad2 l2 c2) f0) (T := 107) (fz := (0, 0)) (v := .bool wl) Try.isAgg4 rfl (.head _) rfl) rfl ?_
 refine G.nil ?_
 refine GC.cond rfl (fun h248 => absurd h248 (by rw [hwl]; decide)) (fun h248 => ?_)
 refine GC.skip ?_
 refine GC.turn (H' := (⟨nb, true, .row (nodeR tp idx wl nt pr (.slice ad kids.length cap) (.slice ad2 l2 c2) f0) 107 (0, 0)⟩ :: ((Hs ++ (Hh ++ Hk)) ++ (⟨hb, true, .row [I (num : Int)] 3 (0, 0)⟩ :: Hr)))) (fun w1 h1 => ?_) (go _ (.of rfl))
 rw [List.append_assoc]
 rw [hX] at h1
 exact h1
theorem f72_ins {R : Ending → World → Prop} {w : World} {D : Nat → Prop} {hb num cb : Nat} {full : List UInt8} {fr : SF} {Hn1 Hr : SH} (hfl : full.length ≤ 100000) (g : Nat) (sl : Bool) (s : List Tok) (t : T0) (res : Option T0) (hok : Ok sl s) (h92 : ∀ c ∈ txt s, c ≠ 92) (hpl : (txt s).length ≤ 100000)
  (hkl : t.kids.length ≤ 90000) (htl : t.path.length ≤ 100000) (hkp : ∀ k ∈ t.kids, k.path.length ≤ 100000) (ht : HT t cb Hn1) (hres : insT g t (txt s) full num = some res) (hsub : Sub [(0, Pt cb 0), (1, S (txt s)), (2, .slice (some ⟨hb, 0, none⟩) 1 1), (6, S full)] fr)
  (fin : ∀ t', res = some t' → ∀ Hn' w', HT t' cb Hn' → HF w D (Hn' ++ Hr) w' → R (.returned (.tuple #[])) w') (pan : res = none → ∀ e w', onePanic e → HF w D [] w' → R e w') :
  GC Try.prog ⟨72, Try.f72, R, w, D⟩ 377 K72e fr (Hn1 ++ (⟨hb, true, .row [I (num : Int)] 3 (0, 0)⟩ :: Hr)) := by
 refine GC.weak hsub ?_
 clear hsub
 refine GC.seq ?_
 refine GC.reg ?_
 refine G.m1 ?_
 refine G.m1 ?_
 refine G.m1 ?_
 refine G.m1 ?_
 refine G.callE (H1 := Hn1 ++ [⟨hb, true, .row [I (num : Int)] 3 (0, 0)⟩]) (Hk := Hr) (fun v H1' => v = .tuple #[] ∧ ∃ t', res = some t' ∧ HT t' cb H1') (fun H1' => res = none) (by simp) (fun e0 he0 => ?_) Try.call79 rfl rfl (fun w1 hw1 => ?_) ?_ (fun H1' e w' h1 h2 h3 => pan h1 e w' h2 (h3.sub (List.nil_sublist _)))
 ·rcases List.mem_append.1 he0 with he0 | he0
  ·exact ht.w e0 he0
  ·rw [List.mem_singleton.1 he0]
 ·refine (f79_any w1 _ hfl g sl s t cb Hn1 [] res hok h92 hpl hkl htl hkp ht hres hw1).mono fun e w' h => ?_
  rcases h with ⟨t', Hn', h1, h2, h3, h4⟩ | ⟨h1, h2, h3⟩
  ·rw [List.append_nil] at h4
   exact ⟨Hn', h3.w, h4, .inl ⟨_, h2, rfl, t', h1, h3⟩⟩
  ·exact ⟨[], by simp, h3, .inr ⟨h2, h1⟩⟩
 rintro v H1' ⟨rfl, t', ht1, ht2⟩
 refine G.nil ?_
 exact GC.ret0 rfl fun w' hw' => fin t' ht1 H1' w' ht2 hw'
end Go.Proofs

/- addRoute: down the wildcard; its conflict. Printed by wip/mk_gu13.py. -/
set_option maxRecDepth 20000
namespace Go.Proofs
open Go Bw
open Gt
theorem f72_wdown {R : Ending → World → Prop} {w : World} {D : Nat → Prop} {nb hb num pfi : Nat} {p full tp idx : List UInt8} {wl : Bool} {nt pr : Nat} {h0 : Option Nat} {f0 : List UInt8} {kids : List T0} {bs : List Nat} {kv hv : Value} {Hs Hh Hk Hr : SH} {fr : SF} {c : UInt8} {k0 : T0}
  (hs : Own 89 1 kv kids.length (bs.map (Pt · 0)) Hs) (hh : HV h0 hv Hh) (hk : HTs kids bs Hk) (_hpl : p.length ≤ 100000) (_hfl : full.length ≤ 100000) (hsub : Sub [(0, Pt nb 0), (1, S p), (2, .slice (some ⟨hb, 0, none⟩) 1 1), (6, S full), (7, I (pfi : Int)), (10, .int .u8 (c.toNat : Int))] fr) (hc3 : c = 58 ∨ c = 42 ∨ nt = 3) (hwl : wl = true) (hkl9 : kids.length ≤ 90000) (hk0 : kids[kids.length - 1]? = some k0) (hk0l : k0.path.length ≤ 100000) (hcond : (k0.path.length ≤ p.length ∧ p.take k0.path.length = k0.path ∧ k0.nt ≠ 3 ∧ (p.length ≤ k0.path.length ∨ p[k0.path.length]? = some 47)))
  (go : ∀ cb Hk1 Hr' fr', HT k0.incr cb Hk1 → (∀ k' Hk1', HT k' cb Hk1' → ∃ Hn', HT (.node () tp idx wl nt pr h0 f0 (kids.set (kids.length - 1) k')) nb Hn' ∧ (Hk1' ++ Hr').Perm (Hn' ++ Hr)) → Sub [(0, Pt cb 0), (1, S p), (2, .slice (some ⟨hb, 0, none⟩) 1 1), (6, S full), (7, I (pfi : Int))] fr' → GC Try.prog ⟨72, Try.f72, R, w, D⟩ 377 K72 fr' (Hk1 ++ (⟨hb, true, .row [I (num : Int)] 3 (0, 0)⟩ :: Hr'))) :
  GC Try.prog ⟨72, Try.f72, R, w, D⟩ 377 K72s fr (⟨nb, true, .row (nodeR tp idx wl nt pr kv hv f0) 107 (0, 0)⟩ :: ((Hs ++ (Hh ++ Hk)) ++ (⟨hb, true, .row [I (num : Int)] 3 (0, 0)⟩ :: Hr))) := by
 refine GC.weak hsub ?_
 clear hsub
 obtain ⟨X, hX⟩ : ∃ X, X = (Hh ++ Hk) ++ (⟨hb, true, .row [I (num : Int)] 3 (0, 0)⟩ :: Hr) := ⟨_, rfl⟩
 refine GC.turn (H' := ⟨nb, true, .row (nodeR tp idx wl nt pr kv hv f0) 107 (0, 0)⟩ :: (Hs ++ X)) (fun w1 h1 => by rw [hX, ← List.append_assoc]; exact h1) ?_
 have hkl2 := hk.len
 obtain ⟨ad, cap, rfl⟩ := hs.slice
 obtain ⟨ad2, l2, c2, rfl, hnn⟩ := hh.slice
 refine GC.seq ?_
 refine GC.seq ?_
 refine GC.join (fun fr' H' => Sub [(0, Pt nb 0), (1, S p), (2, .slice (some ⟨hb, 0, none⟩) 1 1), (6, S full), (7, I (pfi : Int)), (10, .int .u8 (c.toNat : Int)), (219, .bool false)] fr' ∧ H' = ⟨nb, true, .row (nodeR tp idx wl nt pr (.slice ad kids.length cap) (.slice ad2 l2 c2) f0) 107 (0, 0)⟩ :: (Hs ++ X)) (fun J29 => ?_) ?_
 ·refine GC.reg ?_
  refine G.m1 ?_
  refine G.v (V.neI rfl rfl) rfl ?_
  refine G.m1 ?_
  refine G.bc 209 rfl (fun h209 => ?_) (fun h209 => ?_)
  ·refine G.m5 ?_
   refine G.vg rfl rfl (V.neI rfl rfl) rfl ?_
   refine G.m3 ?_
   refine G.m1 ?_
   refine G.bc 213 rfl (fun h213 => ?_) (fun h213 => ?_)
   ·refine G.m5 ?_
    refine G.vg rfl rfl (V.nc rfl) rfl ?_
    refine G.vg rfl rfl (V.fa F107_3 rfl) rfl ?_
    refine G.vg rfl rfl (V.ld (b := nb) (off := 0 + 3) (wf := true) (l := nodeR tp idx wl nt pr (.slice ad kids.length cap) (.slice ad2 l2 c2) f0) (T := 107) (fz := (0, 0)) (v := .int .u8 (nt : Int)) Try.isAgg103 rfl (.head _) rfl) rfl ?_
    refine G.vg rfl rfl (V.neI rfl rfl) rfl ?_
    refine G.m3 ?_
    refine G.nil ?_
    refine J29 _ _ ⟨?_, rfl⟩
    have e : (!decide ((nt : Int) = 3)) = false := by
     rcases hc3 with rfl | rfl | rfl
     ·exact absurd h209 (by decide)
     ·exact absurd h213 (by decide)
     ·rfl
    rw [e]
    exact .of rfl
   ·refine G.s1 ?_
    refine G.s1 ?_
    refine G.s1 ?_
    refine G.s1 ?_
    refine G.s1 ?_
    refine G.m4 ?_
    refine G.nil ?_
    exact J29 _ _ ⟨.of rfl, rfl⟩
  ·refine G.s1 ?_
   refine G.s1 ?_
   refine G.m4 ?_
   refine G.m1 ?_
   refine G.s1 ?_
   refine G.s1 ?_
   refine G.s1 ?_
   refine G.s1 ?_
   refine G.s1 ?_
   refine G.m4 ?_
   refine G.nil ?_
   exact J29 _ _ ⟨.of rfl, rfl⟩
 rintro fr' H' ⟨hs29, rfl⟩
 refine GC.weak hs29 ?_
 clear hs29
 refine GC.condF rfl ?_
 refine GC.seq ?_
 refine GC.reg ?_
 refine G.m1 ?_
 refine G.v (V.nc rfl) rfl ?_
 refine G.v (V.fa F107_2 rfl) rfl ?_
 refine G.v (V.ld (b := nb) (off := 0 + 2) (wf := true) (l := nodeR tp idx wl nt pr (.slice ad kids.length cap) (.slice ad2 l2 c2) f0) (T := 107) (fz := (0, 0)) (v := .bool wl) Try.isAgg4 rfl (.head _) rfl) rfl ?_
 refine G.nil ?_
 refine GC.cond rfl (fun h248 => ?_) (fun h248 => absurd hwl (by rw [h248]; decide))
 refine GC.seq ?_
 have hkp := (List.getElem?_eq_some_iff.1 hk0).1
 obtain ⟨rb, cap2, spare, e1, rfl⟩ := hs.at (i := kids.length - 1) hkp
 cases e1
 obtain ⟨cb, C1, C2, hcb, hkc, hperm, hback⟩ := hk.foc hk0
 cases hkc with
 | @mk kpath kidx kwild knt kpr ko kfull kkids _ kbs kkv khv Ks Kh Kk ks kh kk =>
 simp only [Tr.path, Tr.nt] at hcond hk0l
 refine GC.regQ mixed (by kernel_rfl) ?_
 refine GQ.v (V.mv rfl) rfl ?_
 refine GQ.v (V.nc rfl) rfl ?_
 refine GQ.v (V.fa F107_5 rfl) rfl ?_
 refine GQ.v (V.ld (b := nb) (off := 0 + 5) (wf := true) (l := nodeR tp idx wl nt pr (.slice (some ⟨rb, 0, none⟩) kids.length cap) (.slice ad2 l2 c2) f0) (T := 107) (fz := (0, 0)) (v := (.slice (some ⟨rb, 0, none⟩) kids.length cap)) Try.isAgg105 rfl (.head _) rfl) rfl ?_
 refine GQ.v (V.mv rfl) rfl ?_
 refine GQ.v (V.nc rfl) rfl ?_
 refine GQ.v (V.fa F107_5 rfl) rfl ?_
 refine GQ.v (V.ld (b := nb) (off := 0 + 5) (wf := true) (l := nodeR tp idx wl nt pr (.slice (some ⟨rb, 0, none⟩) kids.length cap) (.slice ad2 l2 c2) f0) (T := 107) (fz := (0, 0)) (v := (.slice (some ⟨rb, 0, none⟩) kids.length cap)) Try.isAgg105 rfl (.head _) rfl) rfl ?_
 refine GQ.v (V.lenL Try.underlying105 rfl) rfl ?_
 refine GQ.v (V.subI (r := ((kids.length - 1 : Nat) : Int)) rfl rfl (by omega) (by omega) (by omega)) rfl ?_
 refine GQ.v (V.ia (i := kids.length - 1) Try.underlying105 Try.sizeOf89 rfl rfl hkp) rfl ?_
 refine GQ.v (V.ld (b := rb) (off := 0 + (kids.length - 1) * 1) (wf := true) (l := bs.map (Pt · 0) ++ spare) (T := 89) (fz := (0, 0)) (v := Pt cb 0) Try.isAgg89 rfl (.tail _ (.head _)) (by rw [nth_eq, Nat.zero_add, Nat.mul_one, List.getElem?_append_left (by rw [List.length_map, hkl2]; exact hkp), List.getElem?_map, hcb]; rfl)) rfl ?_
 refine GQ.v (V.asg rfl) rfl ?_
 refine GQ.nil ?_
 refine GC.seq ?_
 refine GC.turn (H' := ⟨cb, true, .row (nodeR kpath kidx kwild knt kpr kkv khv kfull) 107 (0, 0)⟩ :: ((Ks ++ (Kh ++ Kk)) ++ (⟨nb, true, .row (nodeR tp idx wl nt pr (.slice (some ⟨rb, 0, none⟩) kids.length cap) (.slice ad2 l2 c2) f0) 107 (0, 0)⟩ :: ([⟨rb, true, .row (bs.map (Pt · 0) ++ spare) 89 (0, 0)⟩] ++ (C2 ++ (Hh ++ (⟨hb, true, .row [I (num : Int)] 3 (0, 0)⟩ :: Hr))))))) (fun w1 h1 => h1.perm ?_) ?_
 ·rw [hX]
  have p1 := perm_idx [[⟨nb, true, .row (nodeR tp idx wl nt pr (.slice (some ⟨rb, 0, none⟩) kids.length cap) (.slice ad2 l2 c2) f0) 107 (0, 0)⟩], [⟨rb, true, .row (bs.map (Pt · 0) ++ spare) 89 (0, 0)⟩], [⟨cb, true, .row (nodeR kpath kidx kwild knt kpr kkv khv kfull) 107 (0, 0)⟩], (Ks ++ (Kh ++ Kk)), C2, Hh, [⟨hb, true, .row [I (num : Int)] 3 (0, 0)⟩], Hr] [0, 1, 2, 3, 4, 5, 6, 7] [2, 3, 0, 1, 4, 5, 6, 7] (by decide)
  refine List.Perm.trans (l₂ := ⟨nb, true, .row (nodeR tp idx wl nt pr (.slice (some ⟨rb, 0, none⟩) kids.length cap) (.slice ad2 l2 c2) f0) 107 (0, 0)⟩ :: ([⟨rb, true, .row (bs.map (Pt · 0) ++ spare) 89 (0, 0)⟩] ++ (((⟨cb, true, .row (nodeR kpath kidx kwild knt kpr kkv khv kfull) 107 (0, 0)⟩ :: (Ks ++ (Kh ++ Kk))) ++ C2) ++ (Hh ++ (⟨hb, true, .row [I (num : Int)] 3 (0, 0)⟩ :: Hr))))) ?_ (by simpa using p1)
  have p3 := perm_idx [[⟨nb, true, .row (nodeR tp idx wl nt pr (.slice (some ⟨rb, 0, none⟩) kids.length cap) (.slice ad2 l2 c2) f0) 107 (0, 0)⟩], [⟨rb, true, .row (bs.map (Pt · 0) ++ spare) 89 (0, 0)⟩], Hh, Hk, [⟨hb, true, .row [I (num : Int)] 3 (0, 0)⟩], Hr] [0, 1, 2, 3, 4, 5] [0, 1, 3, 2, 4, 5] (by decide)
  refine List.Perm.trans (l₂ := ⟨nb, true, .row (nodeR tp idx wl nt pr (.slice (some ⟨rb, 0, none⟩) kids.length cap) (.slice ad2 l2 c2) f0) 107 (0, 0)⟩ :: ([⟨rb, true, .row (bs.map (Pt · 0) ++ spare) 89 (0, 0)⟩] ++ (Hk ++ (Hh ++ (⟨hb, true, .row [I (num : Int)] 3 (0, 0)⟩ :: Hr))))) (by simpa using p3) ?_
  exact ((hperm.append_right _).append_left _).cons _
 refine GC.reg ?_
 refine G.m1 ?_
 refine G.v (V.nc rfl) rfl ?_
 refine G.v (V.fa F107_4 rfl) rfl ?_
 refine G.v (V.ld (b := cb) (off := 0 + 4) (wf := true) (l := nodeR kpath kidx kwild knt kpr kkv khv kfull) (T := 107) (fz := (0, 0)) (v := .int .u32 ((kpr % 4294967296 : Nat) : Int)) Try.isAgg104 rfl (.head _) rfl) rfl ?_
 refine G.v (V.add rfl rfl) rfl ?_
 rw [wrapU32]
 refine G.v (V.nc rfl) rfl ?_
 refine G.v (V.fa F107_4 rfl) rfl ?_
 refine G.st (b := cb) (off := 0 + 4) (l := nodeR kpath kidx kwild knt kpr kkv khv kfull) (T := 107) (fz := (0, 0)) (v := .int .u32 (((kpr + 1) % 4294967296 : Nat) : Int)) Try.sizeOf104 rfl rfl rfl (.z) rfl rfl ?_
 refine G.nil ?_
 refine GC.seq ?_
 refine GC.seq ?_
 refine GC.turn (H' := ⟨cb, true, .row (nodeR kpath kidx kwild knt (kpr + 1) kkv khv kfull) 107 (0, 0)⟩ :: ((Ks ++ (Kh ++ Kk)) ++ (⟨nb, true, .row (nodeR tp idx wl nt pr (.slice (some ⟨rb, 0, none⟩) kids.length cap) (.slice ad2 l2 c2) f0) 107 (0, 0)⟩ :: ([⟨rb, true, .row (bs.map (Pt · 0) ++ spare) 89 (0, 0)⟩] ++ (C2 ++ (Hh ++ (⟨hb, true, .row [I (num : Int)] 3 (0, 0)⟩ :: Hr))))))) (fun w1 h1 => ?_) ?_
 ·exact h1
 refine GC.join (fun fr' H' => Sub [(0, Pt cb 0), (1, S p), (2, .slice (some ⟨hb, 0, none⟩) 1 1), (6, S full), (7, I (pfi : Int)), (10, .int .u8 (c.toNat : Int)), (316, .bool true)] fr' ∧ H' = ⟨cb, true, .row (nodeR kpath kidx kwild knt (kpr + 1) kkv khv kfull) 107 (0, 0)⟩ :: ((Ks ++ (Kh ++ Kk)) ++ (⟨nb, true, .row (nodeR tp idx wl nt pr (.slice (some ⟨rb, 0, none⟩) kids.length cap) (.slice ad2 l2 c2) f0) 107 (0, 0)⟩ :: ([⟨rb, true, .row (bs.map (Pt · 0) ++ spare) 89 (0, 0)⟩] ++ (C2 ++ (Hh ++ (⟨hb, true, .row [I (num : Int)] 3 (0, 0)⟩ :: Hr))))))) (fun J38 => ?_) ?_
 ·refine GC.regQ mixed (by kernel_rfl) ?_
  refine GQ.v (V.mv rfl) rfl ?_
  refine GQ.v (V.lenS Try.underlying9 rfl) rfl ?_
  refine GQ.v (V.mv rfl) rfl ?_
  refine GQ.v (V.nc rfl) rfl ?_
  refine GQ.v (V.fa F107_0 rfl) rfl ?_
  refine GQ.v (V.ld (b := cb) (off := 0 + 0) (wf := true) (l := nodeR kpath kidx kwild knt (kpr + 1) kkv khv kfull) (T := 107) (fz := (0, 0)) (v := S kpath) Try.isAgg9 rfl (.head _) rfl) rfl ?_
  refine GQ.v (V.lenS Try.underlying9 rfl) rfl ?_
  refine GQ.v (V.ge rfl rfl) rfl ?_
  refine GQ.v (V.mv rfl) rfl ?_
  refine GQ.bc 276 rfl (fun h276 => ?_) (fun h276 => ?_)
  ·refine GQ.vg rfl rfl (V.mv rfl) rfl ?_
   refine GQ.vg rfl rfl (V.nc rfl) rfl ?_
   refine GQ.vg rfl rfl (V.fa F107_0 rfl) rfl ?_
   refine GQ.vg rfl rfl (V.ld (b := cb) (off := 0 + 0) (wf := true) (l := nodeR kpath kidx kwild knt (kpr + 1) kkv khv kfull) (T := 107) (fz := (0, 0)) (v := S kpath) Try.isAgg9 rfl (.head _) rfl) rfl ?_
   refine GQ.vg rfl rfl (V.mv rfl) rfl ?_
   refine GQ.vg rfl rfl (V.mv rfl) rfl ?_
   refine GQ.vg rfl rfl (V.nc rfl) rfl ?_
   refine GQ.vg rfl rfl (V.fa F107_0 rfl) rfl ?_
   refine GQ.vg rfl rfl (V.ld (b := cb) (off := 0 + 0) (wf := true) (l := nodeR kpath kidx kwild knt (kpr + 1) kkv khv kfull) (T := 107) (fz := (0, 0)) (v := S kpath) Try.isAgg9 rfl (.head _) rfl) rfl ?_
   refine GQ.vg rfl rfl (V.lenS Try.underlying9 rfl) rfl ?_
   refine GQ.vg rfl rfl (V.slH (j := kpath.length) Try.underlying9 rfl rfl (by have := of_decide_eq_true h276; omega)) rfl ?_
   refine GQ.vg rfl rfl (V.eqS rfl rfl) rfl ?_
   refine GQ.v (V.pickT rfl rfl) rfl ?_
   refine GQ.v (V.mv rfl) rfl ?_
   refine GQ.bc 290 rfl (fun h290 => ?_) (fun h290 => ?_)
   ·refine GQ.vg rfl rfl (V.mv rfl) rfl ?_
    refine GQ.vg rfl rfl (V.nc rfl) rfl ?_
    refine GQ.vg rfl rfl (V.fa F107_3 rfl) rfl ?_
    refine GQ.vg rfl rfl (V.ld (b := cb) (off := 0 + 3) (wf := true) (l := nodeR kpath kidx kwild knt (kpr + 1) kkv khv kfull) (T := 107) (fz := (0, 0)) (v := .int .u8 (knt : Int)) Try.isAgg103 rfl (.head _) rfl) rfl ?_
    refine GQ.vg rfl rfl (V.neI rfl rfl) rfl ?_
    refine GQ.v (V.pickT rfl rfl) rfl ?_
    refine GQ.v (V.mv rfl) rfl ?_
    refine GQ.bc 297 rfl (fun h297 => ?_) (fun h297 => ?_)
    ·refine GQ.vg rfl rfl (V.mv rfl) rfl ?_
     refine GQ.vg rfl rfl (V.nc rfl) rfl ?_
     refine GQ.vg rfl rfl (V.fa F107_0 rfl) rfl ?_
     refine GQ.vg rfl rfl (V.ld (b := cb) (off := 0 + 0) (wf := true) (l := nodeR kpath kidx kwild knt (kpr + 1) kkv khv kfull) (T := 107) (fz := (0, 0)) (v := S kpath) Try.isAgg9 rfl (.head _) rfl) rfl ?_
     refine GQ.vg rfl rfl (V.lenS Try.underlying9 rfl) rfl ?_
     refine GQ.vg rfl rfl (V.mv rfl) rfl ?_
     refine GQ.vg rfl rfl (V.lenS Try.underlying9 rfl) rfl ?_
     refine GQ.vg rfl rfl (V.ge rfl rfl) rfl ?_
     refine GQ.vg rfl rfl (V.mv rfl) rfl ?_
     refine GQ.bc 306 rfl (fun h306 => ?_) (fun h306 => ?_)
     ·refine GQ.sg rfl rfl rfl rfl rfl rfl ?_
      refine GQ.sg rfl rfl rfl rfl rfl rfl ?_
      refine GQ.sg rfl rfl rfl rfl rfl rfl ?_
      refine GQ.sg rfl rfl rfl rfl rfl rfl ?_
      refine GQ.sg rfl rfl rfl rfl rfl rfl ?_
      refine GQ.sg rfl rfl rfl rfl rfl rfl ?_
      refine GQ.sg rfl rfl rfl rfl rfl rfl ?_
      refine GQ.sg rfl rfl rfl rfl rfl rfl ?_
      refine GQ.vg rfl rfl (V.pickT rfl rfl) rfl ?_
      refine GQ.v (V.pickT rfl rfl) rfl ?_
      refine GQ.nil ?_
      exact J38 _ _ ⟨.of rfl, rfl⟩
     ·refine GQ.vg rfl rfl (V.mv rfl) rfl ?_
      refine GQ.vg rfl rfl (V.mv rfl) rfl ?_
      refine GQ.vg rfl rfl (V.nc rfl) rfl ?_
      refine GQ.vg rfl rfl (V.fa F107_0 rfl) rfl ?_
      refine GQ.vg rfl rfl (V.ld (b := cb) (off := 0 + 0) (wf := true) (l := nodeR kpath kidx kwild knt (kpr + 1) kkv khv kfull) (T := 107) (fz := (0, 0)) (v := S kpath) Try.isAgg9 rfl (.head _) rfl) rfl ?_
      refine GQ.vg rfl rfl (V.lenS Try.underlying9 rfl) rfl ?_
      obtain ⟨y, hy⟩ : ∃ y, p[kpath.length]? = some y := ⟨_, List.getElem?_eq_getElem (by have := of_decide_eq_false h306; omega)⟩
      refine GQ.vg rfl rfl (V.idx (i := kpath.length) (b := y) Try.underlying9 rfl rfl hy) rfl ?_
      refine GQ.vg rfl rfl (V.eqI rfl rfl) rfl ?_
      refine GQ.vg rfl rfl (V.pickF rfl rfl) rfl ?_
      refine GQ.v (V.pickT rfl rfl) rfl ?_
      refine GQ.nil ?_
      have e : decide ((y.toNat : Int) = 47) = true := by
       have h1 := of_decide_eq_false h306
       rcases hcond.2.2.2 with h | h
       ·omega
       ·rw [hy] at h; rw [Option.some.inj h]; rfl
      refine J38 _ _ ⟨?_, rfl⟩
      rw [e]
      exact .of rfl
    ·refine GQ.sg rfl rfl rfl rfl rfl rfl ?_
     refine GQ.sg rfl rfl rfl rfl rfl rfl ?_
     refine GQ.sg rfl rfl rfl rfl rfl rfl ?_
     refine GQ.sg rfl rfl rfl rfl rfl rfl ?_
     refine GQ.sg rfl rfl rfl rfl rfl rfl ?_
     refine GQ.sg rfl rfl rfl rfl rfl rfl ?_
     refine GQ.sg rfl rfl rfl rfl rfl rfl ?_
     refine GQ.sg rfl rfl rfl rfl rfl rfl ?_
     refine GQ.sg rfl rfl rfl rfl rfl rfl ?_
     refine GQ.sgU rfl rfl rfl rfl rfl ?_
     refine GQ.sgU rfl rfl rfl rfl rfl ?_
     refine GQ.sgU rfl rfl rfl rfl rfl ?_
     refine GQ.sgU rfl rfl rfl rfl rfl ?_
     refine GQ.sgU rfl rfl rfl rfl rfl ?_
     refine GQ.sgU rfl rfl rfl rfl rfl ?_
     refine GQ.sgU rfl rfl rfl rfl rfl ?_
     refine GQ.sgU rfl rfl rfl rfl rfl ?_
     refine GQ.sg rfl rfl rfl rfl rfl rfl ?_
     refine GQ.v (V.pickF rfl rfl) rfl ?_
     refine GQ.nil ?_
     exact absurd h297 (by have := hcond.2.2.1; simp; omega)
   ·refine GQ.sg rfl rfl rfl rfl rfl rfl ?_
    refine GQ.sg rfl rfl rfl rfl rfl rfl ?_
    refine GQ.sg rfl rfl rfl rfl rfl rfl ?_
    refine GQ.sg rfl rfl rfl rfl rfl rfl ?_
    refine GQ.sg rfl rfl rfl rfl rfl rfl ?_
    refine GQ.v (V.pickF rfl rfl) rfl ?_
    refine GQ.v (V.mv rfl) rfl ?_
    refine GQ.sg rfl rfl rfl rfl rfl rfl ?_
    refine GQ.sg rfl rfl rfl rfl rfl rfl ?_
    refine GQ.sg rfl rfl rfl rfl rfl rfl ?_
    refine GQ.sg rfl rfl rfl rfl rfl rfl ?_
    refine GQ.sg rfl rfl rfl rfl rfl rfl ?_
    refine GQ.sg rfl rfl rfl rfl rfl rfl ?_
    refine GQ.sg rfl rfl rfl rfl rfl rfl ?_
    refine GQ.sg rfl rfl rfl rfl rfl rfl ?_
    refine GQ.sg rfl rfl rfl rfl rfl rfl ?_
    refine GQ.sgU rfl rfl rfl rfl rfl ?_
    refine GQ.sgU rfl rfl rfl rfl rfl ?_
    refine GQ.sgU rfl rfl rfl rfl rfl ?_
    refine GQ.sgU rfl rfl rfl rfl rfl ?_
    refine GQ.sgU rfl rfl rfl rfl rfl ?_
    refine GQ.sgU rfl rfl rfl rfl rfl ?_
    refine GQ.sgU rfl rfl rfl rfl rfl ?_
    refine GQ.sgU rfl rfl rfl rfl rfl ?_
    refine GQ.sg rfl rfl rfl rfl rfl rfl ?_
    refine GQ.v (V.pickF rfl rfl) rfl ?_
    refine GQ.nil ?_
    exact absurd hcond.2.1.symm (of_decide_eq_false h290)
  ·refine GQ.sg rfl rfl rfl rfl rfl rfl ?_
   refine GQ.sg rfl rfl rfl rfl rfl rfl ?_
   refine GQ.sg rfl rfl rfl rfl rfl rfl ?_
   refine GQ.sg rfl rfl rfl rfl rfl rfl ?_
   refine GQ.sg rfl rfl rfl rfl rfl rfl ?_
   refine GQ.sg rfl rfl rfl rfl rfl rfl ?_
   refine GQ.sg rfl rfl rfl rfl rfl rfl ?_
   refine GQ.sg rfl rfl rfl rfl rfl rfl ?_
   refine GQ.sg rfl rfl rfl rfl rfl rfl ?_
   refine GQ.sg rfl rfl rfl rfl rfl rfl ?_
   refine GQ.sg rfl rfl rfl rfl rfl rfl ?_
   refine GQ.sg rfl rfl rfl rfl rfl rfl ?_
   refine GQ.v (V.pickF rfl rfl) rfl ?_
   refine GQ.v (V.mv rfl) rfl ?_
   refine GQ.sg rfl rfl rfl rfl rfl rfl ?_
   refine GQ.sg rfl rfl rfl rfl rfl rfl ?_
   refine GQ.sg rfl rfl rfl rfl rfl rfl ?_
   refine GQ.sg rfl rfl rfl rfl rfl rfl ?_
   refine GQ.sg rfl rfl rfl rfl rfl rfl ?_
   refine GQ.v (V.pickF rfl rfl) rfl ?_
   refine GQ.v (V.mv rfl) rfl ?_
   refine GQ.sg rfl rfl rfl rfl rfl rfl ?_
   refine GQ.sg rfl rfl rfl rfl rfl rfl ?_
   refine GQ.sg rfl rfl rfl rfl rfl rfl ?_
   refine GQ.sg rfl rfl rfl rfl rfl rfl ?_
   refine GQ.sg rfl rfl rfl rfl rfl rfl ?_
   refine GQ.sg rfl rfl rfl rfl rfl rfl ?_
   refine GQ.sg rfl rfl rfl rfl rfl rfl ?_
   refine GQ.sg rfl rfl rfl rfl rfl rfl ?_
   refine GQ.sg rfl rfl rfl rfl rfl rfl ?_
   refine GQ.sgU rfl rfl rfl rfl rfl ?_
   refine GQ.sgU rfl rfl rfl rfl rfl ?_
   refine GQ.sgU rfl rfl rfl rfl rfl ?_
   refine GQ.sgU rfl rfl rfl rfl rfl ?_
   refine GQ.sgU rfl rfl rfl rfl rfl ?_
   refine GQ.sgU rfl rfl rfl rfl rfl ?_
   refine GQ.sgU rfl rfl rfl rfl rfl ?_
   refine GQ.sgU rfl rfl rfl rfl rfl ?_
   refine GQ.sg rfl rfl rfl rfl rfl rfl ?_
   refine GQ.v (V.pickF rfl rfl) rfl ?_
   refine GQ.nil ?_
   exact absurd h276 (by have := hcond.1; simp; omega)
 rintro fr' H' ⟨hs38, rfl⟩
 refine GC.weak hs38 ?_
 clear hs38
 refine GC.condT rfl ?_
 refine GC.exit rfl ?_
 refine GC.inLoop ?_
 refine GC.turn (H' := (⟨cb, true, .row (nodeR kpath kidx kwild knt (kpr + 1) kkv khv kfull) 107 (0, 0)⟩ :: (Ks ++ (Kh ++ Kk))) ++ (⟨hb, true, .row [I (num : Int)] 3 (0, 0)⟩ :: (⟨nb, true, .row (nodeR tp idx wl nt pr (.slice (some ⟨rb, 0, none⟩) kids.length cap) (.slice ad2 l2 c2) f0) 107 (0, 0)⟩ :: ([⟨rb, true, .row (bs.map (Pt · 0) ++ spare) 89 (0, 0)⟩] ++ (C2 ++ (Hh ++ Hr)))))) (fun w1 h1 => h1.perm ?_) ?_
 ·have p1 := perm_idx [[⟨cb, true, .row (nodeR kpath kidx kwild knt (kpr + 1) kkv khv kfull) 107 (0, 0)⟩], (Ks ++ (Kh ++ Kk)), [⟨nb, true, .row (nodeR tp idx wl nt pr (.slice (some ⟨rb, 0, none⟩) kids.length cap) (.slice ad2 l2 c2) f0) 107 (0, 0)⟩], [⟨rb, true, .row (bs.map (Pt · 0) ++ spare) 89 (0, 0)⟩], C2, Hh, [⟨hb, true, .row [I (num : Int)] 3 (0, 0)⟩], Hr] [0, 1, 2, 3, 4, 5, 6, 7] [0, 1, 6, 2, 3, 4, 5, 7] (by decide)
  simpa using p1
 refine go cb _ _ _ (HT.mk (pr := kpr + 1) ks kh kk) (fun k' Hk1' hk' => ?_) (.of rfl)
 obtain ⟨H2, hk4, hp4⟩ := hback k' Hk1' hk'
 refine ⟨_, HT.mk (by rw [List.length_set]; exact hs) hh hk4, ?_⟩
 have p1 := perm_idx [Hk1', [⟨nb, true, .row (nodeR tp idx wl nt pr (.slice (some ⟨rb, 0, none⟩) kids.length cap) (.slice ad2 l2 c2) f0) 107 (0, 0)⟩], [⟨rb, true, .row (bs.map (Pt · 0) ++ spare) 89 (0, 0)⟩], C2, Hh, Hr] [0, 1, 2, 3, 4, 5] [1, 2, 4, 0, 3, 5] (by decide)
 refine List.Perm.trans (l₂ := ⟨nb, true, .row (nodeR tp idx wl nt pr (.slice (some ⟨rb, 0, none⟩) kids.length cap) (.slice ad2 l2 c2) f0) 107 (0, 0)⟩ :: ([⟨rb, true, .row (bs.map (Pt · 0) ++ spare) 89 (0, 0)⟩] ++ (Hh ++ ((Hk1' ++ C2) ++ Hr)))) (by simpa using p1) ?_
 have p2 := (((hp4.symm.append_right Hr).append_left Hh).append_left [⟨rb, true, .row (bs.map (Pt · 0) ++ spare) 89 (0, 0)⟩]).cons ⟨nb, true, .row (nodeR tp idx wl nt pr (.slice (some ⟨rb, 0, none⟩) kids.length cap) (.slice ad2 l2 c2) f0) 107 (0, 0)⟩
 simpa using p2
theorem idx_some {full p a : List UInt8} {r : Int} (hp : p <:+ full) (ha : a <+: p) (h : Idx full a r) : ∃ i : Nat, r = i ∧ i ≤ full.length := by
 rcases h with ⟨rfl, h⟩ | ⟨i, rfl, h, _, _⟩
 ·obtain ⟨u, rfl⟩ := hp
  obtain ⟨v, rfl⟩ := ha
  refine absurd ?_ (h u.length (by simp))
  rw [← List.append_assoc, List.take_append_of_le_length (by simp), List.take_of_length_le (by simp)]
  simp
 ·exact ⟨i, rfl, by omega⟩
theorem f72_wbad {R : Ending → World → Prop} {w : World} {D : Nat → Prop} {nb hb num pfi : Nat} {p full tp idx : List UInt8} {wl : Bool} {nt pr : Nat} {h0 : Option Nat} {f0 : List UInt8} {kids : List T0} {bs : List Nat} {kv hv : Value} {Hs Hh Hk Hr : SH} {fr : SF} {c : UInt8} {k0 : T0}
  (hs : Own 89 1 kv kids.length (bs.map (Pt · 0)) Hs) (hh : HV h0 hv Hh) (hk : HTs kids bs Hk) (hpl : p.length ≤ 100000) (hfl : full.length ≤ 100000) (hsub : Sub [(0, Pt nb 0), (1, S p), (2, .slice (some ⟨hb, 0, none⟩) 1 1), (6, S full), (7, I (pfi : Int)), (10, .int .u8 (c.toNat : Int))] fr) (hc3 : c = 58 ∨ c = 42 ∨ nt = 3) (hwl : wl = true) (hkl9 : kids.length ≤ 90000) (hk0 : kids[kids.length - 1]? = some k0) (hk0l : k0.path.length ≤ 100000) (hcond : ¬ (k0.path.length ≤ p.length ∧ p.take k0.path.length = k0.path ∧ k0.nt ≠ 3 ∧ (p.length ≤ k0.path.length ∨ p[k0.path.length]? = some 47))) (hsuf : p <:+ full)
  (pan : ∀ e w', onePanic e → HF w D [] w' → R e w') :
  GC Try.prog ⟨72, Try.f72, R, w, D⟩ 377 K72s fr (⟨nb, true, .row (nodeR tp idx wl nt pr kv hv f0) 107 (0, 0)⟩ :: ((Hs ++ (Hh ++ Hk)) ++ (⟨hb, true, .row [I (num : Int)] 3 (0, 0)⟩ :: Hr))) := by
 refine GC.weak hsub ?_
 clear hsub
 obtain ⟨X, hX⟩ : ∃ X, X = (Hh ++ Hk) ++ (⟨hb, true, .row [I (num : Int)] 3 (0, 0)⟩ :: Hr) := ⟨_, rfl⟩
 refine GC.turn (H' := ⟨nb, true, .row (nodeR tp idx wl nt pr kv hv f0) 107 (0, 0)⟩ :: (Hs ++ X)) (fun w1 h1 => by rw [hX, ← List.append_assoc]; exact h1) ?_
 have hkl2 := hk.len
 obtain ⟨ad, cap, rfl⟩ := hs.slice
 obtain ⟨ad2, l2, c2, rfl, hnn⟩ := hh.slice
 refine GC.seq ?_
 refine GC.seq ?_
 refine GC.join (fun fr' H' => Sub [(0, Pt nb 0), (1, S p), (2, .slice (some ⟨hb, 0, none⟩) 1 1), (6, S full), (7, I (pfi : Int)), (10, .int .u8 (c.toNat : Int)), (219, .bool false)] fr' ∧ H' = ⟨nb, true, .row (nodeR tp idx wl nt pr (.slice ad kids.length cap) (.slice ad2 l2 c2) f0) 107 (0, 0)⟩ :: (Hs ++ X)) (fun J29 => ?_) ?_
 ·refine GC.reg ?_
  refine G.m1 ?_
  refine G.v (V.neI rfl rfl) rfl ?_
  refine G.m1 ?_
  refine G.bc 209 rfl (fun h209 => ?_) (fun h209 => ?_)
  ·refine G.m5 ?_
   refine G.vg rfl rfl (V.neI rfl rfl) rfl ?_
   refine G.m3 ?_
   refine G.m1 ?_
   refine G.bc 213 rfl (fun h213 => ?_) (fun h213 => ?_)
   ·refine G.m5 ?_
    refine G.vg rfl rfl (V.nc rfl) rfl ?_
    refine G.vg rfl rfl (V.fa F107_3 rfl) rfl ?_
    refine G.vg rfl rfl (V.ld (b := nb) (off := 0 + 3) (wf := true) (l := nodeR tp idx wl nt pr (.slice ad kids.length cap) (.slice ad2 l2 c2) f0) (T := 107) (fz := (0, 0)) (v := .int .u8 (nt : Int)) Try.isAgg103 rfl (.head _) rfl) rfl ?_
    refine G.vg rfl rfl (V.neI rfl rfl) rfl ?_
    refine G.m3 ?_
    refine G.nil ?_
    refine J29 _ _ ⟨?_, rfl⟩
    have e : (!decide ((nt : Int) = 3)) = false := by
     rcases hc3 with rfl | rfl | rfl
     ·exact absurd h209 (by decide)
     ·exact absurd h213 (by decide)
     ·rfl
    rw [e]
    exact .of rfl
   ·refine G.s1 ?_
    refine G.s1 ?_
    refine G.s1 ?_
    refine G.s1 ?_
    refine G.s1 ?_
    refine G.m4 ?_
    refine G.nil ?_
    exact J29 _ _ ⟨.of rfl, rfl⟩
  ·refine G.s1 ?_
   refine G.s1 ?_
   refine G.m4 ?_
   refine G.m1 ?_
   refine G.s1 ?_
   refine G.s1 ?_
   refine G.s1 ?_
   refine G.s1 ?_
   refine G.s1 ?_
   refine G.m4 ?_
   refine G.nil ?_
   exact J29 _ _ ⟨.of rfl, rfl⟩
 rintro fr' H' ⟨hs29, rfl⟩
 refine GC.weak hs29 ?_
 clear hs29
 refine GC.condF rfl ?_
 refine GC.seq ?_
 refine GC.reg ?_
 refine G.m1 ?_
 refine G.v (V.nc rfl) rfl ?_
 refine G.v (V.fa F107_2 rfl) rfl ?_
 refine G.v (V.ld (b := nb) (off := 0 + 2) (wf := true) (l := nodeR tp idx wl nt pr (.slice ad kids.length cap) (.slice ad2 l2 c2) f0) (T := 107) (fz := (0, 0)) (v := .bool wl) Try.isAgg4 rfl (.head _) rfl) rfl ?_
 refine G.nil ?_
 refine GC.cond rfl (fun h248 => ?_) (fun h248 => absurd hwl (by rw [h248]; decide))
 refine GC.seq ?_
 have hkp := (List.getElem?_eq_some_iff.1 hk0).1
 obtain ⟨rb, cap2, spare, e1, rfl⟩ := hs.at (i := kids.length - 1) hkp
 cases e1
 obtain ⟨cb, C1, C2, hcb, hkc, hperm, hback⟩ := hk.foc hk0
 cases hkc with
 | @mk kpath kidx kwild knt kpr ko kfull kkids _ kbs kkv khv Ks Kh Kk ks kh kk =>
 simp only [Tr.path, Tr.nt] at hcond hk0l
 refine GC.regQ mixed (by kernel_rfl) ?_
 refine GQ.v (V.mv rfl) rfl ?_
 refine GQ.v (V.nc rfl) rfl ?_
 refine GQ.v (V.fa F107_5 rfl) rfl ?_
 refine GQ.v (V.ld (b := nb) (off := 0 + 5) (wf := true) (l := nodeR tp idx wl nt pr (.slice (some ⟨rb, 0, none⟩) kids.length cap) (.slice ad2 l2 c2) f0) (T := 107) (fz := (0, 0)) (v := (.slice (some ⟨rb, 0, none⟩) kids.length cap)) Try.isAgg105 rfl (.head _) rfl) rfl ?_
 refine GQ.v (V.mv rfl) rfl ?_
 refine GQ.v (V.nc rfl) rfl ?_
 refine GQ.v (V.fa F107_5 rfl) rfl ?_
 refine GQ.v (V.ld (b := nb) (off := 0 + 5) (wf := true) (l := nodeR tp idx wl nt pr (.slice (some ⟨rb, 0, none⟩) kids.length cap) (.slice ad2 l2 c2) f0) (T := 107) (fz := (0, 0)) (v := (.slice (some ⟨rb, 0, none⟩) kids.length cap)) Try.isAgg105 rfl (.head _) rfl) rfl ?_
 refine GQ.v (V.lenL Try.underlying105 rfl) rfl ?_
 refine GQ.v (V.subI (r := ((kids.length - 1 : Nat) : Int)) rfl rfl (by omega) (by omega) (by omega)) rfl ?_
 refine GQ.v (V.ia (i := kids.length - 1) Try.underlying105 Try.sizeOf89 rfl rfl hkp) rfl ?_
 refine GQ.v (V.ld (b := rb) (off := 0 + (kids.length - 1) * 1) (wf := true) (l := bs.map (Pt · 0) ++ spare) (T := 89) (fz := (0, 0)) (v := Pt cb 0) Try.isAgg89 rfl (.tail _ (.head _)) (by rw [nth_eq, Nat.zero_add, Nat.mul_one, List.getElem?_append_left (by rw [List.length_map, hkl2]; exact hkp), List.getElem?_map, hcb]; rfl)) rfl ?_
 refine GQ.v (V.asg rfl) rfl ?_
 refine GQ.nil ?_
 refine GC.seq ?_
 refine GC.turn (H' := ⟨cb, true, .row (nodeR kpath kidx kwild knt kpr kkv khv kfull) 107 (0, 0)⟩ :: ((Ks ++ (Kh ++ Kk)) ++ (⟨nb, true, .row (nodeR tp idx wl nt pr (.slice (some ⟨rb, 0, none⟩) kids.length cap) (.slice ad2 l2 c2) f0) 107 (0, 0)⟩ :: ([⟨rb, true, .row (bs.map (Pt · 0) ++ spare) 89 (0, 0)⟩] ++ (C2 ++ (Hh ++ (⟨hb, true, .row [I (num : Int)] 3 (0, 0)⟩ :: Hr))))))) (fun w1 h1 => h1.perm ?_) ?_
 ·rw [hX]
  have p1 := perm_idx [[⟨nb, true, .row (nodeR tp idx wl nt pr (.slice (some ⟨rb, 0, none⟩) kids.length cap) (.slice ad2 l2 c2) f0) 107 (0, 0)⟩], [⟨rb, true, .row (bs.map (Pt · 0) ++ spare) 89 (0, 0)⟩], [⟨cb, true, .row (nodeR kpath kidx kwild knt kpr kkv khv kfull) 107 (0, 0)⟩], (Ks ++ (Kh ++ Kk)), C2, Hh, [⟨hb, true, .row [I (num : Int)] 3 (0, 0)⟩], Hr] [0, 1, 2, 3, 4, 5, 6, 7] [2, 3, 0, 1, 4, 5, 6, 7] (by decide)
  refine List.Perm.trans (l₂ := ⟨nb, true, .row (nodeR tp idx wl nt pr (.slice (some ⟨rb, 0, none⟩) kids.length cap) (.slice ad2 l2 c2) f0) 107 (0, 0)⟩ :: ([⟨rb, true, .row (bs.map (Pt · 0) ++ spare) 89 (0, 0)⟩] ++ (((⟨cb, true, .row (nodeR kpath kidx kwild knt kpr kkv khv kfull) 107 (0, 0)⟩ :: (Ks ++ (Kh ++ Kk))) ++ C2) ++ (Hh ++ (⟨hb, true, .row [I (num : Int)] 3 (0, 0)⟩ :: Hr))))) ?_ (by simpa using p1)
  have p3 := perm_idx [[⟨nb, true, .row (nodeR tp idx wl nt pr (.slice (some ⟨rb, 0, none⟩) kids.length cap) (.slice ad2 l2 c2) f0) 107 (0, 0)⟩], [⟨rb, true, .row (bs.map (Pt · 0) ++ spare) 89 (0, 0)⟩], Hh, Hk, [⟨hb, true, .row [I (num : Int)] 3 (0, 0)⟩], Hr] [0, 1, 2, 3, 4, 5] [0, 1, 3, 2, 4, 5] (by decide)
  refine List.Perm.trans (l₂ := ⟨nb, true, .row (nodeR tp idx wl nt pr (.slice (some ⟨rb, 0, none⟩) kids.length cap) (.slice ad2 l2 c2) f0) 107 (0, 0)⟩ :: ([⟨rb, true, .row (bs.map (Pt · 0) ++ spare) 89 (0, 0)⟩] ++ (Hk ++ (Hh ++ (⟨hb, true, .row [I (num : Int)] 3 (0, 0)⟩ :: Hr))))) (by simpa using p3) ?_
  exact ((hperm.append_right _).append_left _).cons _
 refine GC.reg ?_
 refine G.m1 ?_
 refine G.v (V.nc rfl) rfl ?_
 refine G.v (V.fa F107_4 rfl) rfl ?_
 refine G.v (V.ld (b := cb) (off := 0 + 4) (wf := true) (l := nodeR kpath kidx kwild knt kpr kkv khv kfull) (T := 107) (fz := (0, 0)) (v := .int .u32 ((kpr % 4294967296 : Nat) : Int)) Try.isAgg104 rfl (.head _) rfl) rfl ?_
 refine G.v (V.add rfl rfl) rfl ?_
 rw [wrapU32]
 refine G.v (V.nc rfl) rfl ?_
 refine G.v (V.fa F107_4 rfl) rfl ?_
 refine G.st (b := cb) (off := 0 + 4) (l := nodeR kpath kidx kwild knt kpr kkv khv kfull) (T := 107) (fz := (0, 0)) (v := .int .u32 (((kpr + 1) % 4294967296 : Nat) : Int)) Try.sizeOf104 rfl rfl rfl (.z) rfl rfl ?_
 refine G.nil ?_
 refine GC.seq ?_
 refine GC.seq ?_
 refine GC.turn (H' := ⟨cb, true, .row (nodeR kpath kidx kwild knt (kpr + 1) kkv khv kfull) 107 (0, 0)⟩ :: ((Ks ++ (Kh ++ Kk)) ++ (⟨nb, true, .row (nodeR tp idx wl nt pr (.slice (some ⟨rb, 0, none⟩) kids.length cap) (.slice ad2 l2 c2) f0) 107 (0, 0)⟩ :: ([⟨rb, true, .row (bs.map (Pt · 0) ++ spare) 89 (0, 0)⟩] ++ (C2 ++ (Hh ++ (⟨hb, true, .row [I (num : Int)] 3 (0, 0)⟩ :: Hr))))))) (fun w1 h1 => ?_) ?_
 ·exact h1
 refine GC.join (fun fr' H' => Sub [(0, Pt cb 0), (1, S p), (2, .slice (some ⟨hb, 0, none⟩) 1 1), (6, S full), (7, I (pfi : Int)), (10, .int .u8 (c.toNat : Int)), (316, .bool false)] fr' ∧ H' = ⟨cb, true, .row (nodeR kpath kidx kwild knt (kpr + 1) kkv khv kfull) 107 (0, 0)⟩ :: ((Ks ++ (Kh ++ Kk)) ++ (⟨nb, true, .row (nodeR tp idx wl nt pr (.slice (some ⟨rb, 0, none⟩) kids.length cap) (.slice ad2 l2 c2) f0) 107 (0, 0)⟩ :: ([⟨rb, true, .row (bs.map (Pt · 0) ++ spare) 89 (0, 0)⟩] ++ (C2 ++ (Hh ++ (⟨hb, true, .row [I (num : Int)] 3 (0, 0)⟩ :: Hr))))))) (fun J38 => ?_) ?_
 ·refine GC.regQ mixed (by kernel_rfl) ?_
  refine GQ.v (V.mv rfl) rfl ?_
  refine GQ.v (V.lenS Try.underlying9 rfl) rfl ?_
  refine GQ.v (V.mv rfl) rfl ?_
  refine GQ.v (V.nc rfl) rfl ?_
  refine GQ.v (V.fa F107_0 rfl) rfl ?_
  refine GQ.v (V.ld (b := cb) (off := 0 + 0) (wf := true) (l := nodeR kpath kidx kwild knt (kpr + 1) kkv khv kfull) (T := 107) (fz := (0, 0)) (v := S kpath) Try.isAgg9 rfl (.head _) rfl) rfl ?_
  refine GQ.v (V.lenS Try.underlying9 rfl) rfl ?_
  refine GQ.v (V.ge rfl rfl) rfl ?_
  refine GQ.v (V.mv rfl) rfl ?_
  refine GQ.bc 276 rfl (fun h276 => ?_) (fun h276 => ?_)
  ·refine GQ.vg rfl rfl (V.mv rfl) rfl ?_
   refine GQ.vg rfl rfl (V.nc rfl) rfl ?_
   refine GQ.vg rfl rfl (V.fa F107_0 rfl) rfl ?_
   refine GQ.vg rfl rfl (V.ld (b := cb) (off := 0 + 0) (wf := true) (l := nodeR kpath kidx kwild knt (kpr + 1) kkv khv kfull) (T := 107) (fz := (0, 0)) (v := S kpath) Try.isAgg9 rfl (.head _) rfl) rfl ?_
   refine GQ.vg rfl rfl (V.mv rfl) rfl ?_
   refine GQ.vg rfl rfl (V.mv rfl) rfl ?_
   refine GQ.vg rfl rfl (V.nc rfl) rfl ?_
   refine GQ.vg rfl rfl (V.fa F107_0 rfl) rfl ?_
   refine GQ.vg rfl rfl (V.ld (b := cb) (off := 0 + 0) (wf := true) (l := nodeR kpath kidx kwild knt (kpr + 1) kkv khv kfull) (T := 107) (fz := (0, 0)) (v := S kpath) Try.isAgg9 rfl (.head _) rfl) rfl ?_
   refine GQ.vg rfl rfl (V.lenS Try.underlying9 rfl) rfl ?_
   refine GQ.vg rfl rfl (V.slH (j := kpath.length) Try.underlying9 rfl rfl (by have := of_decide_eq_true h276; omega)) rfl ?_
   refine GQ.vg rfl rfl (V.eqS rfl rfl) rfl ?_
   refine GQ.v (V.pickT rfl rfl) rfl ?_
   refine GQ.v (V.mv rfl) rfl ?_
   refine GQ.bc 290 rfl (fun h290 => ?_) (fun h290 => ?_)
   ·refine GQ.vg rfl rfl (V.mv rfl) rfl ?_
    refine GQ.vg rfl rfl (V.nc rfl) rfl ?_
    refine GQ.vg rfl rfl (V.fa F107_3 rfl) rfl ?_
    refine GQ.vg rfl rfl (V.ld (b := cb) (off := 0 + 3) (wf := true) (l := nodeR kpath kidx kwild knt (kpr + 1) kkv khv kfull) (T := 107) (fz := (0, 0)) (v := .int .u8 (knt : Int)) Try.isAgg103 rfl (.head _) rfl) rfl ?_
    refine GQ.vg rfl rfl (V.neI rfl rfl) rfl ?_
    refine GQ.v (V.pickT rfl rfl) rfl ?_
    refine GQ.v (V.mv rfl) rfl ?_
    refine GQ.bc 297 rfl (fun h297 => ?_) (fun h297 => ?_)
    ·refine GQ.vg rfl rfl (V.mv rfl) rfl ?_
     refine GQ.vg rfl rfl (V.nc rfl) rfl ?_
     refine GQ.vg rfl rfl (V.fa F107_0 rfl) rfl ?_
     refine GQ.vg rfl rfl (V.ld (b := cb) (off := 0 + 0) (wf := true) (l := nodeR kpath kidx kwild knt (kpr + 1) kkv khv kfull) (T := 107) (fz := (0, 0)) (v := S kpath) Try.isAgg9 rfl (.head _) rfl) rfl ?_
     refine GQ.vg rfl rfl (V.lenS Try.underlying9 rfl) rfl ?_
     refine GQ.vg rfl rfl (V.mv rfl) rfl ?_
     refine GQ.vg rfl rfl (V.lenS Try.underlying9 rfl) rfl ?_
     refine GQ.vg rfl rfl (V.ge rfl rfl) rfl ?_
     refine GQ.vg rfl rfl (V.mv rfl) rfl ?_
     refine GQ.bc 306 rfl (fun h306 => ?_) (fun h306 => ?_)
     ·refine GQ.sg rfl rfl rfl rfl rfl rfl ?_
      refine GQ.sg rfl rfl rfl rfl rfl rfl ?_
      refine GQ.sg rfl rfl rfl rfl rfl rfl ?_
      refine GQ.sg rfl rfl rfl rfl rfl rfl ?_
      refine GQ.sg rfl rfl rfl rfl rfl rfl ?_
      refine GQ.sg rfl rfl rfl rfl rfl rfl ?_
      refine GQ.sg rfl rfl rfl rfl rfl rfl ?_
      refine GQ.sg rfl rfl rfl rfl rfl rfl ?_
      refine GQ.vg rfl rfl (V.pickT rfl rfl) rfl ?_
      refine GQ.v (V.pickT rfl rfl) rfl ?_
      refine GQ.nil ?_
      exact absurd ⟨by have := of_decide_eq_true h276; omega, (of_decide_eq_true h290).symm, by have := h297; simp at this; omega, .inl (by have := of_decide_eq_true h306; omega)⟩ hcond
     ·refine GQ.vg rfl rfl (V.mv rfl) rfl ?_
      refine GQ.vg rfl rfl (V.mv rfl) rfl ?_
      refine GQ.vg rfl rfl (V.nc rfl) rfl ?_
      refine GQ.vg rfl rfl (V.fa F107_0 rfl) rfl ?_
      refine GQ.vg rfl rfl (V.ld (b := cb) (off := 0 + 0) (wf := true) (l := nodeR kpath kidx kwild knt (kpr + 1) kkv khv kfull) (T := 107) (fz := (0, 0)) (v := S kpath) Try.isAgg9 rfl (.head _) rfl) rfl ?_
      refine GQ.vg rfl rfl (V.lenS Try.underlying9 rfl) rfl ?_
      obtain ⟨y, hy⟩ : ∃ y, p[kpath.length]? = some y := ⟨_, List.getElem?_eq_getElem (by have := of_decide_eq_false h306; omega)⟩
      refine GQ.vg rfl rfl (V.idx (i := kpath.length) (b := y) Try.underlying9 rfl rfl hy) rfl ?_
      refine GQ.vg rfl rfl (V.eqI rfl rfl) rfl ?_
      refine GQ.vg rfl rfl (V.pickF rfl rfl) rfl ?_
      refine GQ.v (V.pickT rfl rfl) rfl ?_
      refine GQ.nil ?_
      have e : decide ((y.toNat : Int) = 47) = false := by
       refine decide_eq_false fun e => hcond ⟨by have := of_decide_eq_true h276; omega, (of_decide_eq_true h290).symm, ?_, .inr (by rw [hy, u47 e])⟩
       have := h297
       simp at this
       omega
      refine J38 _ _ ⟨?_, rfl⟩
      rw [e]
      exact .of rfl
    ·refine GQ.sg rfl rfl rfl rfl rfl rfl ?_
     refine GQ.sg rfl rfl rfl rfl rfl rfl ?_
     refine GQ.sg rfl rfl rfl rfl rfl rfl ?_
     refine GQ.sg rfl rfl rfl rfl rfl rfl ?_
     refine GQ.sg rfl rfl rfl rfl rfl rfl ?_
     refine GQ.sg rfl rfl rfl rfl rfl rfl ?_
     refine GQ.sg rfl rfl rfl rfl rfl rfl ?_
     refine GQ.sg rfl rfl rfl rfl rfl rfl ?_
     refine GQ.sg rfl rfl rfl rfl rfl rfl ?_
     refine GQ.sgU rfl rfl rfl rfl rfl ?_
     refine GQ.sgU rfl rfl rfl rfl rfl ?_
     refine GQ.sgU rfl rfl rfl rfl rfl ?_
     refine GQ.sgU rfl rfl rfl rfl rfl ?_
     refine GQ.sgU rfl rfl rfl rfl rfl ?_
     refine GQ.sgU rfl rfl rfl rfl rfl ?_
     refine GQ.sgU rfl rfl rfl rfl rfl ?_
     refine GQ.sgU rfl rfl rfl rfl rfl ?_
     refine GQ.sg rfl rfl rfl rfl rfl rfl ?_
     refine GQ.v (V.pickF rfl rfl) rfl ?_
     refine GQ.nil ?_
     exact J38 _ _ ⟨.of rfl, rfl⟩
   ·refine GQ.sg rfl rfl rfl rfl rfl rfl ?_
    refine GQ.sg rfl rfl rfl rfl rfl rfl ?_
    refine GQ.sg rfl rfl rfl rfl rfl rfl ?_
    refine GQ.sg rfl rfl rfl rfl rfl rfl ?_
    refine GQ.sg rfl rfl rfl rfl rfl rfl ?_
    refine GQ.v (V.pickF rfl rfl) rfl ?_
    refine GQ.v (V.mv rfl) rfl ?_
    refine GQ.sg rfl rfl rfl rfl rfl rfl ?_
    refine GQ.sg rfl rfl rfl rfl rfl rfl ?_
    refine GQ.sg rfl rfl rfl rfl rfl rfl ?_
    refine GQ.sg rfl rfl rfl rfl rfl rfl ?_
    refine GQ.sg rfl rfl rfl rfl rfl rfl ?_
    refine GQ.sg rfl rfl rfl rfl rfl rfl ?_
    refine GQ.sg rfl rfl rfl rfl rfl rfl ?_
    refine GQ.sg rfl rfl rfl rfl rfl rfl ?_
    refine GQ.sg rfl rfl rfl rfl rfl rfl ?_
    refine GQ.sgU rfl rfl rfl rfl rfl ?_
    refine GQ.sgU rfl rfl rfl rfl rfl ?_
    refine GQ.sgU rfl rfl rfl rfl rfl ?_
    refine GQ.sgU rfl rfl rfl rfl rfl ?_
    refine GQ.sgU rfl rfl rfl rfl rfl ?_
    refine GQ.sgU rfl rfl rfl rfl rfl ?_
    refine GQ.sgU rfl rfl rfl rfl rfl ?_
    refine GQ.sgU rfl rfl rfl rfl rfl ?_
    refine GQ.sg rfl rfl rfl rfl rfl rfl ?_
    refine GQ.v (V.pickF rfl rfl) rfl ?_
    refine GQ.nil ?_
    exact J38 _ _ ⟨.of rfl, rfl⟩
  ·refine GQ.sg rfl rfl rfl rfl rfl rfl ?_
   refine GQ.sg rfl rfl rfl rfl rfl rfl ?_
   refine GQ.sg rfl rfl rfl rfl rfl rfl ?_
   refine GQ.sg rfl rfl rfl rfl rfl rfl ?_
   refine GQ.sg rfl rfl rfl rfl rfl rfl ?_
   refine GQ.sg rfl rfl rfl rfl rfl rfl ?_
   refine GQ.sg rfl rfl rfl rfl rfl rfl ?_
   refine GQ.sg rfl rfl rfl rfl rfl rfl ?_
   refine GQ.sg rfl rfl rfl rfl rfl rfl ?_
   refine GQ.sg rfl rfl rfl rfl rfl rfl ?_
   refine GQ.sg rfl rfl rfl rfl rfl rfl ?_
   refine GQ.sg rfl rfl rfl rfl rfl rfl ?_
   refine GQ.v (V.pickF rfl rfl) rfl ?_
   refine GQ.v (V.mv rfl) rfl ?_
   refine GQ.sg rfl rfl rfl rfl rfl rfl ?_
   refine GQ.sg rfl rfl rfl rfl rfl rfl ?_
   refine GQ.sg rfl rfl rfl rfl rfl rfl ?_
   refine GQ.sg rfl rfl rfl rfl rfl rfl ?_
   refine GQ.sg rfl rfl rfl rfl rfl rfl ?_
   refine GQ.v (V.pickF rfl rfl) rfl ?_
   refine GQ.v (V.mv rfl) rfl ?_
   refine GQ.sg rfl rfl rfl rfl rfl rfl ?_
   refine GQ.sg rfl rfl rfl rfl rfl rfl ?_
   refine GQ.sg rfl rfl rfl rfl rfl rfl ?_
   refine GQ.sg rfl rfl rfl rfl rfl rfl ?_
   refine GQ.sg rfl rfl rfl rfl rfl rfl ?_
   refine GQ.sg rfl rfl rfl rfl rfl rfl ?_
   refine GQ.sg rfl rfl rfl rfl rfl rfl ?_
   refine GQ.sg rfl rfl rfl rfl rfl rfl ?_
   refine GQ.sg rfl rfl rfl rfl rfl rfl ?_
   refine GQ.sgU rfl rfl rfl rfl rfl ?_
   refine GQ.sgU rfl rfl rfl rfl rfl ?_
   refine GQ.sgU rfl rfl rfl rfl rfl ?_
   refine GQ.sgU rfl rfl rfl rfl rfl ?_
   refine GQ.sgU rfl rfl rfl rfl rfl ?_
   refine GQ.sgU rfl rfl rfl rfl rfl ?_
   refine GQ.sgU rfl rfl rfl rfl rfl ?_
   refine GQ.sgU rfl rfl rfl rfl rfl ?_
   refine GQ.sg rfl rfl rfl rfl rfl rfl ?_
   refine GQ.v (V.pickF rfl rfl) rfl ?_
   refine GQ.nil ?_
   exact J38 _ _ ⟨.of rfl, rfl⟩
 rintro fr' H' ⟨hs38, rfl⟩
 refine GC.weak hs38 ?_
 clear hs38
 refine GC.condF rfl ?_
 refine GC.skip ?_
 refine GC.seq ?_
 refine GC.reg ?_
 refine G.m1 ?_
 refine G.m2 ?_
 refine G.nil ?_
 refine GC.seq ?_
 refine GC.seq ?_
 refine GC.reg ?_
 refine G.m1 ?_
 refine G.v (V.nc rfl) rfl ?_
 refine G.v (V.fa F107_3 rfl) rfl ?_
 refine G.v (V.ld (b := cb) (off := 0 + 3) (wf := true) (l := nodeR kpath kidx kwild knt (kpr + 1) kkv khv kfull) (T := 107) (fz := (0, 0)) (v := .int .u8 (knt : Int)) Try.isAgg103 rfl (.head _) rfl) rfl ?_
 refine G.v (V.neI rfl rfl) rfl ?_
 refine G.nil ?_
 refine GC.join (fun fr' H' => ∃ a, a <+: p ∧ Sub [(0, Pt cb 0), (6, S full), (14, S a)] fr' ∧ H' = ⟨cb, true, .row (nodeR kpath kidx kwild knt (kpr + 1) kkv khv kfull) 107 (0, 0)⟩ :: ((Ks ++ (Kh ++ Kk)) ++ (⟨nb, true, .row (nodeR tp idx wl nt pr (.slice (some ⟨rb, 0, none⟩) kids.length cap) (.slice ad2 l2 c2) f0) 107 (0, 0)⟩ :: ([⟨rb, true, .row (bs.map (Pt · 0) ++ spare) 89 (0, 0)⟩] ++ (C2 ++ (Hh ++ (⟨hb, true, .row [I (num : Int)] 3 (0, 0)⟩ :: Hr))))))) (fun J322 => ?_) ?_
 ·refine GC.cond rfl (fun h322 => ?_) (fun h322 => ?_)
  ·refine GC.reg ?_
   refine G.m1 ?_
   refine G.callW (fun v H2 => ∃ a b t, a <+: p ∧ v = .tuple #[S a, S b, .bool t] ∧ H2 = ⟨cb, true, .row (nodeR kpath kidx kwild knt (kpr + 1) kkv khv kfull) 107 (0, 0)⟩ :: ((Ks ++ (Kh ++ Kk)) ++ (⟨nb, true, .row (nodeR tp idx wl nt pr (.slice (some ⟨rb, 0, none⟩) kids.length cap) (.slice ad2 l2 c2) f0) 107 (0, 0)⟩ :: ([⟨rb, true, .row (bs.map (Pt · 0) ++ spare) 89 (0, 0)⟩] ++ (C2 ++ (Hh ++ (⟨hb, true, .row [I (num : Int)] 3 (0, 0)⟩ :: Hr))))))) Try.call83 rfl rfl (fun w1 hw1 => (f83_any w1 p [47] (by omega) (by simp)).mono fun e w' ⟨a, b, t, h1, h2, h3⟩ => ⟨_, _, h2, hw1.after0 h3 (fun e he => by cases he), a, b, t, h1, rfl, rfl⟩) ?_
   rintro v H2 ⟨a, bb, tt, hap, rfl, rfl⟩
   refine G.m1 ?_
   refine G.v (V.ex rfl rfl) rfl ?_
   refine G.v (V.ex rfl rfl) rfl ?_
   refine G.v (V.ex rfl rfl) rfl ?_
   refine G.m2 ?_
   refine G.nil ?_
   exact J322 _ _ ⟨a, hap, .of rfl, rfl⟩
  refine GC.skip ?_
  exact J322 _ _ ⟨p, List.prefix_refl _, .of rfl, rfl⟩
 rintro fr' H' ⟨a, hap, hs322, rfl⟩
 refine GC.weak hs322 ?_
 clear hs322
 have hal := hap.length_le
 have hap2 := hsuf.length_le
 refine GC.seq ?_
 obtain ⟨r, hr⟩ := idx_ex full a
 obtain ⟨ri, rfl, hri⟩ := idx_some hsuf hap hr
 refine GC.regQ mixed (by kernel_rfl) ?_
 refine GQ.v (V.mv rfl) rfl ?_
 refine GQ.v (V.mv rfl) rfl ?_
 refine GQ.v (V.mv rfl) rfl ?_
 refine GQ.callP (v := I (ri : Int)) Try.call84 rfl rfl (fun w1 hw1 => (f84_any w1 full a (by omega) (by omega)).mono fun e w' ⟨r2, h1, h2, h3⟩ => ⟨by rw [h2, idx_uniq h1 hr], h3⟩) ?_
 refine GQ.v (V.slH (j := ri) Try.underlying9 rfl rfl hri) rfl ?_
 refine GQ.v (V.mv rfl) rfl ?_
 refine GQ.v (V.nc rfl) rfl ?_
 refine GQ.v (V.fa F107_0 rfl) rfl ?_
 refine GQ.v (V.ld (b := cb) (off := 0 + 0) (wf := true) (l := nodeR kpath kidx kwild knt (kpr + 1) kkv khv kfull) (T := 107) (fz := (0, 0)) (v := S kpath) Try.isAgg9 rfl (.head _) rfl) rfl ?_
 refine GQ.v (V.cat rfl rfl (by simp; omega)) rfl ?_
 refine GQ.v (V.asg rfl) rfl ?_
 refine GQ.nil ?_
 refine GC.reg ?_
 refine G.m1 ?_
 refine G.v (V.cat rfl rfl (by simp; omega)) rfl ?_
 refine G.v (V.cat rfl rfl (by simp; omega)) rfl ?_
 refine G.m1 ?_
 refine G.v (V.cat rfl rfl (by simp; omega)) rfl ?_
 refine G.v (V.cat rfl rfl (by simp; omega)) rfl ?_
 refine G.m1 ?_
 refine G.v (V.nc rfl) rfl ?_
 refine G.v (V.fa F107_0 rfl) rfl ?_
 refine G.v (V.ld (b := cb) (off := 0 + 0) (wf := true) (l := nodeR kpath kidx kwild knt (kpr + 1) kkv khv kfull) (T := 107) (fz := (0, 0)) (v := S kpath) Try.isAgg9 rfl (.head _) rfl) rfl ?_
 refine G.v (V.cat rfl rfl (by simp; omega)) rfl ?_
 refine G.v (V.cat rfl rfl (by simp; omega)) rfl ?_
 refine G.m1 ?_
 refine G.v (V.cat rfl rfl (by simp; omega)) rfl ?_
 refine G.v (V.cat rfl rfl (by simp; omega)) rfl ?_
 refine G.v (V.miS Try.underlying9 rfl) rfl ?_
 refine G.panic rfl fun w' hw' => pan _ _ ⟨_, _, rfl⟩ (hw'.sub (List.nil_sublist _))
end Go.Proofs

/- What routes a tree stands for; a route in a new node. No program in sight. -/
namespace Gt
open Gs Tr
/-- routes from a node on: their numbers and texts -/
abbrev F := List Tok → Option (Nat × List UInt8)
def upd (f : F) (s : List Tok) (v : Nat × List UInt8) : F := fun x => if x = s then some v else f x
def one (s : List Tok) (v : Nat × List UInt8) : F := fun x => if x = s then some v else none
/-- those that go on with a byte -/
def at_ (f : F) (p : List UInt8) (c : UInt8) : F := fun s => if s.head? = some (.b c) then f (bs p ++ s) else none
/-- a node's end: a route ends there, or the ways part, or a wildcard follows -/
def Min (h : Option Nat) (wild : Bool) (idx : List UInt8) (kids : List T0) : Prop := h.isSome = true ∨ wild = true ∨ 2 ≤ idx.length ∨ ∃ k, idx = [47] ∧ kids = [k] ∧ k.nt = 3
/-- the flag: the node's own end is as Min says -/
inductive Rep : Bool → T0 → F → Prop
  | st {b : Bool} {path idx : List UInt8} {wild : Bool} {nt pr : Nat} {h : Option Nat} {full : List UInt8} {kids : List T0} {f : F} (wn : List UInt8) (wk : T0) (hp : ∀ c ∈ path, plainB c) (hnt : nt = 0 ∨ nt = 1)
      (hpre : ∀ s v, f s = some v → ∃ r, s = bs path ++ r) (hh : f (bs path) = h.map fun k => (k, full)) (hnd : idx.Nodup) (hpl : ∀ c ∈ idx, plainB c) (hlen : kids.length = idx.length + wild.toNat)
      (hk : ∀ (j : Nat) c k, idx[j]? = some c → kids[j]? = some k → Rep true k (at_ f path c))
      (hkn : ∀ (j : Nat) k, j < idx.length → kids[j]? = some k → k.nt = 0 ∨ k.nt = 3)
      (hne : ∀ c ∈ idx, ∃ s v, f (bs path ++ .b c :: s) = some v)
      (hno : ∀ c, c ∉ idx → ∀ s, f (bs path ++ .b c :: s) = none)
      (hw : wild = true → kids[idx.length]? = some wk ∧ word wn ∧ wk.nt = 2 ∧ wk.path = 58 :: wn ∧ (∃ s v, f (bs path ++ .P wn :: s) = some v) ∧ ∀ m, m ≠ wn → ∀ s, f (bs path ++ .P m :: s) = none)
      (hwr : wild = true → Rep true wk (fun s => f (bs path ++ .P wn :: s)))
      (hnw : wild = false → ∀ m s, f (bs path ++ .P m :: s) = none)
      (hA : ∀ m s, f (bs path ++ .A m :: s) = none) (hmin : b = true → Min h wild idx kids) : Rep b (.node () path idx wild nt pr h full kids) f
  | pa {b : Bool} {n : List UInt8} {pr : Nat} {h : Option Nat} {full : List UInt8} {f : F} (hh : f [] = h.map fun k => (k, full)) (hno : ∀ s, s ≠ [] → f s = none) : Rep b (.node () (58 :: n) [] false 2 pr h full []) f
  | pk {b : Bool} {n idx : List UInt8} {pr : Nat} {h : Option Nat} {full : List UInt8} {k : T0} {f : F} (hh : f [] = h.map fun k => (k, full)) (hidx : idx = [] ∨ idx = [47]) (hk : Rep true k (fun s => if s = [] then none else f s)) (hkn : k.nt = 0)
      (h47 : ∀ s v, f s = some v → s = [] ∨ ∃ r, s = .b 47 :: r) (hne : ∃ s v, s ≠ [] ∧ f s = some v) : Rep b (.node () (58 :: n) idx false 2 pr h full [k]) f
  /-- a catch-all: two nodes -/
  | ca {b : Bool} {pr pr2 num : Nat} {full full2 n : List UInt8} (hn : word n) : Rep b (.node () [] [] true 3 pr none full [.node () (47 :: 42 :: n) [] false 3 pr2 (some num) full2 []]) (one [.b 47, .A n] (num, full2))
theorem bs_cons_ne (p : List UInt8) (x : Tok) (s : List Tok) : bs p ++ x :: s ≠ bs p := fun h => by
  have := congrArg List.length h
  simp at this
theorem one_self (s v) : one s v s = some v := if_pos rfl
theorem one_ne {s x : List Tok} (h : x ≠ s) (v) : one s v x = none := if_neg h
theorem at_one {p : List UInt8} {c : UInt8} {s : List Tok} (v) : at_ (one (bs p ++ .b c :: s) v) p c = one (.b c :: s) v := by
  funext x
  unfold at_ one
  by_cases h : x = .b c :: s
  · subst h; simp
  · rw [if_neg h]
    split
    · rw [if_neg fun e => h (List.append_cancel_left e)]
    · rfl
/-- a leaf of plain bytes -/
theorem rep_leaf {b : Bool} {pre : List UInt8} {nt pr h : Nat} {full : List UInt8} (hp : ∀ c ∈ pre, plainB c) (hnt : nt = 0 ∨ nt = 1) : Rep b (.node () pre [] false nt pr (some h) full []) (one (bs pre) (h, full)) := by
  refine .st [] new hp hnt (fun s v hs => ?_) (one_self _ _) List.nodup_nil (by simp) rfl (by simp) (by simp) (by simp) (fun c _ s => one_ne (bs_cons_ne _ _ _) _) (fun h => by cases h) (fun h => by cases h) (fun _ m s => one_ne (bs_cons_ne _ _ _) _) (fun m s => one_ne (bs_cons_ne _ _ _) _) (fun _ => .inl rfl)
  unfold one at hs
  split at hs
  · rename_i e; exact ⟨[], by rw [e, List.append_nil]⟩
  · cases hs
/-- a node ahead of a parameter alone -/
theorem rep_par {b : Bool} {pre n : List UInt8} {nt pr : Nat} {f0 : List UInt8} {k : T0} {q : List Tok} {v : Nat × List UInt8} (hp : ∀ c ∈ pre, plainB c) (hnt : nt = 0 ∨ nt = 1) (hn : word n) (hk : Rep true k (one q v)) (hk2 : k.nt = 2) (hkp : k.path = 58 :: n) :
    Rep b (.node () pre [] true nt pr none f0 [k]) (one (bs pre ++ .P n :: q) v) := by
  have e : (fun s => one (bs pre ++ .P n :: q) v (bs pre ++ .P n :: s)) = one q v := by
    funext s
    unfold one
    by_cases h : s = q
    · subst h; simp
    · rw [if_neg h, if_neg fun e => h (by have := List.append_cancel_left e; simpa using this)]
  refine .st n k hp hnt (fun s u hs => ?_) (one_ne (fun h => bs_cons_ne _ _ _ h.symm) _) List.nodup_nil (by simp) rfl (by simp) (by simp) (by simp) (fun c _ s => one_ne (fun h => ?_) _) (fun _ => ⟨rfl, hn, hk2, hkp, ⟨q, v, one_self _ _⟩, fun m hm s => one_ne (fun h => ?_) _⟩) (fun _ => by rw [e]; exact hk) (fun h => by cases h) (fun m s => one_ne (fun h => ?_) _) (fun _ => .inr (.inl rfl))
  · unfold one at hs
    split at hs
    · rename_i e; exact ⟨_, e⟩
    · cases hs
  · have := List.append_cancel_left h; simp at this
  · have := List.append_cancel_left h; simp at this; exact hm this.1
  · have := List.append_cancel_left h; simp at this
/-- a node ahead of a catch-all alone -/
theorem rep_cat {b : Bool} {pre n : List UInt8} {nt pr h : Nat} {f0 full : List UInt8} (hp : ∀ c ∈ pre, plainB c) (hnt : nt = 0 ∨ nt = 1) (hn : word n) :
    Rep b (.node () pre [47] false nt pr none f0 [.node () [] [] true 3 1 none full [.node () (47 :: 42 :: n) [] false 3 1 (some h) full []]]) (one (bs pre ++ [.b 47, .A n]) (h, full)) := by
  refine .st [] new hp hnt (fun s u hs => ?_) (one_ne (fun h => bs_cons_ne _ _ _ h.symm) _) (by simp) (by simp [plainB]) rfl (fun j c k hj hk => ?_) (fun j k hj hk => ?_) (fun c hc => ⟨[.A n], (h, full), ?_⟩) (fun c hc s => one_ne (fun e => ?_) _) (fun h => by cases h) (fun h => by cases h) (fun _ m s => one_ne (fun e => ?_) _) (fun m s => one_ne (fun e => ?_) _) (fun _ => .inr (.inr (.inr ⟨_, rfl, rfl, rfl⟩)))
  · unfold one at hs
    split at hs
    · rename_i e; exact ⟨_, e⟩
    · cases hs
  · match j, hj, hk with
    | 0, hj, hk =>
      cases hj; cases hk
      rw [at_one]
      exact .ca hn
    | j + 1, hj, _ => simp at hj
  · match j, hj, hk with
    | 0, _, hk => cases hk; exact .inr rfl
    | j + 1, hj, _ => simp at hj
  · rw [List.mem_singleton.1 hc]; exact one_self _ _
  · have := List.append_cancel_left e
    simp at this
    exact hc (by simp [this.1])
  · have := List.append_cancel_left e; simp at this
  · have := List.append_cancel_left e; simp at this
theorem par_leaf {b : Bool} {n : List UInt8} {pr h : Nat} {full : List UInt8} : Rep b (.node () (58 :: n) [] false 2 pr (some h) full []) (one [] (h, full)) :=
  .pa (one_self _ _) fun _ hs => one_ne hs _
theorem par_kid {b : Bool} {n idx : List UInt8} {pr : Nat} {full : List UInt8} {k : T0} {r : List Tok} {v : Nat × List UInt8} (hidx : idx = [] ∨ idx = [47]) (hk : Rep true k (one (.b 47 :: r) v)) (hkn : k.nt = 0) : Rep b (.node () (58 :: n) idx false 2 pr none full [k]) (one (.b 47 :: r) v) := by
  have e : (fun s => if s = [] then none else one (.b 47 :: r) v s) = one (.b 47 :: r) v := by
    funext s
    by_cases h : s = []
    · subst h; rw [if_pos rfl, one_ne (by simp)]
    · rw [if_neg h]
  refine .pk (one_ne (by simp) _) hidx (by rw [e]; exact hk) hkn (fun s u hs => ?_) ⟨_, v, by simp, one_self _ _⟩
  unfold one at hs
  split at hs
  · rename_i e; exact .inr ⟨r, e⟩
  · cases hs
/-- a route in a new node -/
theorem ins_fresh : ∀ (g : Nat) (sl : Bool) (s : List Tok) (nt pr h : Nat) (f0 full : List UInt8), (txt s).length < g → Ok sl s → (∃ c r, s = .b c :: r) → (nt = 0 ∨ nt = 1) →
    ∃ t', insT g (.node () [] [] false nt pr none f0 []) (txt s) full h = some (some t') ∧ Rep true t' (one s (h, full)) ∧ t'.nt = nt ∧ t'.pr = pr
  | 0, _, _, _, _, _, _, _, hg, _, _, _ => absurd hg (Nat.not_lt_zero _)
  | g + 1, sl, s, nt, pr, h, f0, full, hg, hok, hb, hnt => by
    obtain ⟨pre, r, rfl, hp, hr, hcase⟩ := tok_split sl s hok
    have hpre : pre ≠ [] := by
      rintro rfl
      obtain ⟨c, q, e⟩ := hb
      rcases hcase with rfl | ⟨n, q2, rfl⟩ | ⟨n, rfl⟩ <;> simp [bs] at e
    have hpl : 0 < pre.length := List.length_pos_iff.2 hpre
    rw [if_neg hpre] at hr
    rw [txt_app, txt_bs] at hg ⊢
    rcases hcase with rfl | ⟨n, q, rfl⟩ | ⟨n, rfl⟩
    · have hf := fw_plain pre 0 hp
      simp only [txt, List.append_nil] at *
      unfold insT
      rw [hf]
      exact ⟨_, rfl, rep_leaf hp hnt, rfl, rfl⟩
    · obtain ⟨h1, hn, hq, hq2⟩ := hr
      have hn0 : 0 < n.length := List.length_pos_iff.2 hn.1
      have hf := fw_P (t := txt q) hp hn (txt_hd47 hq)
      simp only [txt] at hg ⊢
      unfold insT
      rw [hf]
      have hl : ¬ (58 :: n).length < 2 := by simp; omega
      simp only [hl, if_false, List.head?_cons, if_true, hpl, List.take_left, List.drop_left]
      have hd : (58 :: (n ++ txt q)).drop (58 :: n).length = txt q := by simp
      rw [hd]
      rcases hq with rfl | ⟨q', rfl⟩
      · have : ¬ (58 :: n).length < (58 :: (n ++ txt [])).length := by simp [txt]
        rw [if_neg this]
        exact ⟨_, rfl, rep_par hp hnt hn par_leaf rfl rfl, rfl, rfl⟩
      · have : (58 :: n).length < (58 :: (n ++ txt (.b 47 :: q'))).length := by simp [txt]
        rw [if_pos this]
        obtain ⟨t', h3, h4, h5, h6⟩ := ins_fresh g false (.b 47 :: q') 0 1 h full full (by simp at hg; omega) hq2 ⟨47, q', rfl⟩ (.inl rfl)
        rw [h3]
        refine ⟨_, rfl, rep_par hp hnt hn (par_kid (.inl rfl) h4 h5) rfl rfl, rfl, rfl⟩
    · obtain ⟨h1, hn, _⟩ := hr
      have hn0 : 0 < n.length := List.length_pos_iff.2 hn.1
      obtain ⟨pre0, rfl⟩ : ∃ pre0, pre = pre0 ++ [47] := by
        rcases List.eq_nil_or_concat pre with e | ⟨l, c, e⟩
        · exact absurd e hpre
        · rw [List.concat_eq_append] at e
          subst e
          simp at h1
          subst h1
          exact ⟨l, rfl⟩
      have e1 : txt [.A n] = 42 :: n := by simp [txt]
      rw [e1] at hg ⊢
      have hf := fw_A hp hn
      have hl : ¬ (42 :: n).length < 2 := by simp; omega
      have hh : ¬ ((some 42 : Option UInt8) = some 58) := by decide
      have hlen : ¬ ((pre0 ++ [47]).length + (42 :: n).length ≠ (pre0 ++ [47] ++ 42 :: n).length) := by simp; omega
      have hi : ¬ ((pre0 ++ [47]).length = 0 ∨ (pre0 ++ [47] ++ 42 :: n)[(pre0 ++ [47]).length - 1]? ≠ some 47) := by simp
      unfold insT
      simp only [hf, hl, if_false, List.head?_cons, hh, hlen]
      rw [if_neg (by simp : ¬ (([] : List UInt8).getLast? = some 47)), if_neg hi]
      have ht : (pre0 ++ [47] ++ 42 :: n).take ((pre0 ++ [47]).length - 1) = pre0 := by simp
      have hd : (pre0 ++ [47] ++ 42 :: n).drop ((pre0 ++ [47]).length - 1) = 47 :: 42 :: n := by simp
      rw [ht, hd]
      have e2 : bs (pre0 ++ [47]) ++ [.A n] = bs pre0 ++ [.b 47, .A n] := by rw [bs_app]; simp [bs]
      rw [e2]
      exact ⟨_, rfl, rep_cat (fun c hc => hp c (List.mem_append_left _ hc)) hnt hn, rfl, rfl⟩
end Gt
