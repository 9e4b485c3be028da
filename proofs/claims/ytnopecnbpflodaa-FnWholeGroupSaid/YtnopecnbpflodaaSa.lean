/- GinFind at a table of clean routes. -/
import Derived.Test.YtnopecnbpflodaaOa
import Derived.Test.YtnopecnbpflodaaPq
import Derived.Test.YtnopecnbpflodaaUa
import Derived.Test.YtnopecnbpflodaaNb
import Derived.Test.YtnopecnbpflodaaKa
/- GinFind at a table of clean routes. -/
set_option maxRecDepth 20000
namespace Go.Proofs
open Go Bw
open Gt
theorem foldl_max_ge {α : Type} (f : α → Nat) : ∀ (l : List α) (m : Nat), m ≤ l.foldl (fun m r => max m (f r)) m ∧ ∀ r ∈ l, f r ≤ l.foldl (fun m r => max m (f r)) m
 | [], m => ⟨Nat.le_refl _, fun r h => by cases h⟩
 | a :: l, m => by
  obtain ⟨h1, h2⟩ := foldl_max_ge f l (max m (f a))
  refine ⟨Nat.le_trans (Nat.le_max_left _ _) h1, fun r hr => ?_⟩
  rcases List.mem_cons.1 hr with rfl | hr
  ·exact Nat.le_trans (Nat.le_max_right _ _) h1
  ·exact h2 r hr
theorem mx_ge {l : List (List Tok)} : ∀ r ∈ l, nW r ≤ mxP l ∧ nS r ≤ mxS l := fun r h =>
 ⟨Nat.le_trans (nW_le r) ((foldl_max_ge (fun r : List Tok => (txt r).count 58 + (txt r).count 42) l 0).2 r h), Nat.le_trans (nS_le r) ((foldl_max_ge (fun r : List Tok => (txt r).count 47) l 0).2 r h)⟩
/-- what a run on a table's tree tells -/
def Told (l : List (List Prt)) (un : Bool) (p : List UInt8) (r : Res) : Prop := (∃ t g, addAll new ((l.map tokT).map txt) 0 = .inl t ∧ getC (unV un) (mxP (l.map tokT)) (mxS (l.map tokT)) g t p [] [] = some r) ∧ r.ps.length ≤ 20000 ∧ SoundN l p (unV un) r ∧ (¬ OpenN l p → FoundN l p (unV un) r)
theorem table_txt {l : List (List Prt)} (ht : TableN l) : l.map rtT = (l.map tokT).map txt := by
 rw [List.map_map]
 exact List.map_congr_left fun r hr => (txt_tokT (ht.clean r hr).k2).symm
theorem table_good {l : List (List Prt)} (ht : TableN l) : (∀ r ∈ l.map tokT, Gt.Good r) ∧ (∀ r ∈ l.map tokT, (txt r).length ≤ 20000) ∧ ∀ r ∈ l.map tokT, ∀ c ∈ txt r, c ≠ 92 := by
 have key : ∀ r ∈ l.map tokT, Gt.Good r ∧ (txt r).length ≤ 20000 ∧ ∀ c ∈ txt r, c ≠ 92 := fun r hr => by
  obtain ⟨x, hx, rfl⟩ := List.mem_map.1 hr
  have hc := ht.clean x hx
  rw [txt_tokT hc.k2]
  exact ⟨hc.good, hc.txt⟩
 exact ⟨fun r hr => (key r hr).1, fun r hr => (key r hr).2.1, fun r hr => (key r hr).2.2⟩
/-- GinFind of many paths -/
theorem f15_fits (w : World) (l : List (List Prt)) (sv : Value) (h30 : l.length ≤ 30) (htab : TableN l) (hsv : Txts w sv (l.map rtT)) (ps : List (List UInt8)) (pv : Value) (hpv : Txts w pv ps) (hps : ∀ p ∈ ps, FitsN l p) (hpn : ps.length ≤ 100000) (un : Bool) :
  Calls Try.prog 15 #[sv, pv, .bool un] w fun e w' => ∃ rr fv cells Hf Hq, rr.length = ps.length ∧ (∀ (i : Nat) p r, ps[i]? = some p → rr[i]? = some r → Told l un p r) ∧ e = .returned (.tuple #[fv, .bool true]) ∧ Own 30 4 fv rr.length cells Hf ∧ Fnds rr cells Hq ∧ HF w (fun _ => False) (Hf ++ Hq) w' := by
 obtain ⟨hg, hl, h92⟩ := table_good htab
 rw [table_txt htab] at hsv
 refine (f15_any w (l.map tokT) sv hg hl h92 (by rw [List.length_map]; omega) hsv ps pv hpv (fun p hp => by have := (hps p hp).2.2.2.2; omega) hpn un (fun t ht p hp => ?_)).mono fun e w' h => ?_
 ·obtain ⟨g, r, h1, h2, _⟩ := gin_found (hps p hp) mx_ge (unV un) ht
  exact ⟨g, r, h1, h2⟩
 ·rcases h with ⟨j, h1, _⟩ | ⟨t, rr, fv, cells, Hf, Hq, h1, h2, h3, h4, h5, h6, h7⟩
  ·obtain ⟨t, ht⟩ := addAll_perm hg htab.pw (.refl _)
   rw [ht] at h1; cases h1
  ·refine ⟨rr, fv, cells, Hf, Hq, h2, fun i p r hp hr => ?_, h4, h5, h6, h7⟩
   obtain ⟨g, hgr⟩ := h3 i p r hp hr
   obtain ⟨g2, r2, h8, h9, h10, h11⟩ := gin_found (hps p (List.mem_of_getElem? hp)) mx_ge (unV un) h1
   have e := getC_det hgr h8
   subst e
   exact ⟨⟨t, g, h1, hgr⟩, Nat.le_trans h9 (mxP_le hl), h10, h11⟩
/-- GinFind of one path -/
theorem f15_fit1 (w : World) (l : List (List Prt)) (sv : Value) (p : List UInt8) (hf : FitsN l p) (hsv : Txts w sv (l.map rtT)) (pv : Value) (hpv : Txts w pv [p]) (un : Bool) :
  Calls Try.prog 15 #[sv, pv, .bool un] w fun e w' => ∃ r fb cap spare pa Ha, Told l un p r ∧ e = .returned (.tuple #[.slice (some ⟨fb, 0, none⟩) 1 cap, .bool true]) ∧ Own 32 2 pa r.ps.length (flatP r.ps) Ha ∧ HF w (fun _ => False) (⟨fb, true, .row (fndV r pa ++ spare) 30 (0, 0)⟩ :: Ha) w' := by
 refine (f15_fits w l sv hf.1 hf.2.1 hsv [p] pv hpv (fun q hq => by rw [List.mem_singleton.1 hq]; exact hf) (by simp) un).mono fun e w' ⟨rr, fv, cells, Hf, Hq, h2, h3, h4, h5, h6, h7⟩ => ?_
 obtain ⟨r1, rfl⟩ : ∃ r1, rr = [r1] := by
  match rr, h2 with
  | [r1], _ => exact ⟨r1, rfl⟩
 obtain ⟨pa, rfl, ho⟩ := h6.one
 obtain ⟨fb, cap, spare, rfl, rfl⟩ := h5.at (i := 0) (by simp)
 exact ⟨r1, fb, cap, spare, pa, Hq, h3 0 p r1 rfl rfl, h4, ho, h7⟩
end Go.Proofs
