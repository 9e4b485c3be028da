/- What Router.Find does over a table of nodes. -/
import Derived.Test.YtekclaobeccbdaaDoorBf
import Derived.Test.YtekclaobeccbdaaDoorBe
/- Find: its loop, by induction on the machine's run. -/
namespace Go.Proofs
open Go Bw

/-- what Find leaves in the context -/
inductive FOut (L : List Rt) (T : List NR) (meth : List UInt8) (cb h0 : Nat) (sl : Value) : Res → List (List UInt8) → SH → Prop
  | none' {vals} : FOut L T meth cb h0 sl (.none' vals) vals [cxE cb sl (.slice none 0 0) (Pt h0 0) [] []]
  | hit {vals} {rt : Rt} (hr : rt ∈ L) : FOut L T meth cb h0 sl (.hit rt.h vals) vals [cxE cb sl (.slice rt.pad rt.nms.length rt.pcp) (Pt rt.hh 0) rt.rb.p []]
  | missNf {vals} {rt : Rt} {r : NR} (hr : rt ∈ L) (hT : r ∈ T) (hn : r.nf = some rt.h) : FOut L T meth cb h0 sl (.miss r.n vals) vals [cxE cb sl (.slice rt.pad rt.nms.length rt.pcp) (Pt rt.hh 0) rt.rb.p []]
  | miss {vals} {hb : Nat} {r : NR} (hT : r ∈ T) (hn : r.nf = none) (hd : r.hdl = true) : FOut L T meth cb h0 sl (.miss r.n vals) vals [cxE cb sl (.slice none 0 0) (Pt hb 0) r.orig r.hdr, ⟨hb, true, .row [I (if meth = optM then -3 else -2)] 3 (0, 0)⟩]

structure StOk (T : List NR) (path : List UInt8) (z : Nat) (st : St) : Prop where
  si : st.si ≤ path.length
  pi : st.pi ≤ z
  vz : st.vals.length = z
  best : ∀ b, st.best = some b → ∃ r ∈ T, r.n = b ∧ (r.hdl = true ∨ r.nf ≠ none)

noncomputable def Kl : Nat → List Item
  | 0 => K59
  | 1 => K59p
  | _ => K59a

structure TOk (L : List Rt) (T : List NR) (E : SH) (Bd : Nat) : Prop where
  cl : Cl T
  ok : ∀ r ∈ T, r.ok Bd
  bd : Bd ≤ 1000000
  pl : ∀ r ∈ T, r.pre.length ≤ 1000000
  dat : ∀ r ∈ T, ∀ m h, getM r.f r.kv m = some h → ∃ rt ∈ L, rt.h = h
  nf : ∀ r ∈ T, ∀ h, r.nf = some h → ∃ rt ∈ L, rt.h = h
  any : ∀ r ∈ T, r.kd = 2 → r.hdl = true ∨ r.nf ≠ none
  up : ∀ r ∈ T, ∀ p, r.par = some p → ∃ x ∈ T, x.n = p
  tE : ∀ e ∈ ents T, e ∈ E
  lE : ∀ rt ∈ L, ∀ e ∈ rt.ents, e ∈ E

section
variable {L : List Rt} {T : List NR} {E : SH} {Bd : Nat} {R : Ending → World → Prop} {w : World} {D : Nat → Prop} {B : LB} {cb h0 : Nat} {meth path : List UInt8} {sl : Value}

theorem adv_le {r : NR} {si : Nat} (hk : r.kd = 0 → r.pre <+: path.drop si) (hsi : si ≤ path.length) : adv r si ≤ path.length := by
  unfold adv
  split
  · rename_i h
    have := (hk h).length_le
    rw [List.length_drop] at this
    omega
  · exact hsi

theorem fin_hit (hE : RF w D E) (hT : TOk L T E Bd) {h : Nat} {rt : Rt} (hrt : rt ∈ L) (hh : rt.h = h) {n : Nat} {best : Option Nat} {fr : SF} {si pi : Nat} {s : List UInt8} {vals : List (List UInt8)}
    (hR : ∀ vals' X cur si pi s w', FOut L T meth cb h0 sl (.hit h vals) vals' X → HF w D (B.ents path cur si pi s vals' ++ X) w' → R (.returned (.tuple #[])) w') (hs : Sub (F59e B cb meth best (some h)) fr) :
    GC Tryd.prog ⟨59, Tryd.f59, R, w, D⟩ 316 K59e fr (B.ents path (some n) si pi s vals ++ [cxE cb sl (.slice none 0 0) (Pt h0 0) [] []]) := by
  subst hh
  exact f59_ehit hE (hT.lE rt hrt _ (.tail _ (.tail _ (.head _)))) hs (fun w' hw' => hR _ _ _ _ _ _ w' (.hit hrt) hw')

theorem fin_res (hE : RF w D E) (hT : TOk L T E Bd) {best : Option Nat} (hb : ∀ b, best = some b → ∃ r ∈ T, r.n = b ∧ (r.hdl = true ∨ r.nf ≠ none)) {cur : Option Nat} (hc : best = none → cur = none) {fr : SF} {si pi : Nat} {s : List UInt8} {vals : List (List UInt8)}
    (hR : ∀ vals' X cur si pi s w', FOut L T meth cb h0 sl (resOf best vals) vals' X → HF w D (B.ents path cur si pi s vals' ++ X) w' → R (.returned (.tuple #[])) w') (hs : Sub (F59e B cb meth best none) fr) :
    GC Tryd.prog ⟨59, Tryd.f59, R, w, D⟩ 316 K59e fr (B.ents path cur si pi s vals ++ [cxE cb sl (.slice none 0 0) (Pt h0 0) [] []]) := by
  cases best with
  | none =>
    rw [hc rfl]
    exact f59_end hs fun w' hw' => hR _ _ _ _ _ _ w' .none' hw'
  | some b =>
    obtain ⟨r, hr, rfl, hd⟩ := hb b rfl
    have hrE : ∀ e ∈ r.ents, e ∈ E := fun e he => hT.tE e (ents_mem hr he)
    cases hnf : r.nf with
    | some h =>
      obtain ⟨rt, hrt, hh⟩ := hT.nf r hr h hnf
      subst hh
      have hm := hT.lE rt hrt _ (.tail _ (.tail _ (.head _)))
      cases cur with
      | none => exact f59_emissNf0 (_n := 0) hE hrE hm hnf hs fun w' hw' => hR _ _ _ _ _ _ w' (.missNf hrt hr hnf) hw'
      | some n => exact f59_emissNf1 hE hrE hm hnf hs fun w' hw' => hR _ _ _ _ _ _ w' (.missNf hrt hr hnf) hw'
    | none =>
      have hdl : r.hdl = true := hd.resolve_right (fun h => h hnf)
      have fin : ∀ (hb : Nat) w', HF w D (⟨hb, true, .row [I (if meth = optM then -3 else -2)] 3 (0, 0)⟩ :: (B.ents path (some r.n) si pi s vals ++ [cxE cb sl (.slice none 0 0) (Pt hb 0) r.orig r.hdr])) w' → R (.returned (.tuple #[])) w' := fun hb w' hw' =>
        hR _ _ _ _ _ _ w' (.miss (hb := hb) hr hnf hdl) (hw'.perm (by
          have : ∀ (a b : Ent) (X : SH), (a :: (X ++ [b])).Perm (X ++ [b, a]) := fun a b X => by
            rw [show X ++ [b, a] = (X ++ [b]) ++ [a] by simp]
            exact (List.perm_append_singleton a (X ++ [b])).symm
          exact this _ _ _))
      cases cur with
      | none => exact f59_emiss0 (_n := 0) hE hrE hnf hdl hs fin
      | some n => exact f59_emiss1 hE hrE hnf hdl hs fin

theorem f59_run (hE : RF w D E) (hT : TOk L T E Bd) (hpl : path.length ≤ 1000000) (hz : B.z ≤ 1000) :
    ∀ {lbl : Nat} {st : St} {res : Res}, Run T meth path lbl st res → StOk T path B.z st →
      (∀ vals' X cur si pi s w', FOut L T meth cb h0 sl res vals' X → HF w D (B.ents path cur si pi s vals' ++ X) w' → R (.returned (.tuple #[])) w') →
      ∀ fr, Sub (F59 B cb meth st.best) fr → GC Tryd.prog ⟨59, Tryd.f59, R, w, D⟩ 316 (Kl lbl) fr (H59 B path st (cxE cb sl (.slice none 0 0) (Pt h0 0) [] [])) := by
  intro lbl st res hrun
  induction hrun with
  | @off0 r st hr hn hk hp h0' =>
    intro hst hR fr hs
    have := hst.pi
    exact f59_off hE (fun e he => hT.tE e (ents_mem hr he)) hn hpl (hT.pl r hr) hst.si (by omega) rfl hs hk hp (fun _ w' hw' => hR _ _ _ _ _ _ w' .none' hw') (fun p _ h => by rw [h0'] at h; cases h)
  | @off1 r st p x hr hn hk hp h0' h ih =>
    intro hst hR fr hs
    have := hst.pi
    refine f59_off hE (fun e he => hT.tE e (ents_mem hr he)) hn hpl (hT.pl r hr) hst.si (by omega) rfl hs hk hp (fun h => by rw [h0'] at h; cases h) (fun p' fr' hp' hs' => ?_)
    rw [h0'] at hp'; cases hp'
    exact ih ⟨hst.si, hst.pi, hst.vz, hst.best⟩ hR fr' hs'
  | @hit r st h hr hn hk he hh hg =>
    intro hst hR fr hs
    have := hst.pi
    refine f59_top hE (fun e he => hT.tE e (ents_mem hr he)) hn hpl (hT.pl r hr) hst.si (by omega) rfl hs hk fun fr' hs' => ?_
    refine f59_hit hE hT.tE hT.cl hr (hT.ok r hr) hT.bd hn hpl (hT.pl r hr) (adv_le hk hst.si) hs' he hh hg fun fr2 hs2 => ?_
    obtain ⟨rt, hrt, hh'⟩ := hT.dat r hr meth h hg
    exact fin_hit hE hT hrt hh' hR hs2
  | @nf r st h hr hn hk he hh hg =>
    intro hst hR fr hs
    have := hst.pi
    refine f59_top hE (fun e he => hT.tE e (ents_mem hr he)) hn hpl (hT.pl r hr) hst.si (by omega) rfl hs hk fun fr' hs' => ?_
    refine f59_nf hE hT.tE hT.cl hr (hT.ok r hr) hT.bd hn hpl (hT.pl r hr) (adv_le hk hst.si) hs' he hh hg fun fr2 hs2 => ?_
    obtain ⟨rt, hrt, hh'⟩ := hT.nf r hr h hg
    exact fin_hit hE hT hrt hh' hR hs2
  | @down r st c x hr hn hk he hc h ih =>
    intro hst hR fr hs
    have := hst.pi
    refine f59_top hE (fun e he => hT.tE e (ents_mem hr he)) hn hpl (hT.pl r hr) hst.si (by omega) rfl hs hk fun fr' hs' => ?_
    refine f59_down hE hT.tE hT.cl hr (hT.ok r hr) hT.bd hn hpl (hT.pl r hr) (adv_le hk hst.si) hs' he hc fun fr2 hs2 => ?_
    exact ih ⟨adv_le hk hst.si, hst.pi, hst.vz, hst.best⟩ hR fr2 hs2
  | @stay r st x hr hn hk he hc h ih =>
    intro hst hR fr hs
    have := hst.pi
    refine f59_top hE (fun e he => hT.tE e (ents_mem hr he)) hn hpl (hT.pl r hr) hst.si (by omega) rfl hs hk fun fr' hs' => ?_
    refine f59_stay hE hT.tE hT.cl hr (hT.ok r hr) hT.bd hn hpl (hT.pl r hr) (adv_le hk hst.si) hs' he hc fun fr2 hs2 => ?_
    refine ih ⟨adv_le hk hst.si, hst.pi, hst.vz, fun b hb => ?_⟩ hR fr2 hs2
    simp only [best1] at hb
    split at hb
    · rename_i h3
      simp only [Option.some.injEq] at hb
      exact ⟨r, hr, hb, .inl h3.2.1⟩
    · exact hst.best b hb
  | @par r c st x hr hn hp hc hs0 hv h ih =>
    intro hst hR fr hs
    have := hst.pi
    refine f59_par hE hT.tE hr hn hpl hst.si (by omega) hst.vz hs hp hc hs0 hv fun fr2 hs2 => ?_
    refine ih ⟨?_, ?_, ?_, hst.best⟩ hR fr2 hs2
    · have h1 := upTo_le (path.drop st.si)
      have h2 : (path.drop st.si).length = path.length - st.si := List.length_drop
      have := hst.si
      show st.si + (if c.leaf then (path.drop st.si).length else upTo (path.drop st.si)) ≤ path.length
      split <;> omega
    · show st.pi + 1 ≤ B.z
      have := hst.vz; omega
    · show (st.vals.set _ _).length = B.z
      rw [List.length_set]; exact hst.vz
  | @npar r st x hr hn hp h ih =>
    intro hst hR fr hs
    have := hst.pi
    exact f59_npar hE hT.tE hr hn hpl hst.si (by omega) hst.vz hs hp fun fr2 hs2 => ih hst hR fr2 hs2
  | @anyHit r c st h hr hn ha hc hpc hv hg =>
    intro hst hR fr hs
    have := hst.pi
    obtain ⟨rt, hrt, hh'⟩ := hT.dat c hc meth h hg
    exact f59_anyHit hE hT.tE hr hn hpl hst.si (by omega) hst.vz hs ha hc (hT.ok c hc) hpc hv hg fun fr2 hs2 => fin_hit hE hT hrt hh' hR hs2
  | @anyNf r c st h hr hn ha hc hpc hv hg hf =>
    intro hst hR fr hs
    have := hst.pi
    obtain ⟨rt, hrt, hh'⟩ := hT.nf c hc h hf
    exact f59_anyNf hE hT.tE hr hn hpl hst.si (by omega) hst.vz hs ha hc (hT.ok c hc) hpc hv hg hf fun fr2 hs2 => fin_hit hE hT hrt hh' hR hs2
  | @anyStop r c st hr hn ha hc hk hpc hv hg hf =>
    intro hst hR fr hs
    have := hst.pi
    refine f59_anyStop hE hT.tE hr hn hpl hst.si (by omega) hst.vz hs ha hc (hT.ok c hc) hpc hv hk hg hf fun fr2 hs2 => ?_
    refine fin_res hE hT (best := some (st.best.getD c.n)) (fun b hb => ?_) (fun h => by cases h) hR hs2
    simp only [Option.some.injEq] at hb
    cases hbb : st.best with
    | none => rw [hbb] at hb; exact ⟨c, hc, hb, hT.any c hc hk⟩
    | some b' => rw [hbb] at hb; exact hst.best b (by rw [hbb]; exact congrArg some hb)
  | @end0 r st hr hn ha hk hs0 h0' =>
    intro hst hR fr hs
    have := hst.pi
    exact f59_up0 hE hT.tE hr hn hpl hst.si (by omega) hst.vz hs ha hk hs0 (fun _ fr2 hs2 => fin_res hE hT hst.best (fun _ => rfl) hR hs2) (fun p h => by rw [h0'] at h; cases h)
  | @up0 r st p x hr hn ha hk hs0 h0' h ih =>
    intro hst hR fr hs
    have := hst.pi
    refine f59_up0 hE hT.tE hr hn hpl hst.si (by omega) hst.vz hs ha hk hs0 (fun h => by rw [h0'] at h; cases h) (fun p' hp' fr2 hs2 => ?_)
    rw [h0'] at hp'; cases hp'
    exact ih ⟨by have := hst.si; show st.si - _ ≤ _; omega, hst.pi, hst.vz, hst.best⟩ hR fr2 hs2
  | @up1 r st p x v hr hn ha hk hpi hv hs0 h0' h ih =>
    intro hst hR fr hs
    have := hst.pi
    refine f59_up1 hE hT.tE hr hn hpl hst.si (by omega) hst.vz hs ha hk hpi hv hs0 h0' (fun fr2 hs2 => ?_)
    exact ih ⟨by have := hst.si; show st.si - _ ≤ _; omega, by show st.pi - 1 ≤ _; omega, by show (st.vals.set _ _).length = _; rw [List.length_set]; exact hst.vz, hst.best⟩ hR fr2 hs2
end
end Go.Proofs

/- Find: the entry. Printed by wip/mk_f7.py. -/
namespace Go.Proofs
open Go Bw
set_option maxRecDepth 20000

theorem f59_any (w : World) (D : Nat → Prop) (E : SH) (L : List Rt) (T : List NR) (Bd rb root rt eb cb pb h0 z : Nat) (meth path : List UInt8) (res : Res) (hE : RF w D E) (hT : TOk L T E Bd) (hrt : rtE rb root rt eb ∈ E) (hpl : path.length ≤ 1000000) (hz : z ≤ 1000)
    (hrun : Run T meth path 0 ⟨root, 0, 0, List.replicate z [], none⟩ res)
    (hH : HF w D [cxE cb (.slice (some ⟨pb, 0, none⟩) z z) (.slice none 0 0) (Pt h0 0) [] [], ⟨pb, true, .row (List.replicate z (S [])) 9 (0, 0)⟩] w) :
    Calls Tryd.prog 59 #[Pt rb 0, S meth, S path, Pt cb 0] w fun e w' => e = .returned (.tuple #[]) ∧ ∃ vals X, FOut L T meth cb h0 (.slice (some ⟨pb, 0, none⟩) z z) res vals X ∧ HF w D (⟨pb, true, .row (vals.map S) 9 (0, 0)⟩ :: X) w' := by
  have hroot : w.cell? ⟨rb, 0, none⟩ = some (Pt root 0) := hE.cell hrt rfl
  have hDr : ¬ D rb := hE.D hrt
  refine enter D [cxE cb (.slice (some ⟨pb, 0, none⟩) z z) (.slice none 0 0) (Pt h0 0) [] [], ⟨pb, true, .row (List.replicate z (S [])) 9 (0, 0)⟩] Tryd.func59 rfl Tryd.ntmps59 rfl rfl hH fun c hc => ?_
  subst hc
  refine GC.seq ?_
  refine GC.reg ?_  -- region 0, router.go:525
  refine G.bx (l := [S path]) rfl rfl rfl (fun b6 hb6 => ?_)
  refine G.nil ?_
  refine GC.seq ?_
  refine GC.reg ?_  -- region 1, router.go:526
  refine G.v (V.mv rfl) rfl ?_
  refine G.v (V.asg rfl) rfl ?_
  refine G.nil ?_
  refine GC.seq ?_
  refine GC.reg ?_  -- region 2, router.go:527
  refine G.v (V.mv rfl) rfl ?_
  refine G.v (V.nc rfl) rfl ?_
  refine G.v (V.fa F139_0 rfl) rfl ?_
  refine G.v (V.ldC Tryd.isAgg136 rfl hroot hDr) rfl ?_
  refine G.al Tryd.zeroValue136 rfl rfl (fun b9 hb9 => ?_)
  refine G.st Tryd.sizeOf136 rfl rfl rfl (.z) rfl rfl ?_
  refine G.nil ?_
  refine GC.seq ?_
  refine GC.reg ?_  -- region 3, router.go:530
  refine G.v (V.asg rfl) rfl ?_
  refine G.nil ?_
  refine GC.seq ?_
  refine GC.reg ?_  -- region 4, router.go:531
  refine G.v (V.asg rfl) rfl ?_
  refine G.nil ?_
  refine GC.seq ?_
  refine GC.reg ?_  -- region 5, router.go:534
  refine G.v (V.ld Tryd.isAgg9 rfl (.tail _ (.head _)) rfl) rfl ?_
  refine G.al Tryd.zeroValue9 rfl rfl (fun b12 hb12 => ?_)
  refine G.st Tryd.sizeOf9 rfl rfl rfl (.z) rfl rfl ?_
  refine G.nil ?_
  refine GC.seq ?_
  refine GC.reg ?_  -- region 6, router.go:535
  refine G.al Tryd.zeroValue3 rfl rfl (fun b13 hb13 => ?_)
  refine G.st (v := I 0) Tryd.sizeOf3 rfl rfl rfl .z rfl rfl ?_
  refine G.nil ?_
  refine GC.seq ?_
  refine GC.reg ?_  -- region 7, router.go:536
  refine G.al Tryd.zeroValue3 rfl rfl (fun b14 hb14 => ?_)
  refine G.nil ?_
  refine GC.seq ?_
  refine GC.reg ?_  -- region 8, router.go:537
  refine G.v (V.mv rfl) rfl ?_
  refine G.v (V.nc rfl) rfl ?_
  refine G.v (V.fa F98_0 rfl) rfl ?_
  refine G.v (V.ld Tryd.isAgg24 rfl (.tail _ (.tail _ (.tail _ (.tail _ (.tail _ (.head _)))))) rfl) rfl ?_
  refine G.al Tryd.zeroValue24 rfl rfl (fun b15 hb15 => ?_)
  refine G.st Tryd.sizeOf24 rfl rfl rfl (.z) rfl rfl ?_
  refine G.nil ?_
  refine GC.seq ?_
  refine GC.reg ?_  -- region 9, router.go:545
  refine G.v (v := cloV ⟨b9, b13, b14, b15, b6, b12, pb, z⟩) (V.mkF rfl) rfl ?_
  refine G.v (V.asg rfl) rfl ?_
  refine G.nil ?_
  refine GC.seq ?_
  refine GC.block ?_
  refine GC.loop ?_
  refine GC.turn (H' := H59 ⟨b9, b13, b14, b15, b6, b12, pb, z⟩ path ⟨root, 0, 0, List.replicate z [], none⟩ (cxE cb (.slice (some ⟨pb, 0, none⟩) z z) (.slice none 0 0) (Pt h0 0) [] [])) (fun w1 hw1 => HF.perm (H := [⟨b15, true, .row [.slice (some ⟨pb, 0, none⟩) z z] 24 (0, 0)⟩, ⟨b14, true, .row [I 0] 3 (0, 0)⟩, ⟨b13, true, .row [I 0] 3 (0, 0)⟩, ⟨b12, true, .row [S path] 9 (0, 0)⟩, ⟨b9, true, .row [Pt root 0] 136 (0, 0)⟩, ⟨b6, true, .row [S path] 9 (0, 0)⟩, cxE cb (.slice (some ⟨pb, 0, none⟩) z z) (.slice none 0 0) (Pt h0 0) [] [], ⟨pb, true, .row (List.replicate z (S [])) 9 (0, 0)⟩]) hw1 ?_) ?_
  · have p := perm_idx [[⟨b15, true, .row [.slice (some ⟨pb, 0, none⟩) z z] 24 (0, 0)⟩], [⟨b14, true, .row [I 0] 3 (0, 0)⟩], [⟨b13, true, .row [I 0] 3 (0, 0)⟩], [⟨b12, true, .row [S path] 9 (0, 0)⟩], [⟨b9, true, .row [Pt root 0] 136 (0, 0)⟩], [⟨b6, true, .row [S path] 9 (0, 0)⟩], [cxE cb (.slice (some ⟨pb, 0, none⟩) z z) (.slice none 0 0) (Pt h0 0) [] []], [(⟨pb, true, .row (List.replicate z (S [])) 9 (0, 0)⟩ : Ent)]] [0, 1, 2, 3, 4, 5, 6, 7] [4, 2, 1, 0, 5, 3, 7, 6] (by decide)
    refine List.Perm.trans (.of_eq ?_) (p.trans (.of_eq ?_))
    · rfl
    · simp [H59, LB.ents, PO]
  refine f59_run (L := L) (T := T) (Bd := Bd) hE hT hpl hz hrun ⟨Nat.zero_le _, Nat.zero_le _, by simp, fun b hb => by cases hb⟩ (fun vals' X cur si pi s w' ho hw' => ⟨rfl, vals', X, ho, hw'.sub (.cons _ (.cons _ (.cons _ (.cons _ (.cons _ (.cons _ (List.Sublist.refl _)))))))⟩) _ (.cons rfl (.cons rfl (.cons rfl (.cons rfl (.cons rfl (.cons rfl (.cons rfl (.cons rfl (.cons rfl (.cons rfl (.cons rfl .nil)))))))))))
end Go.Proofs

/- Regions that draw, whichever order. No program in sight. -/
namespace Bw
open Go

variable {P : Program} {c : Cx} {n : Nat} {k : List Item} {fr : SF} {H : SH} {ops : Array Oper} {ty : TypeId} {pos : String} {aft : Array Edge} {S : World → Prop} {fuel : Nat} {listed : Array Bool}

def GA (P : Program) (c : Cx) (n : Nat) (k : List Item) (ops : Array Oper) (S : World → Prop) (fuel : Nat) (listed : Array Bool) (fr : SF) (H : SH) : Prop :=
  P.funcs[c.f]? = some c.fn → ∀ a w, Fr n fr a → HF c.w0 c.D H w → wpAnyH P .any ops (Qk P c k) S fuel listed a w
/-- operation o is carried out now -/
def GB (P : Program) (c : Cx) (n : Nat) (k : List Item) (ops : Array Oper) (S : World → Prop) (fuel : Nat) (listed : Array Bool) (o : Oper) (fr : SF) (H : SH) : Prop :=
  P.funcs[c.f]? = some c.fn → ∀ a w, Fr n fr a → HF c.w0 c.D H w → if Region.wanted o (yielded ops a.tmps) = true then o.wp P a w (fun a' w' => S w' ∧ wpAnyH P .any ops (Qk P c k) S fuel listed a' w') (Qk P c k) else S w ∧ wpAnyH P .any ops (Qk P c k) S fuel listed (a.put o.dst undef) w

theorem GC.regA {id : Nat} {l : List Oper} (S : World → Prop) (hm : P.follows .mixedOrders = true) (h : GA P c n k l.toArray S l.toArray.size (Array.replicate l.toArray.size false) fr H) : GC P c n (.code (.region id l.toArray true) :: k) fr H :=
  fun hf a _w ha hw => Runs.of_wp hf (wp_region_held (S := S) hm (h hf a _ ha (hw.drew _)))

theorem GA.take {i d : Nat} {op : Op} {v : Value} (hi : ops[i]? = some ⟨some d, op, ty, pos, aft, none⟩) (hB : (Region.noSelect ops && Region.free .any ops listed i && (Region.ready .any ops listed).contains i) = true)
    (hS : ∀ w, HF c.w0 c.D H w → S w) (hv : ∀ a w, Fr n fr a → S w → ∀ dst pos aft g, (execOp a.eval ⟨dst, op, ty, pos, aft, g⟩).run P w = .ok (.value v) w) (hd : Nat.blt d n = true)
    (h : GA P c n k ops S fuel (listed.setIfInBounds i true) ((d, v) :: fr) H) : GA P c n k ops S (fuel + 1) listed fr H := by
  intro hf a w ha hw
  simp only [Bool.and_eq_true] at hB
  exact wpAnyH_take hi hB.1.1 hB.1.2 hB.2 (fun ch a' w' hq => ⟨hq.1, hq.2⟩) (.inl ⟨by simp [Region.wanted], fun w' hS' => hv a w' ha hS' _ _ _ _⟩) (hS w hw) (h hf _ _ (ha.put hd v) hw)

/-- a value that asks nothing of the world -/
theorem GA.p (i : Nat) {d : Nat} {op : Op} {v : Value} (hi : ops[i]? = some ⟨some d, op, ty, pos, aft, none⟩) (hB : (Region.noSelect ops && Region.free .any ops listed i && (Region.ready .any ops listed).contains i) = true)
    (hS : ∀ w, HF c.w0 c.D H w → S w) (hv : ∀ (w0 : World), Val P ⟨c.f, c.fn, c.R, w0, fun _ => False⟩ n op ty fr [] v) (hd : Nat.blt d n = true)
    (h : GA P c n k ops S fuel (listed.setIfInBounds i true) ((d, v) :: fr) H) : GA P c n k ops S (fuel + 1) listed fr H :=
  GA.take hi hB hS (fun a w ha _ dst pos aft g => hv w a w ha (HF.start w _) dst pos aft g) hd h
theorem GA.ld (i : Nat) {d : Nat} {t : TypeId} {x : Operand} {b off : Nat} {v : Value} (hi : ops[i]? = some ⟨some d, .load t x, ty, pos, aft, none⟩) (hB : (Region.noSelect ops && Region.free .any ops listed i && (Region.ready .any ops listed).contains i) = true)
    (hS : ∀ w, HF c.w0 c.D H w → S w) (hA : ∀ w, (isAgg t).run P w = .ok false w) (hx : ev fr x = some (Pt b off)) (hc : ∀ w, S w → w.cell? ⟨b, off, none⟩ = some v) (hd : Nat.blt d n = true)
    (h : GA P c n k ops S fuel (listed.setIfInBounds i true) ((d, v) :: fr) H) : GA P c n k ops S (fuel + 1) listed fr H :=
  GA.take hi hB hS (fun a w ha hS dst pos aft g => by simp [execOp, ha.eval hx, Instr.loadAt, Instr.sureAddr, loadVar, hA, run_load, hc w hS]) hd h
/-- the one that may come up -/
theorem GA.one (i : Nat) {o : Oper} (hi : ops[i]? = some o) (hr : (match Region.ready .any ops listed with | [j] => Nat.beq j i | _ => false) = true) (h : GB P c n k ops S fuel (listed.setIfInBounds i true) o fr H) : GA P c n k ops S (fuel + 1) listed fr H := by
  have hr' : Region.ready .any ops listed = [i] := by
    split at hr
    · rename_i j e; rw [e, Nat.eq_of_beq_eq_true hr]
    · cases hr
  intro hf a w ha hw
  refine wpAnyH_all hr' (by simp) fun j hj => ?_
  rw [List.mem_singleton.1 hj]
  have := h hf a w ha hw
  unfold wpOp
  simp only [hi]
  split
  · rename_i hw'; rw [if_pos hw'] at this; exact .inl this
  · rename_i hw'; rw [if_neg hw'] at this; exact this
/-- one of two -/
theorem GA.two (i i2 : Nat) {o o2 : Oper} (hi : ops[i]? = some o) (hi2 : ops[i2]? = some o2) (hr : (match Region.ready .any ops listed with | [j, j2] => Nat.beq j i && Nat.beq j2 i2 | _ => false) = true)
    (h : GB P c n k ops S fuel (listed.setIfInBounds i true) o fr H) (h2 : GB P c n k ops S fuel (listed.setIfInBounds i2 true) o2 fr H) : GA P c n k ops S (fuel + 1) listed fr H := by
  have hr' : Region.ready .any ops listed = [i, i2] := by
    split at hr
    · rename_i j j2 e
      simp only [Bool.and_eq_true] at hr
      rw [e, Nat.eq_of_beq_eq_true hr.1, Nat.eq_of_beq_eq_true hr.2]
    · cases hr
  intro hf a w ha hw
  refine wpAnyH_all hr' (by simp) fun j hj => ?_
  have key : ∀ (j : Nat) (o : Oper), ops[j]? = some o → GB P c n k ops S fuel (listed.setIfInBounds j true) o fr H → wpOp P ops (Qk P c k) j (fun a' w' => S w' ∧ wpAnyH P .any ops (Qk P c k) S fuel (listed.setIfInBounds j true) a' w') a w := by
    intro j o ho hb
    have := hb hf a w ha hw
    unfold wpOp
    simp only [ho]
    split
    · rename_i hw'; rw [if_pos hw'] at this; exact .inl this
    · rename_i hw'; rw [if_neg hw'] at this; exact this
  rcases List.mem_cons.1 hj with rfl | hj
  · exact key _ _ hi h
  · rw [List.mem_singleton.1 hj]; exact key _ _ hi2 h2

theorem GA.all {rs : List Nat} (hr : Region.ready .any ops listed = rs) (hne : rs.isEmpty = false) (h : ∀ i ∈ rs, ∀ o, ops[i]? = some o → GB P c n k ops S fuel (listed.setIfInBounds i true) o fr H) (hb : ∀ i ∈ rs, (ops[i]?).isSome = true) : GA P c n k ops S (fuel + 1) listed fr H := by
  intro hf a w ha hw
  refine wpAnyH_all hr (fun e => by rw [e] at hne; cases hne) fun i hi => ?_
  obtain ⟨o, ho⟩ := Option.isSome_iff_exists.1 (hb i hi)
  have := h i hi o ho hf a w ha hw
  unfold wpOp
  simp only [ho]
  split
  · rename_i hw'; rw [if_pos hw'] at this; exact .inl this
  · rename_i hw'; rw [if_neg hw'] at this; exact this

theorem GA.done (hr : Region.ready .any ops listed = []) (h : GC P c n k fr H) : GA P c n k ops S fuel listed fr H := fun hf a w ha hw => wpAnyH_done hr (h hf a w ha hw) fuel
theorem GA.weak {fr' : SF} (hs : Sub fr' fr) (h : GA P c n k ops S fuel listed fr' H) : GA P c n k ops S fuel listed fr H := fun hf a w ha hw => h hf a w (ha.sub hs) hw
theorem GA.turn {H' : SH} (hs : ∀ w, HF c.w0 c.D H w → HF c.w0 c.D H' w) (h : GA P c n k ops S fuel listed fr H') : GA P c n k ops S fuel listed fr H := fun hf a w ha hw => h hf a w ha (hs w hw)

/-- an operation that yields a value and turns the world -/
theorem GB.eff {op : Op} {d : Nat} {A : Type} {H' : A → SH} {v : A → Value} (hr : ∀ a w, Fr n fr a → HF c.w0 c.D H w → ∃ x w', (execOp a.eval ⟨some d, op, ty, pos, aft, none⟩).run P w = .ok (.value (v x)) w' ∧ HF c.w0 c.D (H' x) w') (hS : ∀ x w, HF c.w0 c.D (H' x) w → S w)
    (hd : Nat.blt d n = true) (hk : ∀ x, GA P c n k ops S fuel listed ((d, v x) :: fr) (H' x)) : GB P c n k ops S fuel listed ⟨some d, op, ty, pos, aft, none⟩ fr H := by
  intro hf a w ha hw
  obtain ⟨x, w', h1, h2⟩ := hr a w ha hw
  simp only [Region.wanted, if_true, Oper.wp, h1, Oper.upon]
  exact ⟨hS x _ h2, hk x hf _ _ (ha.put hd _) h2⟩
theorem GB.v {op : Op} {v : Value} {d : Nat} (hv : Val P c n op ty fr H v) (hS : ∀ w, HF c.w0 c.D H w → S w) (hd : Nat.blt d n = true) (hk : GA P c n k ops S fuel listed ((d, v) :: fr) H) : GB P c n k ops S fuel listed ⟨some d, op, ty, pos, aft, none⟩ fr H :=
  GB.eff (A := Unit) (H' := fun _ => H) (v := fun _ => v) (fun a w ha hw => ⟨(), w, hv a w ha hw _ _ _ _, hw⟩) (fun _ => hS) hd (fun _ => hk)
/-- .. over a new block -/
theorem GB.new {op : Op} {d : Nat} {kb : Blk} {v : Nat → Value} (hr : ∀ a w, Fr n fr a → HF c.w0 c.D H w → (execOp a.eval ⟨some d, op, ty, pos, aft, none⟩).run P w = .ok (.value (v w.heap.size)) { w with heap := w.heap.push kb.den })
    (hS : ∀ w, HF c.w0 c.D H w → S w) (hd : Nat.blt d n = true) (hk : ∀ b, GA P c n k ops S fuel listed ((d, v b) :: fr) (⟨b, true, kb⟩ :: H)) : GB P c n k ops S fuel listed ⟨some d, op, ty, pos, aft, none⟩ fr H :=
  GB.eff (A := Nat) (H' := fun b => ⟨b, true, kb⟩ :: H) (v := v) (fun a w ha hw => ⟨_, _, hr a w ha hw, hw.push kb⟩) (fun _b w hw => hS w (hw.sub (List.sublist_cons_self _ _))) hd hk
theorem GB.callN {kb : Blk} {g : FuncId} {xs : List Operand} {vs : List Value} {tys : Array TypeId} {d : Nat} (hg : ∀ (args : Array Value) w, (callFunc g args).run P w = .ok (.enter g args) w) (he : evs fr xs = some vs) (hd : Nat.blt d n = true) (hS : ∀ w, HF c.w0 c.D H w → S w)
    (hc : ∀ w, HF c.w0 c.D H w → Calls P g vs.toArray w (fun e w' => ∃ b, e = .returned (Pt b 0) ∧ HF w (fun _ => False) [⟨b, true, kb⟩] w'))
    (hk : ∀ b, GA P c n k ops S fuel listed ((d, Pt b 0) :: fr) (⟨b, true, kb⟩ :: H)) :
    GB P c n k ops S fuel listed ⟨some d, .call ⟨.value (.func g), xs.toArray, tys⟩, ty, pos, aft, none⟩ fr H := by
  intro hf a w ha hw
  simp only [Region.wanted, if_true, Oper.wp, run_callN ha hg he, Oper.upon]
  refine (hc w hw).mono fun e w' ⟨b, h1, h2⟩ => ?_
  subst h1
  have h3 := hw.after0 h2 (fun e he => by simp only [List.mem_singleton] at he; subst he; rfl)
  exact ⟨hS w' (h3.sub (List.sublist_cons_self _ _)), hk b hf _ _ (ha.put hd _) h3⟩
/-- .. with a post of one's own -/
theorem GB.callW {g : FuncId} {xs : List Operand} {vs : List Value} {tys : Array TypeId} {d : Nat} (J : Value → SH → Prop) (hg : ∀ (args : Array Value) w, (callFunc g args).run P w = .ok (.enter g args) w) (he : evs fr xs = some vs) (hd : Nat.blt d n = true)
    (hS : ∀ v H', J v H' → ∀ w, HF c.w0 c.D H' w → S w) (hc : ∀ w, HF c.w0 c.D H w → Calls P g vs.toArray w (fun e w' => ∃ v H', e = .returned v ∧ HF c.w0 c.D H' w' ∧ J v H'))
    (hk : ∀ v H', J v H' → GA P c n k ops S fuel listed ((d, v) :: fr) H') :
    GB P c n k ops S fuel listed ⟨some d, .call ⟨.value (.func g), xs.toArray, tys⟩, ty, pos, aft, none⟩ fr H := by
  intro hf a w ha hw
  simp only [Region.wanted, if_true, Oper.wp, run_callN ha hg he, Oper.upon]
  refine (hc w hw).mono fun e w' ⟨v, H', he', h1, h2⟩ => ?_
  subst he'
  exact ⟨hS v H' h2 _ h1, hk v H' h2 hf _ _ (ha.put hd v) h1⟩
end Bw

/- slices.Clone of strings, in the symbolic heap. -/
namespace Go.Proofs
open Go Bw

theorem HF.below {w w' : World} (h : RowKit.Below w.heap.size w w') : HF w (fun _ => False) [] w' :=
  ⟨h.size, fun b hb _ => h.block b hb, fun _ h => (by cases h), fun _ h => (by cases h), List.Pairwise.nil, h.tape, h.os, h.output⟩

theorem own_of {w w' : World} {e sz : Nat} {v : Value} {n : Nat} {xs : List Value} (h : w'.ownsRow w.heap.size e sz v n xs) (hb : RowKit.Below w.heap.size w w') : ∃ Hs, Own e sz v n xs Hs ∧ HF w (fun _ => False) Hs w' := by
  obtain ⟨hl, hv⟩ := h
  rcases hv with ⟨rfl, rfl⟩ | ⟨g, cap, cur, rfl, hg, hgw, hle, hm, hsz, htk⟩
  · have : xs = [] := List.length_eq_zero_iff.1 (by simpa using hl)
    subst this
    exact ⟨[], .nil, HF.below hb⟩
  · have hcur : cur.toList = xs ++ cur.toList.drop (n * sz) := by
      conv => lhs; rw [← List.take_append_drop (n * sz) cur.toList]
      rw [htk]
    refine ⟨_, .row (b := g) (cap := cap) (spare := cur.toList.drop (n * sz)) hl (by rw [← hcur]; simpa using hsz) hle, ?_⟩
    refine (HF.below hb).add ?_ (fun _ => .inr hg) (fun _ h => by cases h)
    simp only [Blk.den]
    rw [← hcur]
    simpa using hgw

/-- slices.Clone of a slice of texts -/
theorem f60_any (w : World) (ad : Option Addr) (cp : Nat) (xs : List (List UInt8)) (hx : ∀ j x, xs[j]? = some x → ∃ b o, ad = some ⟨b, o, none⟩ ∧ w.cell? ⟨b, o + j, none⟩ = some (S x)) (hl : xs.length ≤ 1000000) :
    Calls Tryd.prog 60 #[.slice ad xs.length cp] w fun e w' => ∃ v Hs, e = .returned v ∧ Own 9 1 v xs.length (xs.map S) Hs ∧ HF w (fun _ => False) Hs w' := by
  cases ad with
  | none =>
    have h0 : xs = [] := by
      cases xs with
      | nil => rfl
      | cons x r => obtain ⟨b, o, h, _⟩ := hx 0 x rfl; cases h
    subst h0
    refine (Tryd.slices_Clone_string_nil 0 cp w).mono fun e w' ⟨h1, h2⟩ => ⟨_, [], h1, .nil, ?_⟩
    rw [h2]; exact HF.start w _
  | some a =>
    by_cases h0 : xs = []
    · subst h0
      refine (Tryd.slices_Clone_string_zero a cp w).mono fun e w' ⟨v, h1, h2, h3, h4⟩ => ?_
      obtain ⟨Hs, h5, h6⟩ := own_of h2 h4
      exact ⟨v, Hs, h1, h5, h6⟩
    · obtain ⟨x, r, rfl⟩ : ∃ x r, xs = x :: r := by
        cases xs with
        | nil => exact absurd rfl h0
        | cons x r => exact ⟨x, r, rfl⟩
      obtain ⟨b, o, ha, _⟩ := hx 0 x rfl
      cases ha
      refine (Tryd.slices_Clone_string b o (x :: r).length cp ((x :: r).map fun l => ⟨l.toArray⟩) w (by simp) (by omega) (fun j hj => ?_)).mono fun e w' ⟨v, h1, h2, h3, h4⟩ => ?_
      · rw [List.length_map] at hj
        obtain ⟨b', o', e1, e2⟩ := hx j _ (List.getElem?_eq_getElem hj)
        cases e1
        rw [e2, List.getD_eq_getElem?_getD, List.getElem?_map, List.getElem?_eq_getElem hj]
        rfl
      · have e3 : (((x :: r).map fun l => (⟨l.toArray⟩ : ByteArray)).take (x :: r).length).map Value.string = (x :: r).map S := by
          rw [List.take_of_length_le (by simp), List.map_map]; rfl
        rw [e3] at h2
        obtain ⟨Hs, h5, h6⟩ := own_of h2 h4
        exact ⟨v, Hs, h1, h5, h6⟩
end Go.Proofs

/- ZZRouter.Find. Printed by wip/mk_f8.py. -/
namespace Go.Proofs
open Go Bw
set_option maxRecDepth 20000

theorem madeS (z : Nat) : (Go.madeCells (Value.cells (S [])) z).toList = List.replicate z (S []) := by
  simp only [Go.madeCells, Array.toList_map, Array.toList_range]
  have h : (S []).cells = #[S []] := rfl
  rw [h]
  refine List.ext_getElem? fun i => ?_
  by_cases hi : i < z
  · rw [List.getElem?_map, List.getElem?_range hi, List.getElem?_replicate_of_lt hi]
    simp [Nat.mod_one]
  · rw [List.getElem?_eq_none (by simpa using hi), List.getElem?_eq_none (by simpa using hi)]
theorem ctx98 (z : Nat) (pb hb : Nat) (w : World) : (Instr.build 98 #[(0, .slice (some ⟨pb, 0, none⟩) z z), (2, Pt hb 0)]).run Tryd.prog w = .ok (.agg #[.slice (some ⟨pb, 0, none⟩) z z, .slice none 0 0, Pt hb 0, S [], S []]) w := by
  simp [Instr.build, Tryd.zeroValue98, Tryd.runUnderlying98, Tryd.sizeOf24, Tryd.sizeOf95, cells_agg, Instr.fill, cells_ptr, cells_sl]

/-- what a search tells -/
inductive ZOut (L : List Rt) (T : List NR) (meth : List UInt8) : Res → Int → List UInt8 → List (List UInt8) → List (List UInt8) → List UInt8 → Prop
  | none' {vals} : ZOut L T meth (.none' vals) (-1) [] [] vals []
  | hit {vals} {rt : Rt} (hr : rt ∈ L) : ZOut L T meth (.hit rt.h vals) (rt.num : Nat) rt.rb.p rt.nms vals []
  | missNf {vals} {rt : Rt} {r : NR} (hr : rt ∈ L) (hT : r ∈ T) (hn : r.nf = some rt.h) : ZOut L T meth (.miss r.n vals) (rt.num : Nat) rt.rb.p rt.nms vals []
  | miss {vals} {r : NR} (hT : r ∈ T) (hn : r.nf = none) (hd : r.hdl = true) : ZOut L T meth (.miss r.n vals) (if meth = optM then -3 else -2) r.orig [] vals r.hdr

/-- a slice of texts in memory -/
def TxAt (w : World) (ad : Option Addr) (xs : List (List UInt8)) : Prop := ∀ j x, xs[j]? = some x → ∃ b o, ad = some ⟨b, o, none⟩ ∧ w.cell? ⟨b, o + j, none⟩ = some (S x)

theorem cell_den {w : World} {b off : Nat} {l : List Value} {t : TypeId} {fz : Nat × Nat} {v : Value} (h : w.heap[b]? = some (Blk.row l t fz).den) (hv : nth l off = some v) : w.cell? ⟨b, off, none⟩ = some v := by
  simp only [Blk.den] at h
  simp only [World.cell?, h]
  rw [nth_eq] at hv
  simp [hv]
theorem _root_.Bw.Own.tx {w : World} {Hs : SH} {ad : Option Addr} {cp : Nat} {xs : List (List UInt8)} (h : Own 9 1 (.slice ad xs.length cp) xs.length (xs.map S) Hs) (hs : ∀ e ∈ Hs, w.heap[e.b]? = some e.k.den) : TxAt w ad xs := by
  intro j x hx
  generalize hv : Value.slice ad xs.length cp = v at h
  generalize hn : xs.length = n at h hv
  generalize hq : xs.map S = l at h
  cases h with
  | nil => exfalso; have := (List.getElem?_eq_some_iff.1 hx).1; omega
  | row h1 h2 h3 =>
    simp only [Value.slice.injEq] at hv
    refine ⟨_, 0, hv.1, ?_⟩
    rw [Nat.zero_add]
    refine cell_den (hs _ (.head _)) ?_
    have hlt := (List.getElem?_eq_some_iff.1 hx).1
    rw [nth_eq, List.getElem?_append_left (by rw [← hq]; simpa using hlt), ← hq, List.getElem?_map, hx]; rfl

theorem fout_facts {w : World} {D : Nat → Prop} {E : SH} {L : List Rt} {T : List NR} {Bd cb h0 : Nat} {sl : Value} {meth : List UInt8} (hE : RF w D E) (hT : TOk L T E Bd) (hown : ∀ r ∈ L, Own 9 1 (.slice r.pad r.nms.length r.pcp) r.nms.length (r.nms.map S) r.Hn)
    {res : Res} {vals : List (List UInt8)} {X : SH} (h : FOut L T meth cb h0 sl res vals X) :
    ∃ hx num pad pcp ns p al X', X = cxE cb sl (.slice pad (List.length ns) pcp) (Pt hx 0) p al :: X' ∧ ZOut L T meth res num p ns vals al ∧
      ∀ w' H, HF w D H w' → (∀ e ∈ X, e ∈ H) → (⟨h0, true, .row [I (-1)] 3 (0, 0)⟩ : Ent) ∈ H → w'.cell? ⟨hx, 0, none⟩ = some (I num) ∧ TxAt w' pad ns := by
  have hrt : ∀ rt ∈ L, ∀ w' H, HF w D H w' → w'.cell? ⟨rt.hh, 0, none⟩ = some (I (rt.num : Nat)) ∧ TxAt w' rt.pad rt.nms := fun rt hr w' H hw => by
    have h1 := hE _ (hT.lE rt hr _ (.head _))
    refine ⟨cell_den (hw.old h1.1 h1.2) rfl, (hown rt hr).tx fun e he => ?_⟩
    have h2 := hE e (hT.lE rt hr e (.tail _ (.tail _ (.tail _ he))))
    exact hw.old h2.1 h2.2
  cases h with
  | none' => exact ⟨h0, -1, none, 0, [], [], [], [], rfl, .none', fun w' H hw _ hm => ⟨cell_row hw hm rfl, fun j x hx => (by cases hx)⟩⟩
  | @hit _ rt hr => exact ⟨rt.hh, _, rt.pad, rt.pcp, rt.nms, _, _, [], rfl, .hit hr, fun w' H hw _ _ => hrt rt hr w' H hw⟩
  | @missNf _ rt r hr hTr hn => exact ⟨rt.hh, _, rt.pad, rt.pcp, rt.nms, _, _, [], rfl, .missNf hr hTr hn, fun w' H hw _ _ => hrt rt hr w' H hw⟩
  | @miss _ hb r hTr hn hd => exact ⟨hb, _, none, 0, [], _, _, _, rfl, .miss hTr hn hd, fun w' H hw hX _ => ⟨cell_row hw (hX _ (.tail _ (.head _))) rfl, fun j x hx => (by cases hx)⟩⟩

theorem TxAt.of_row {w0 w : World} {D : Nat → Prop} {H : SH} {pb : Nat} {xs : List (List UInt8)} (hw : HF w0 D H w) (hm : ⟨pb, true, .row (xs.map S) 9 (0, 0)⟩ ∈ H) : TxAt w (some ⟨pb, 0, none⟩) xs := by
  intro j x hx
  refine ⟨pb, 0, rfl, ?_⟩
  rw [Nat.zero_add]
  exact cell_row hw hm (by rw [nth_eq, List.getElem?_map, hx]; rfl)

def _root_.Bw.Res.vals : Res → List (List UInt8)
  | .none' v => v
  | .hit _ v => v
  | .miss _ v => v
theorem run_vl {T : List NR} {meth path : List UInt8} {lbl : Nat} {st : St} {res : Res} (h : Run T meth path lbl st res) : res.vals.length = st.vals.length := by
  induction h with
  | off0 => rfl
  | off1 _ _ _ _ _ _ ih => exact ih
  | hit => rfl
  | nf => rfl
  | down _ _ _ _ _ _ ih => exact ih
  | stay _ _ _ _ _ _ ih => exact ih
  | par _ _ _ _ _ _ _ ih => rw [ih]; simp
  | npar _ _ _ _ ih => exact ih
  | anyHit => simp [Res.vals]
  | anyNf => simp [Res.vals]
  | anyStop => simp [Res.vals]
  | @end0 r st => unfold resOf; cases st.best <;> rfl
  | up0 _ _ _ _ _ _ _ ih => exact ih
  | up1 _ _ _ _ _ _ _ _ _ ih => rw [ih]; simp
theorem fout_vals {L : List Rt} {T : List NR} {meth : List UInt8} {cb h0 : Nat} {sl : Value} {res : Res} {vals : List (List UInt8)} {X : SH} (h : FOut L T meth cb h0 sl res vals X) : vals = res.vals := by cases h <;> rfl

theorem mkS {a : Act} {w1 : World} {n d z : Nat} {fr : SF} {x y : Operand} {ty : TypeId} {pos : String} {aft : Array Edge} (ha : Fr n fr a) (hx : ev fr x = some (I (z : Int))) (hy : ev fr y = some (I (z : Int))) (hz : z ≤ 1000) :
    (execOp a.eval ⟨some d, .makeSlice 24 x y, ty, pos, aft, none⟩).run Tryd.prog w1 = .ok (.value (.slice (some ⟨w1.heap.size, 0, none⟩) z z)) { w1 with heap := w1.heap.push (Blk.row (List.replicate z (S [])) 9 (0, 0)).den } := by
  have hr := run_make (P := Tryd.prog) w1 24 9 Tryd.t9 (S []) Tryd.underlying24 rfl rfl .i64 .i64 (z : Int) (z : Int) (by omega) (by omega) (by show ((16 : Nat) : Int) * _ ≤ _; omega) (by omega)
  have hs : (Tryd.t9).size = 1 := rfl
  rw [hs, Nat.mul_one, Int.toNat_natCast] at hr
  have hm : Go.madeCells (Value.cells (S [])) z = (List.replicate z (S [])).toArray := by rw [← madeS]
  rw [hm] at hr
  simp only [execOp, ha.eval hx, ha.eval hy, Sem.run_bind, Blk.den]
  rw [hr]
  rfl
theorem bxR {a : Act} {w1 : World} {n d t : Nat} {fr : SF} {x : Operand} {v : Value} {l : List Value} {ty : TypeId} {pos : String} {aft : Array Edge} (ha : Fr n fr a) (hx : ev fr x = some v) (hl : v.cells.toList = l) :
    (execOp a.eval ⟨some d, .box t x, ty, pos, aft, none⟩).run Tryd.prog w1 = .ok (.value (Pt w1.heap.size 0)) { w1 with heap := w1.heap.push (Blk.row l t (0, 0)).den } := by
  subst hl
  simp [execOp, ha.eval hx, Instr.box, newVar, newRow, Blk.den]

theorem f41_any (w : World) (D : Nat → Prop) (E : SH) (L : List Rt) (T : List NR) (Bd rb root rt eb zb z : Nat) (meth path : List UInt8) (res : Res) (hE : RF w D E) (hT : TOk L T E Bd) (hrt : rtE rb root rt eb ∈ E) (hzz : zzE zb rb z ∈ E) (hpl : path.length ≤ 1000000) (hz : z ≤ 1000)
    (hown : ∀ r ∈ L, Own 9 1 (.slice r.pad r.nms.length r.pcp) r.nms.length (r.nms.map S) r.Hn) (hnl : ∀ r ∈ L, r.nms.length ≤ 1000000) (hrun : Run T meth path 0 ⟨root, 0, 0, List.replicate z [], none⟩ res) :
    Calls Tryd.prog 41 #[Pt zb 0, S meth, S path] w fun e w' => ∃ num p ns vals al vn vv Hn Hv, ZOut L T meth res num p ns vals al ∧ e = .returned (.tuple #[I num, S p, vn, vv, S al]) ∧ Own 9 1 vn ns.length (ns.map S) Hn ∧ Own 9 1 vv vals.length (vals.map S) Hv ∧ HF w D (Hn ++ Hv) w' := by
  have hzr : ∀ (i : Nat) (v : Value), nth [Pt rb 0, I (z : Int)] i = some v → w.cell? ⟨zb, i, none⟩ = some v := fun i v hv => hE.cell hzz hv
  have hDz : ¬ D zb := hE.D hzz
  refine enter D [] Tryd.func41 rfl Tryd.ntmps41 rfl rfl (HF.start w _) fun c hc => ?_
  subst hc
  refine GC.seq ?_
  refine GC.reg ?_
  refine G.v (V.asg rfl) rfl ?_
  refine G.v (V.asg rfl) rfl ?_
  refine G.v (V.asg rfl) rfl ?_
  refine G.v (V.asg rfl) rfl ?_
  refine G.v (V.asg rfl) rfl ?_
  refine G.nil ?_
  refine GC.weak (fr' := [(0, Pt zb 0), (1, S meth), (2, S path)]) (.cons rfl (.cons rfl (.cons rfl .nil))) ?_
  refine GC.seq ?_
  -- the context, in whichever order
  refine GC.join (fun fr' H' => ∃ cb pb hb, Sub [(0, Pt zb 0), (1, S meth), (2, S path), (11, Pt cb 0)] fr' ∧ H' = [cxE cb (.slice (some ⟨pb, 0, none⟩) z z) (.slice none 0 0) (Pt hb 0) [] [], ⟨pb, true, .row (List.replicate z (S [])) 9 (0, 0)⟩, ⟨hb, true, .row [I (-1)] 3 (0, 0)⟩]) (fun J => ?_) ?_
  · have hSz : ∀ H w1, HF w D H w1 → w1.cell? ⟨zb, 1, none⟩ = some (I (z : Int)) := fun H w1 hw1 => hw1.cellOld (hzr 1 _ rfl) hDz
    refine GC.regA (fun w1 => w1.cell? ⟨zb, 1, none⟩ = some (I (z : Int))) mixed ?_
    refine GA.p 0 rfl (by kernel_rfl) (hSz _) (fun _ => V.mv rfl) rfl ?_
    refine GA.p 1 rfl (by kernel_rfl) (hSz _) (fun _ => V.nc rfl) rfl ?_
    refine GA.p 2 rfl (by kernel_rfl) (hSz _) (fun _ => V.fa F93_1 rfl) rfl ?_
    refine GA.ld 3 rfl (by kernel_rfl) (hSz _) Tryd.isAgg3 rfl (fun w1 h => h) rfl ?_
    refine GA.two 4 5 rfl rfl (by kernel_rfl) ?_ ?_
    · refine GB.new (kb := .row (List.replicate z (S [])) 9 (0, 0)) (v := fun b => .slice (some ⟨b, 0, none⟩) z z) (fun a w1 ha hw1 => mkS ha rfl rfl hz) (hSz _) rfl (fun pb => ?_)
      refine GA.one 5 rfl (by kernel_rfl) ?_
      refine GB.callN (xs := [.const (.int .i64 (-1))]) (vs := [I (-1)]) Tryd.call58 rfl rfl (hSz _) (fun w1 _ => f58_any w1 (-1)) (fun hb => ?_)
      refine GA.one 6 rfl (by kernel_rfl) ?_
      refine GB.v (V.bd (ps := [(0, .tmp 16), (2, .tmp 17)]) (vs := [(0, .slice (some ⟨pb, 0, none⟩) z z), (2, Pt hb 0)]) rfl (fun w1 => ctx98 z pb hb w1)) (hSz _) rfl ?_
      refine GA.one 7 rfl (by kernel_rfl) ?_
      refine GB.new (kb := .row [.slice (some ⟨pb, 0, none⟩) z z, .slice none 0 0, Pt hb 0, S [], S []] 98 (0, 0)) (v := fun b => Pt b 0) (fun a w1 ha hw1 => bxR ha rfl rfl) (hSz _) rfl (fun cb => ?_)
      refine GA.one 8 rfl (by kernel_rfl) ?_
      refine GB.v (V.asg rfl) (hSz _) rfl ?_
      refine GA.done (by kernel_rfl) ?_
      exact GC.turn (fun w1 hw1 => hw1.perm (.cons _ (List.Perm.swap _ _ _))) (J _ _ ⟨cb, pb, hb, .cons rfl (.cons rfl (.cons rfl (.cons rfl .nil))), rfl⟩)
    · refine GB.callN (xs := [.const (.int .i64 (-1))]) (vs := [I (-1)]) Tryd.call58 rfl rfl (hSz _) (fun w1 _ => f58_any w1 (-1)) (fun hb => ?_)
      refine GA.one 4 rfl (by kernel_rfl) ?_
      refine GB.new (kb := .row (List.replicate z (S [])) 9 (0, 0)) (v := fun b => .slice (some ⟨b, 0, none⟩) z z) (fun a w1 ha hw1 => mkS ha rfl rfl hz) (hSz _) rfl (fun pb => ?_)
      refine GA.one 6 rfl (by kernel_rfl) ?_
      refine GB.v (V.bd (ps := [(0, .tmp 16), (2, .tmp 17)]) (vs := [(0, .slice (some ⟨pb, 0, none⟩) z z), (2, Pt hb 0)]) rfl (fun w1 => ctx98 z pb hb w1)) (hSz _) rfl ?_
      refine GA.one 7 rfl (by kernel_rfl) ?_
      refine GB.new (kb := .row [.slice (some ⟨pb, 0, none⟩) z z, .slice none 0 0, Pt hb 0, S [], S []] 98 (0, 0)) (v := fun b => Pt b 0) (fun a w1 ha hw1 => bxR ha rfl rfl) (hSz _) rfl (fun cb => ?_)
      refine GA.one 8 rfl (by kernel_rfl) ?_
      refine GB.v (V.asg rfl) (hSz _) rfl ?_
      refine GA.done (by kernel_rfl) ?_
      exact J _ _ ⟨cb, pb, hb, .cons rfl (.cons rfl (.cons rfl (.cons rfl .nil))), rfl⟩
  rintro fr' H' ⟨cb, pb, hb, hs, rfl⟩
  refine GC.weak hs ?_
  refine GC.seq ?_
  refine GC.reg ?_
  refine G.v (V.mv rfl) rfl ?_
  refine G.v (V.nc rfl) rfl ?_
  refine G.v (V.fa F93_0 rfl) rfl ?_
  refine G.v (V.ldC Tryd.isAgg91 rfl (hzr 0 _ rfl) hDz) rfl ?_
  refine G.v (V.mv rfl) rfl ?_
  refine G.v (V.mv rfl) rfl ?_
  refine G.v (V.mv rfl) rfl ?_
  refine G.callW (fun _ H2 => ∃ vals X, FOut L T meth cb hb (.slice (some ⟨pb, 0, none⟩) z z) res vals X ∧ H2 = (⟨pb, true, .row (vals.map S) 9 (0, 0)⟩ :: X) ++ [⟨hb, true, .row [I (-1)] 3 (0, 0)⟩]) Tryd.call59 rfl rfl (fun w1 hw1 => ?_) ?_
  · have hw2 : HF w D ([cxE cb (.slice (some ⟨pb, 0, none⟩) z z) (.slice none 0 0) (Pt hb 0) [] [], ⟨pb, true, .row (List.replicate z (S [])) 9 (0, 0)⟩] ++ [⟨hb, true, .row [I (-1)] 3 (0, 0)⟩]) w1 := hw1
    have hnd := (List.pairwise_append.1 hw2.nd).1
    have hloc := hw2.loc (H1 := [cxE cb (.slice (some ⟨pb, 0, none⟩) z z) (.slice none 0 0) (Pt hb 0) [] [], ⟨pb, true, .row (List.replicate z (S [])) 9 (0, 0)⟩]) (fun e he => List.mem_append_left _ he) hnd
    have hwt : ∀ e ∈ [cxE cb (.slice (some ⟨pb, 0, none⟩) z z) (.slice none 0 0) (Pt hb 0) [] [], (⟨pb, true, .row (List.replicate z (S [])) 9 (0, 0)⟩ : Ent)], e.w = true := fun e he => by
      simp only [List.mem_cons, List.not_mem_nil, or_false] at he
      rcases he with rfl | rfl <;> rfl
    have hE1 : RF w1 (fun b => ∃ e ∈ [cxE cb (.slice (some ⟨pb, 0, none⟩) z z) (.slice none 0 0) (Pt hb 0) [] [], (⟨pb, true, .row (List.replicate z (S [])) 9 (0, 0)⟩ : Ent)], e.b = b) E := fun e he => by
      have h1 := hE e he
      refine ⟨hw2.old h1.1 h1.2, fun ⟨x, hx, hxb⟩ => ?_⟩
      have hlt : e.b < w.heap.size := (Array.getElem?_eq_some_iff.1 h1.1).1
      rcases hw2.wr x (List.mem_append_left _ hx) (hwt x hx) with h2 | h2
      · exact h1.2 (hxb ▸ h2)
      · have h2 : w.heap.size ≤ x.b := h2
        omega
    refine (f59_any w1 _ E L T Bd rb root rt eb cb pb hb z meth path res hE1 hT hrt hpl hz hrun hloc).mono fun e w' ⟨h1, vals, X, h2, h3⟩ => ⟨_, _, h1, hw2.back (.refl _) hwt ?_ h3, vals, X, h2, rfl⟩
    intro e he
    rcases List.mem_cons.1 he with rfl | he
    · rfl
    · cases h2 <;> simp only [List.mem_cons, List.not_mem_nil, or_false] at he
      · rw [he]; rfl
      · rw [he]; rfl
      · rw [he]; rfl
      · rcases he with rfl | rfl <;> rfl
  rintro _ H2 ⟨vals, X, hout, rfl⟩
  refine G.nil ?_
  obtain ⟨hx, num, pad, pcp, ns, p, al, X', rfl, hzo, hfin⟩ := fout_facts hE hT hown hout
  have hnsl : ns.length ≤ 1000000 := by cases hzo <;> first | exact hnl _ ‹_› | simp
  have hvl : vals.length = z := by rw [fout_vals hout, run_vl hrun]; simp
  have hTx : ∀ w1 H, HF w D H w1 → (∀ e ∈ (⟨pb, true, .row (vals.map S) 9 (0, 0)⟩ :: cxE cb (.slice (some ⟨pb, 0, none⟩) z z) (.slice pad (List.length ns) pcp) (Pt hx 0) p al :: X') ++ [(⟨hb, true, .row [I (-1)] 3 (0, 0)⟩ : Ent)], e ∈ H) → w1.cell? ⟨hx, 0, none⟩ = some (I num) ∧ TxAt w1 pad ns := fun w1 H hw hm => hfin w1 H hw (fun e he => hm e (List.mem_append_left _ (.tail _ he))) (hm _ (by simp))
  generalize hH0 : (⟨pb, true, .row (vals.map S) 9 (0, 0)⟩ :: cxE cb (.slice (some ⟨pb, 0, none⟩) z z) (.slice pad (List.length ns) pcp) (Pt hx 0) p al :: X') ++ [(⟨hb, true, .row [I (-1)] 3 (0, 0)⟩ : Ent)] = H0 at *
  have hpbm : ⟨pb, true, .row (vals.map S) 9 (0, 0)⟩ ∈ H0 := by rw [← hH0]; exact .head _
  have hcbm : cxE cb (.slice (some ⟨pb, 0, none⟩) z z) (.slice pad (List.length ns) pcp) (Pt hx 0) p al ∈ H0 := by rw [← hH0]; exact .tail _ (.head _)
  let S0 : World → Prop := fun w1 => (∀ i v, nth [.slice (some ⟨pb, 0, none⟩) z z, .slice pad (List.length ns) pcp, Pt hx 0, S p, S al] i = some v → w1.cell? ⟨cb, i, none⟩ = some v) ∧ w1.cell? ⟨hx, 0, none⟩ = some (I num)
  have hS0 : ∀ (H : SH) w1, HF w D H w1 → (∀ e ∈ H0, e ∈ H) → S0 w1 := fun H w1 hw hm => ⟨fun i v hv => cell_row hw (hm _ hcbm) hv, (hTx w1 H hw hm).1⟩
  refine GC.weak (fr' := [(0, Pt zb 0), (11, Pt cb 0)]) (.cons rfl (.cons rfl .nil)) ?_
  refine GC.seq ?_
  refine GC.regA S0 mixed ?_
  refine GA.p 0 rfl (by kernel_rfl) (fun w1 hw1 => hS0 _ w1 hw1 fun _ he => he) (fun _ => V.mv rfl) rfl ?_
  refine GA.p 1 rfl (by kernel_rfl) (fun w1 hw1 => hS0 _ w1 hw1 fun _ he => he) (fun _ => V.nc rfl) rfl ?_
  refine GA.p 2 rfl (by kernel_rfl) (fun w1 hw1 => hS0 _ w1 hw1 fun _ he => he) (fun _ => V.fa F98_2 rfl) rfl ?_
  refine GA.ld 3 rfl (by kernel_rfl) (fun w1 hw1 => hS0 _ w1 hw1 fun _ he => he) Tryd.isAgg95 rfl (fun w1 h => h.1 2 _ rfl) rfl ?_
  refine GA.p 4 rfl (by kernel_rfl) (fun w1 hw1 => hS0 _ w1 hw1 fun _ he => he) (fun _ => V.nc rfl) rfl ?_
  refine GA.ld 5 rfl (by kernel_rfl) (fun w1 hw1 => hS0 _ w1 hw1 fun _ he => he) Tryd.isAgg3 rfl (fun w1 h => h.2) rfl ?_
  refine GA.p 6 rfl (by kernel_rfl) (fun w1 hw1 => hS0 _ w1 hw1 fun _ he => he) (fun _ => V.mv rfl) rfl ?_
  refine GA.p 7 rfl (by kernel_rfl) (fun w1 hw1 => hS0 _ w1 hw1 fun _ he => he) (fun _ => V.nc rfl) rfl ?_
  refine GA.p 8 rfl (by kernel_rfl) (fun w1 hw1 => hS0 _ w1 hw1 fun _ he => he) (fun _ => V.fa F98_3 rfl) rfl ?_
  refine GA.ld 9 rfl (by kernel_rfl) (fun w1 hw1 => hS0 _ w1 hw1 fun _ he => he) Tryd.isAgg9 rfl (fun w1 h => h.1 3 _ rfl) rfl ?_
  refine GA.p 10 rfl (by kernel_rfl) (fun w1 hw1 => hS0 _ w1 hw1 fun _ he => he) (fun _ => V.mv rfl) rfl ?_
  refine GA.p 11 rfl (by kernel_rfl) (fun w1 hw1 => hS0 _ w1 hw1 fun _ he => he) (fun _ => V.nc rfl) rfl ?_
  refine GA.p 12 rfl (by kernel_rfl) (fun w1 hw1 => hS0 _ w1 hw1 fun _ he => he) (fun _ => V.fa F98_1 rfl) rfl ?_
  refine GA.ld 13 rfl (by kernel_rfl) (fun w1 hw1 => hS0 _ w1 hw1 fun _ he => he) Tryd.isAgg24 rfl (fun w1 h => h.1 1 _ rfl) rfl ?_
  refine GA.p 15 rfl (by kernel_rfl) (fun w1 hw1 => hS0 _ w1 hw1 fun _ he => he) (fun _ => V.mv rfl) rfl ?_
  refine GA.p 16 rfl (by kernel_rfl) (fun w1 hw1 => hS0 _ w1 hw1 fun _ he => he) (fun _ => V.nc rfl) rfl ?_
  refine GA.p 17 rfl (by kernel_rfl) (fun w1 hw1 => hS0 _ w1 hw1 fun _ he => he) (fun _ => V.fa F98_0 rfl) rfl ?_
  refine GA.ld 18 rfl (by kernel_rfl) (fun w1 hw1 => hS0 _ w1 hw1 fun _ he => he) Tryd.isAgg24 rfl (fun w1 h => h.1 0 _ rfl) rfl ?_
  refine GA.p 20 rfl (by kernel_rfl) (fun w1 hw1 => hS0 _ w1 hw1 fun _ he => he) (fun _ => V.mv rfl) rfl ?_
  refine GA.p 21 rfl (by kernel_rfl) (fun w1 hw1 => hS0 _ w1 hw1 fun _ he => he) (fun _ => V.nc rfl) rfl ?_
  refine GA.p 22 rfl (by kernel_rfl) (fun w1 hw1 => hS0 _ w1 hw1 fun _ he => he) (fun _ => V.fa F98_4 rfl) rfl ?_
  refine GA.ld 23 rfl (by kernel_rfl) (fun w1 hw1 => hS0 _ w1 hw1 fun _ he => he) Tryd.isAgg9 rfl (fun w1 h => h.1 4 _ rfl) rfl ?_
  refine GA.one 14 rfl (by kernel_rfl) ?_
  refine GB.callW (xs := [.tmp 41]) (vs := [.slice pad (List.length ns) pcp]) (fun v H2 => ∃ Hs, Own 9 1 v ns.length (ns.map S) Hs ∧ H2 = Hs ++ H0) Tryd.call60 rfl rfl (fun v H2 ⟨Hs, _, h2⟩ w1 hw1 => hS0 _ w1 hw1 fun e he => by rw [h2]; exact List.mem_append_right _ he) (fun w1 hw1 => ?_) ?_
  · refine (f60_any w1 pad pcp ns (hTx w1 _ hw1 fun _ he => he).2 hnsl).mono fun e w' ⟨v, Hs, h1, h2, h3⟩ => ⟨v, _, h1, hw1.after0 h3 h2.w, Hs, h2, rfl⟩
  rintro vn H2 ⟨Hn, hown1, rfl⟩
  refine GA.one 19 rfl (by kernel_rfl) ?_
  refine GB.callW (xs := [.tmp 46]) (vs := [.slice (some ⟨pb, 0, none⟩) z z]) (fun v H2 => ∃ Hs, Own 9 1 v vals.length (vals.map S) Hs ∧ H2 = Hs ++ (Hn ++ H0)) Tryd.call60 rfl rfl (fun v H2 ⟨Hs, _, h2⟩ w1 hw1 => hS0 _ w1 hw1 fun e he => by rw [h2]; exact List.mem_append_right _ (List.mem_append_right _ he)) (fun w1 hw1 => ?_) ?_
  · have := f60_any w1 (some ⟨pb, 0, none⟩) z vals (TxAt.of_row hw1 (List.mem_append_right _ hpbm)) (by omega)
    rw [hvl] at this
    exact this.mono fun e w' ⟨v, Hs, h1, h2, h3⟩ => ⟨v, _, h1, hw1.after0 h3 h2.w, Hs, by rw [hvl]; exact h2, rfl⟩
  rintro vv H2 ⟨Hv, hown2, rfl⟩
  refine GA.p 24 rfl (by kernel_rfl) (fun w1 hw1 => hS0 _ w1 hw1 fun _ he => List.mem_append_right _ (List.mem_append_right _ he)) (fun _ => V.asg rfl) rfl ?_
  refine GA.p 25 rfl (by kernel_rfl) (fun w1 hw1 => hS0 _ w1 hw1 fun _ he => List.mem_append_right _ (List.mem_append_right _ he)) (fun _ => V.asg rfl) rfl ?_
  refine GA.p 26 rfl (by kernel_rfl) (fun w1 hw1 => hS0 _ w1 hw1 fun _ he => List.mem_append_right _ (List.mem_append_right _ he)) (fun _ => V.asg rfl) rfl ?_
  refine GA.p 27 rfl (by kernel_rfl) (fun w1 hw1 => hS0 _ w1 hw1 fun _ he => List.mem_append_right _ (List.mem_append_right _ he)) (fun _ => V.asg rfl) rfl ?_
  refine GA.p 28 rfl (by kernel_rfl) (fun w1 hw1 => hS0 _ w1 hw1 fun _ he => List.mem_append_right _ (List.mem_append_right _ he)) (fun _ => V.asg rfl) rfl ?_
  refine GA.done (by kernel_rfl) ?_
  refine GC.retR (fun a w1 ha hw1 => ?_) fun w' hw' => ⟨num, p, ns, vals, al, vn, vv, Hn, Hv, hzo, rfl, hown1, hown2, ?_⟩
  · have e6 := ha.at_ 6 (I num) rfl
    have e7 := ha.at_ 7 (S p) rfl
    have e8 := ha.at_ 8 vn rfl
    have e9 := ha.at_ 9 vv rfl
    have e10 := ha.at_ 10 (S al) rfl
    have hres : Tryd.f41.results = #[.tmp 6, .tmp 7, .tmp 8, .tmp 9, .tmp 10] := rfl
    simp [results, e6, e7, e8, e9, e10]
  · exact (HF.sub hw' (List.sublist_append_left (Hv ++ Hn) H0 |> fun h => by rw [List.append_assoc] at h; exact h)).perm List.perm_append_comm
end Go.Proofs
