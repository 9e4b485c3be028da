/- What moreAwake answers: a tree of one plain route, asked for two paths. -/
import Derived.Test.YtabaldddhopobaaDoorKb
import Derived.Tactics2
import Derived.Defers
import Derived.Recover
import Derived.Laws.Pointers
import Derived.WalkKit
import Derived.ProofKit
import Derived.Test.YtabaldddhopobaaDoorEa
import Derived.Test.YtabaldddhopobaaDoorShelf
/- impl.thrown: whether a function panics. -/
set_option maxRecDepth 100000
namespace Go.Proofs
open Go

theorem Tryd.catch_idle (p : Addr) (x : Bool) (w : World) (hc : w.cell? p = some (.bool x)) (hz : w.frozen? p = false) :
    CallsD Tryd.prog 37 #[.pointer (some p)] .returning w fun e u' w' => e = .returned (.tuple #[]) ∧ u' = .returning ∧ w' = w.setCell p (.bool false) := by
  refine callsD_of_wpS Tryd.func37 rfl fun c₀ cs hu => ?_
  apply wpS_region
  simp [wpOpsS, go_sem, recoverD, hu, Tryd.ntmps37, hc, hz]
  cases c₀
  simp_all [bodyPostS, results, Tryd.results37]
theorem Tryd.catch_panicking (p : Addr) (x : Bool) (u : TypeId) (pv : Value) (older : List PanicEntry) (w : World) (hc : w.cell? p = some (.bool x)) (hz : w.frozen? p = false) :
    CallsD Tryd.prog 37 #[.pointer (some p)] (.panicking ({ v := .iface u pv, recovered := false } :: older)) w fun e u' w' => e = .returned (.tuple #[]) ∧ u' = .panicking ({ v := .iface u pv, recovered := true } :: older) ∧ w' = w.setCell p (.bool true) := by
  refine callsD_of_wpS Tryd.func37 rfl fun c₀ cs hu => ?_
  apply wpS_region
  simp [wpOpsS, go_sem, recoverD, hu, Tryd.ntmps37, hc, hz, bodyPostS, results, Tryd.results37]

theorem Tryd.thrown_any (g : Nat) (caps : Array Value) (eg : ∀ args w, (callFunc g args).run Tryd.prog w = .ok (.enter g args) w) (w : World) (K : Bool → World → Prop)
    (hf : Calls Tryd.prog g caps (w.alloc (.cells #[.bool false] 4)) fun e w1 => w1.cell? ⟨w.heap.size, 0, none⟩ = some (.bool false) ∧ w1.frozen? ⟨w.heap.size, 0, none⟩ = false ∧
      ((∃ v, e = .returned v ∧ K false ((w1.setCell ⟨w.heap.size, 0, none⟩ (.bool false)).setCell ⟨w.heap.size, 0, none⟩ (.bool false))) ∨ (∃ u pv, e = .panicked [{ v := .iface u pv, recovered := false }] ∧ K true (w1.setCell ⟨w.heap.size, 0, none⟩ (.bool true))))) :
    Calls Tryd.prog 24 #[.func (.func g) #[] caps] w fun e w' => ∃ b, e = .returned (.bool b) ∧ K b w' := by
  have hmf : ∀ (fn : Fn) (first cap : Array Value) (w : World), (Instr.makeFunc fn first cap).run Tryd.prog w = .ok (.func fn first cap) w := fun _ _ _ _ => rfl
  go_enter_defers Tryd.func24, Tryd.ntmps24
  go_wp2
  refine hf.mono ?_
  rintro e w1 ⟨hc, hz, ⟨v, rfl, hK⟩ | ⟨u, pv, rfl, hK⟩⟩
  · go_wp2
    refine leaves_cons (f := 37) (args := #[.pointer (some ⟨w.heap.size, 0, none⟩)]) (by simp) (by simp [go_sem]) ?_
    refine (Tryd.catch_idle ⟨w.heap.size, 0, none⟩ false _ ?_ ?_).mono ?_
    · simp [go_sem, hc]
    · simp [go_sem, hz]
    rintro e u' w'' ⟨rfl, rfl, rfl⟩
    simp [Leaves, settle, results, Tryd.results24, go_sem, hc]
    exact hK
  · go_wp2
    refine leaves_cons (f := 37) (args := #[.pointer (some ⟨w.heap.size, 0, none⟩)]) (by simp) (by simp [go_sem]) ?_
    refine (Tryd.catch_panicking ⟨w.heap.size, 0, none⟩ false u pv [] _ hc hz).mono ?_
    rintro e u' w'' ⟨rfl, rfl, rfl⟩
    simp [Leaves, settle, results, Tryd.results24, go_sem, hc]
    exact hK
theorem f24_any (g : Nat) (caps : Array Value) (eg : ∀ args w, (callFunc g args).run Tryd.prog w = .ok (.enter g args) w) (w w0 : World) (D : Nat → Prop) (H : Bw.SH) (hw : Bw.HF w0 D H w) (J : Bool → Bw.SH → Prop)
    (hf : ∀ b w1, w0.heap.size ≤ b → Bw.HF w0 D (⟨b, true, .row [.bool false] 4 (0, 0)⟩ :: H) w1 → Calls Tryd.prog g caps w1 fun e w2 => ∃ H2, Bw.HF w0 D (⟨b, true, .row [.bool false] 4 (0, 0)⟩ :: H2) w2 ∧
      ((∃ v, e = .returned v ∧ J false H2) ∨ (∃ u pv, e = .panicked [{ v := .iface u pv, recovered := false }] ∧ J true H2))) :
    Calls Tryd.prog 24 #[.func (.func g) #[] caps] w fun e w' => ∃ t H2, e = .returned (.bool t) ∧ J t H2 ∧ Bw.HF w0 D H2 w' := by
  refine (Tryd.thrown_any g caps eg w (fun t w' => ∃ H2, J t H2 ∧ Bw.HF w0 D H2 w') ?_).mono fun e w' ⟨t, h1, H2, h2, h3⟩ => ⟨t, H2, h1, h2, h3⟩
  refine (hf w.heap.size _ hw.size (hw.push (.row [.bool false] 4 (0, 0)))).mono fun e w2 ⟨H2, h1, h2⟩ => ?_
  have hc := Bw.cell_row h1 (b := w.heap.size) (off := 0) (.head _) rfl
  have hz := Bw.frozen_row h1 (b := w.heap.size) (off := 0) (.head _)
  refine ⟨hc, by simpa using hz, ?_⟩
  rcases h2 with ⟨v, rfl, h2⟩ | ⟨u, pv, rfl, h2⟩
  · exact .inl ⟨v, rfl, H2, h2, ((h1.setCell .z (.bool false)).setCell .z (.bool false)).sub (List.sublist_cons_self _ _)⟩
  · exact .inr ⟨u, pv, rfl, H2, h2, (h1.setCell .z (.bool true)).sub (List.sublist_cons_self _ _)⟩
end Go.Proofs

/- A tree of one plain route. Printed by wip/mk_gs8.py. -/
namespace Go.Proofs
open Go Bw
set_option maxRecDepth 20000

/-- no wildcard, no escape -/
def Plain (p : List UInt8) : Prop := ∀ x ∈ p, x ≠ 58 ∧ x ≠ 42 ∧ x ≠ 92
theorem u_ne {x y : UInt8} (h : x ≠ y) : decide ((x.toNat : Int) = (y.toNat : Int)) = false := by
  rw [decide_eq_false_iff_not]; intro e; exact h (UInt8.toNat_inj.1 (by omega))
theorem f60_plain (w : World) (p : List UInt8) (hp : Plain p) (hl : p.length ≤ 100000) : Calls Tryd.prog 60 #[S p] w fun e w' => e = .returned (.tuple #[S [], I (-1), .bool false]) ∧ HF w (fun _ => False) [] w' := by
  refine enter (fun _ => False) [] Tryd.func60 rfl Tryd.ntmps60 rfl rfl (HF.start w _) fun c hc => ?_
  subst hc
  refine GC.seq ?_
  refine GC.reg ?_  -- region 0, tree.go:250
  refine G.v (V.asg rfl) rfl ?_
  refine G.v (V.asg rfl) rfl ?_
  refine G.v (V.asg rfl) rfl ?_
  refine G.nil ?_
  refine GC.seq ?_
  refine GC.reg ?_  -- region 1, tree.go:252
  refine G.v (V.asg rfl) rfl ?_
  refine G.nil ?_
  refine GC.seq ?_
  refine GC.seq ?_
  refine GC.reg ?_  -- region 2, tree.go:253
  refine G.v (V.mv rfl) rfl ?_
  refine G.cvSB Tryd.underlying9 Tryd.underlying47 Tryd.underlying5 rfl rfl (fun rb cp z fz hrb hcp => ?_)
  refine G.v (V.lenL Tryd.underlying47 rfl) rfl ?_
  refine G.v (V.mv rfl) rfl ?_
  refine G.nil ?_
  refine GC.block ?_
  refine GC.loopJ (fun N fr' H' => ∃ i, i + N = p.length ∧ Sub [(0, S p), (5, .bool false), (11, .slice (some ⟨rb, 0, none⟩) p.length cp), (12, I (p.length : Nat)), (13, I ((i : Nat) : Int))] fr' ∧ H' = [⟨rb, true, .row (bC (p ++ z)) 5 fz⟩]) p.length
    ⟨0, by omega, .cons rfl (.cons rfl (.cons rfl (.cons rfl (.cons rfl .nil)))), rfl⟩ ?_
  rintro N fr' H' ⟨i, hi, hs, rfl⟩ ih
  refine GC.weak hs ?_
  clear hs
  refine GC.seq ?_
  refine GC.reg ?_  -- region 3, tree.go:253
  refine G.v (V.lt rfl rfl) rfl ?_
  refine G.nil ?_
  refine GC.seq ?_
  refine GC.condD rfl (fun h14 => ?_) (fun h14 => ?_)
  · refine GC.skip ?_
    refine GC.seq ?_
    refine GC.block ?_
    refine GC.seq ?_
    have hlt : i < p.length := by omega
    obtain ⟨x, hx⟩ : ∃ x, p[i]? = some x := ⟨_, List.getElem?_eq_getElem hlt⟩
    obtain ⟨x1, x2, x3⟩ := hp x (List.mem_of_getElem? hx)
    refine GC.reg ?_  -- region 4, tree.go:253
    refine G.v (V.mv rfl) rfl ?_
    refine G.v (V.ia (i := i) Tryd.underlying47 Tryd.sizeOf5 rfl rfl hlt) rfl ?_
    refine G.v (V.ld (b := rb) (off := 0 + i * 1) (wf := true) (l := bC (p ++ z)) (T := 5) (fz := fz) (v := .int .u8 (x.toNat : Int)) Tryd.isAgg5 rfl (.head _) (by rw [nth_eq, Nat.zero_add, Nat.mul_one, bC_app, List.getElem?_append_left (by rw [bC_len]; exact hlt)]; simp [bC, Lib.byteCells, hx])) rfl ?_
    refine G.v (V.asg rfl) rfl ?_
    refine G.v (V.asg rfl) rfl ?_
    refine G.nil ?_
    refine GC.seq ?_
    refine GC.seq ?_
    refine GC.reg ?_  -- region 5, tree.go:254
    refine G.v (V.mv rfl) rfl ?_
    refine G.nil ?_
    refine GC.condF rfl ?_
    refine GC.skip ?_
    refine GC.seq ?_
    refine GC.seq ?_
    refine GC.reg ?_  -- region 9, tree.go:261
    refine G.v (V.mv rfl) rfl ?_
    refine G.v (V.eqI rfl rfl) rfl ?_
    refine G.nil ?_
    refine GC.condD rfl (fun h26 => absurd (UInt8.toNat_inj.1 (show x.toNat = (92 : UInt8).toNat by have h0 : (92 : UInt8).toNat = 92 := rfl; omega)) x3) (fun h26 => ?_)
    refine GC.skip ?_
    refine GC.seq ?_
    refine GC.seq ?_
    refine GC.reg ?_  -- region 11, tree.go:266
    refine G.v (V.mv rfl) rfl ?_
    refine G.v (V.neI rfl rfl) rfl ?_
    refine G.v (V.mv rfl) rfl ?_
    refine G.bc 29 rfl (fun h29 => ?_) (fun h29 => ?_)
    · refine G.vg rfl rfl (V.mv rfl) rfl ?_
      refine G.vg rfl rfl (V.neI rfl rfl) rfl ?_
      refine G.v (V.pickT rfl rfl) rfl ?_
      refine G.nil ?_
      refine GC.cond rfl (fun h32 => ?_) (fun h32 => absurd h32 (by rw [show (42 : Int) = (((42 : UInt8).toNat : Nat) : Int) from rfl, u_ne x2]; decide))
      refine GC.exit rfl ?_
      refine GC.reg ?_  -- region 24, tree.go:253
      refine G.v (V.addI (r := ((i + 1 : Nat) : Int)) rfl rfl rfl (by omega) (by omega)) rfl ?_
      refine G.v (V.mv rfl) rfl ?_
      refine G.nil ?_
      exact ih (N - 1) _ _ (by omega) ⟨i + 1, by omega, .cons rfl (.cons rfl (.cons rfl (.cons rfl (.cons rfl .nil)))), rfl⟩
    · exact absurd h29 (by rw [show (58 : Int) = (((58 : UInt8).toNat : Nat) : Int) from rfl, u_ne x1]; decide)
  refine GC.exit rfl ?_
  refine GC.seq ?_
  refine GC.reg ?_  -- region 25, tree.go:282
  refine G.v (V.asg rfl) rfl ?_
  refine G.v (V.asg rfl) rfl ?_
  refine G.v (V.asg rfl) rfl ?_
  refine G.nil ?_
  exact GC.ret3 rfl rfl rfl rfl fun w' hw' => ⟨rfl, hw'.sub (List.nil_sublist _)⟩

theorem f48_plain (w : World) (D : Nat → Prop) (nb : Nat) (p fu p0 fu0 : List UInt8) (nt pr : Int) (hd hd0 : Value) (hdo : hd.oneCell' = true) (hp : Plain p) (hl : p.length ≤ 100000) (hH : HF w D [⟨nb, true, .row [S p0, S [], .bool false, .int .u8 nt, .int .u32 pr, .slice none 0 0, hd0, S fu0] 72 (0, 0)⟩] w) : Calls Tryd.prog 48 #[Pt nb 0, S p, S fu, hd] w fun e w' => e = .returned (.tuple #[]) ∧ HF w D [⟨nb, true, .row [S p, S [], .bool false, .int .u8 nt, .int .u32 pr, .slice none 0 0, hd, S fu] 72 (0, 0)⟩] w' := by
  refine enter D ([⟨nb, true, .row [S p0, S [], .bool false, .int .u8 nt, .int .u32 pr, .slice none 0 0, hd0, S fu0] 72 (0, 0)⟩]) Tryd.func48 rfl Tryd.ntmps48 rfl rfl hH fun c hc => ?_
  subst hc
  refine GC.seq ?_
  refine GC.block ?_
  refine GC.loop ?_
  refine GC.block ?_
  refine GC.seq ?_
  refine GC.reg ?_  -- region 0, tree.go:288
  refine G.v (V.mv rfl) rfl ?_
  refine G.callP Tryd.call60 rfl rfl (fun w1 hw1 => f60_plain w1 p hp hl) ?_
  refine G.v (V.mv rfl) rfl ?_
  refine G.v (V.ex rfl rfl) rfl ?_
  refine G.v (V.ex rfl rfl) rfl ?_
  refine G.v (V.ex rfl rfl) rfl ?_
  refine G.v (V.asg rfl) rfl ?_
  refine G.v (V.asg rfl) rfl ?_
  refine G.v (V.asg rfl) rfl ?_
  refine G.nil ?_
  refine GC.seq ?_
  refine GC.seq ?_
  refine GC.reg ?_  -- region 1, tree.go:289
  refine G.v (V.mv rfl) rfl ?_
  refine G.v (V.lt rfl rfl) rfl ?_
  refine G.nil ?_
  refine GC.condD rfl (fun h22 => ?_) (fun h22 => absurd h22 (by decide))
  refine GC.exit rfl ?_
  refine GC.seq ?_
  refine GC.reg ?_  -- region 39, tree.go:391
  refine G.v (V.mv rfl) rfl ?_
  refine G.v (V.mv rfl) rfl ?_
  refine G.v (V.nc rfl) rfl ?_
  refine G.v (V.fa F72_0 rfl) rfl ?_
  refine G.st (b := nb) (off := 0 + 0) (l := [S p0, S [], .bool false, .int .u8 nt, .int .u32 pr, .slice none 0 0, hd0, S fu0]) (T := 72) (fz := (0, 0)) (v := S p) Tryd.sizeOf9 rfl rfl rfl .z rfl rfl ?_
  refine G.nil ?_
  refine GC.seq ?_
  refine GC.turn (H' := [⟨nb, true, .row [S p, S [], .bool false, .int .u8 nt, .int .u32 pr, .slice none 0 0, hd0, S fu0] 72 (0, 0)⟩]) (fun w1 hw1 => hw1) ?_
  refine GC.reg ?_  -- region 40, tree.go:392
  refine G.v (V.mv rfl) rfl ?_
  refine G.v (V.mv rfl) rfl ?_
  refine G.v (V.nc rfl) rfl ?_
  refine G.v (V.fa F72_6 rfl) rfl ?_
  refine G.st (b := nb) (off := 0 + 6) (l := [S p, S [], .bool false, .int .u8 nt, .int .u32 pr, .slice none 0 0, hd0, S fu0]) (T := 72) (fz := (0, 0)) (v := hd) Tryd.sizeOf70 rfl rfl hdo .z rfl rfl ?_
  refine G.nil ?_
  refine GC.turn (H' := [⟨nb, true, .row [S p, S [], .bool false, .int .u8 nt, .int .u32 pr, .slice none 0 0, hd, S fu0] 72 (0, 0)⟩]) (fun w1 hw1 => hw1) ?_
  refine GC.reg ?_  -- region 41, tree.go:393
  refine G.v (V.mv rfl) rfl ?_
  refine G.v (V.mv rfl) rfl ?_
  refine G.v (V.nc rfl) rfl ?_
  refine G.v (V.fa F72_7 rfl) rfl ?_
  refine G.st (b := nb) (off := 0 + 7) (l := [S p, S [], .bool false, .int .u8 nt, .int .u32 pr, .slice none 0 0, hd, S fu0]) (T := 72) (fz := (0, 0)) (v := S fu) Tryd.sizeOf9 rfl rfl rfl .z rfl rfl ?_
  refine G.nil ?_
  exact GC.end0 rfl fun w' hw' => ⟨rfl, hw'⟩

theorem f44_first (w : World) (D : Nat → Prop) (nb : Nat) (p : List UInt8) (hd : Value) (hdo : hd.oneCell' = true) (hp : Plain p) (hl : p.length ≤ 100000) (hH : HF w D [⟨nb, true, .row [S [], S [], .bool false, .int .u8 0, .int .u32 0, .slice none 0 0, .slice none 0 0, S [47]] 72 (0, 0)⟩] w) : Calls Tryd.prog 44 #[Pt nb 0, S p, hd] w fun e w' => e = .returned (.tuple #[]) ∧ HF w D [⟨nb, true, .row [S p, S [], .bool false, .int .u8 1, .int .u32 1, .slice none 0 0, hd, S p] 72 (0, 0)⟩] w' := by
  refine enter D ([⟨nb, true, .row [S [], S [], .bool false, .int .u8 0, .int .u32 0, .slice none 0 0, .slice none 0 0, S [47]] 72 (0, 0)⟩]) Tryd.func44 rfl Tryd.ntmps44 rfl rfl hH fun c hc => ?_
  subst hc
  refine GC.scope ?_
  refine GC.seq ?_
  refine GC.reg ?_  -- region 0, tree.go:133
  refine G.v (V.mv rfl) rfl ?_
  refine G.v (V.asg rfl) rfl ?_
  refine G.nil ?_
  refine GC.seq ?_
  refine GC.reg ?_  -- region 1, tree.go:134
  refine G.v (V.mv rfl) rfl ?_
  refine G.v (V.nc rfl) rfl ?_
  refine G.v (V.fa F72_4 rfl) rfl ?_
  refine G.v (V.ld (b := nb) (off := 0 + 4) (wf := true) (l := [S [], S [], .bool false, .int .u8 0, .int .u32 0, .slice none 0 0, .slice none 0 0, S [47]]) (T := 72) (fz := (0, 0)) (v := .int .u32 0) Tryd.isAgg68 rfl (.head _) rfl) rfl ?_
  refine G.v (v := .int .u32 1) (V.add (i := 0) (j := 1) rfl rfl) rfl ?_
  refine G.v (V.nc rfl) rfl ?_
  refine G.v (V.fa F72_4 rfl) rfl ?_
  refine G.st (b := nb) (off := 0 + 4) (l := [S [], S [], .bool false, .int .u8 0, .int .u32 0, .slice none 0 0, .slice none 0 0, S [47]]) (T := 72) (fz := (0, 0)) (v := .int .u32 1) Tryd.sizeOf68 rfl rfl rfl .z rfl rfl ?_
  refine G.nil ?_
  refine GC.seq ?_
  refine GC.seq ?_
  refine GC.turn (H' := [⟨nb, true, .row [S [], S [], .bool false, .int .u8 0, .int .u32 1, .slice none 0 0, .slice none 0 0, S [47]] 72 (0, 0)⟩]) (fun w1 hw1 => hw1) ?_
  refine GC.reg ?_  -- region 2, tree.go:137
  refine G.v (V.mv rfl) rfl ?_
  refine G.v (V.nc rfl) rfl ?_
  refine G.v (V.fa F72_0 rfl) rfl ?_
  refine G.v (V.ld (b := nb) (off := 0 + 0) (wf := true) (l := [S [], S [], .bool false, .int .u8 0, .int .u32 1, .slice none 0 0, .slice none 0 0, S [47]]) (T := 72) (fz := (0, 0)) (v := S []) Tryd.isAgg9 rfl (.head _) rfl) rfl ?_
  refine G.v (V.lenS Tryd.underlying9 rfl) rfl ?_
  refine G.v (V.eqI rfl rfl) rfl ?_
  refine G.v (V.mv rfl) rfl ?_
  refine G.bc 30 rfl (fun h30 => ?_) (fun h30 => ?_)
  · refine G.vg rfl rfl (V.mv rfl) rfl ?_
    refine G.vg rfl rfl (V.nc rfl) rfl ?_
    refine G.vg rfl rfl (V.fa F72_5 rfl) rfl ?_
    refine G.vg rfl rfl (V.ld (b := nb) (off := 0 + 5) (wf := true) (l := [S [], S [], .bool false, .int .u8 0, .int .u32 1, .slice none 0 0, .slice none 0 0, S [47]]) (T := 72) (fz := (0, 0)) (v := .slice none 0 0) Tryd.isAgg69 rfl (.head _) rfl) rfl ?_
    refine G.vg rfl rfl (V.lenL Tryd.underlying69 rfl) rfl ?_
    refine G.vg rfl rfl (V.eqI rfl rfl) rfl ?_
    refine G.v (V.pickT rfl rfl) rfl ?_
    refine G.nil ?_
    refine GC.cond rfl (fun h37 => ?_) (fun h37 => absurd h37 (by decide))
    refine GC.seq ?_
    refine GC.reg ?_  -- region 3, tree.go:138
    refine G.v (V.mv rfl) rfl ?_
    refine G.v (V.mv rfl) rfl ?_
    refine G.v (V.mv rfl) rfl ?_
    refine G.v (V.mv rfl) rfl ?_
    refine G.callL (H1 := [⟨nb, true, .row [S [], S [], .bool false, .int .u8 0, .int .u32 1, .slice none 0 0, .slice none 0 0, S [47]] 72 (0, 0)⟩]) (Hk := []) (fun v H1' => v = .tuple #[] ∧ H1' = [⟨nb, true, .row [S p, S [], .bool false, .int .u8 0, .int .u32 1, .slice none 0 0, hd, S p] 72 (0, 0)⟩]) (.of_eq rfl) (fun e0 he0 => by rw [List.mem_singleton.1 he0]) Tryd.call48 rfl rfl (fun w1 hw1 _ => (f48_plain w1 _ nb p p [] [47] 0 1 hd (.slice none 0 0) hdo hp hl hw1).mono fun e w' ⟨h1, h2⟩ => ⟨_, _, h1, fun e0 he0 => by rw [List.mem_singleton.1 he0], h2, rfl, rfl⟩) ?_
    rintro v H1' ⟨rfl, rfl⟩
    rw [List.append_nil]
    refine G.nil ?_
    refine GC.seq ?_
    refine GC.reg ?_  -- region 4, tree.go:139
    refine G.v (V.mv rfl) rfl ?_
    refine G.v (V.nc rfl) rfl ?_
    refine G.v (V.fa F72_3 rfl) rfl ?_
    refine G.st (b := nb) (off := 0 + 3) (l := [S p, S [], .bool false, .int .u8 0, .int .u32 1, .slice none 0 0, hd, S p]) (T := 72) (fz := (0, 0)) (v := .int .u8 1) Tryd.sizeOf67 rfl rfl rfl .z rfl rfl ?_
    refine G.nil ?_
    exact GC.ret0 rfl fun w' hw' => ⟨rfl, hw'⟩
  · exact absurd h30 (by decide)

end Go.Proofs

/- ginTree of one plain route. Printed by wip/mk_gs9.py. -/
namespace Go.Proofs
open Go Bw
set_option maxRecDepth 20000

theorem rot3 {α : Type} (a b c : α) : [a, b, c].Perm [c, a, b] := ((List.Perm.swap c b []).cons a).trans (List.Perm.swap c a [b])
def nodeR (path : List UInt8) (nt pr : Int) (hd : Value) (fu : List UInt8) : List Value := [S path, S [], .bool false, .int .u8 nt, .int .u32 pr, .slice none 0 0, hd, S fu]
def treeR (nb : Nat) (m s : Nat) : List Value := [Pt nb 0, .int .u16 (m : Int), .int .u16 (s : Int)]
theorem full72 (w : World) : (Instr.build 72 #[(7, S [47])]).run Tryd.prog w = .ok (.agg (nodeR [] 0 0 (.slice none 0 0) [47]).toArray) w := by
  simp [Instr.build, Tryd.zeroValue72, Tryd.runUnderlying72, Tryd.sizeOf9, Tryd.sizeOf4, Tryd.sizeOf67, Tryd.sizeOf68, Tryd.sizeOf69, Tryd.sizeOf70, cells_agg, Instr.fill, cells_str, nodeR]
theorem full61 (nb : Nat) (w : World) : (Instr.build 61 #[(0, Pt nb 0)]).run Tryd.prog w = .ok (.agg (treeR nb 0 0).toArray) w := by
  simp [Instr.build, Tryd.zeroValue61, Tryd.runUnderlying61, Tryd.sizeOf59, Tryd.sizeOf22, cells_agg, Instr.fill, cells_ptr, treeR]
theorem f34_any (w : World)  : Calls Tryd.prog 34 #[] w fun e w' => ∃ nb tb, e = .returned (Pt tb 0) ∧ HF w (fun _ => False) [⟨tb, true, .row (treeR nb 0 0) 61 (0, 0)⟩, ⟨nb, true, .row (nodeR [] 0 0 (.slice none 0 0) [47]) 72 (0, 0)⟩] w' := by
  refine enter (fun _ => False) [] Tryd.func34 rfl Tryd.ntmps34 rfl rfl (HF.start w _) fun c hc => ?_
  subst hc
  refine GC.seq ?_
  refine GC.reg ?_  -- region 0, zz_tree.go:73
  refine G.v (V.asg rfl) rfl ?_
  refine G.nil ?_
  refine GC.seq ?_
  refine GC.reg ?_  -- region 1, zz_tree.go:73
  refine G.v (V.bd (vs := [(7, S [47])]) rfl (fun w1 => full72 w1)) rfl ?_
  refine G.bx (l := nodeR [] 0 0 (.slice none 0 0) [47]) rfl (by simp [cells_agg, nodeR]) rfl (fun nb hnb => ?_)
  refine G.v (V.bd (vs := [(0, Pt nb 0)]) rfl (fun w1 => full61 nb w1)) rfl ?_
  refine G.bx (l := treeR nb 0 0) rfl (by simp [cells_agg, treeR]) rfl (fun tb htb => ?_)
  refine G.v (V.asg rfl) rfl ?_
  refine G.nil ?_
  exact GC.ret1 rfl rfl fun w' hw' => ⟨nb, tb, rfl, hw'⟩

theorem f36_first (w : World) (D : Nat → Prop) (nb tb : Nat) (p : List UInt8) (num : Int) (h47 : p[0]? = some 47) (hp : Plain p) (hl : p.length ≤ 20000) (hH : HF w D [⟨tb, true, .row (treeR nb 0 0) 61 (0, 0)⟩, ⟨nb, true, .row (nodeR [] 0 0 (.slice none 0 0) [47]) 72 (0, 0)⟩] w) : Calls Tryd.prog 36 #[Pt tb 0, S p, I num] w fun e w' => e = .returned (.tuple #[]) ∧ ∃ hb, HF w D [⟨tb, true, .row (treeR nb (max 0 (p.count 58 + p.count 42)) (max 0 (p.count 47))) 61 (0, 0)⟩, ⟨nb, true, .row (nodeR p 1 1 (.slice (some ⟨hb, 0, none⟩) 1 1) p) 72 (0, 0)⟩, ⟨hb, true, .row [I num] 3 (0, 0)⟩] w' := by
  refine enter D ([⟨tb, true, .row (treeR nb 0 0) 61 (0, 0)⟩, ⟨nb, true, .row (nodeR [] 0 0 (.slice none 0 0) [47]) 72 (0, 0)⟩]) Tryd.func36 rfl Tryd.ntmps36 rfl rfl hH fun c hc => ?_
  subst hc
  refine GC.seq ?_
  refine GC.seq ?_
  refine GC.reg ?_  -- region 0, zz_tree.go:77
  refine G.v (V.mv rfl) rfl ?_
  refine G.v (V.idx (i := 0) (b := 47) Tryd.underlying9 rfl rfl h47) rfl ?_
  refine G.v (V.neI rfl rfl) rfl ?_
  refine G.nil ?_
  refine GC.cond rfl (fun h8 => absurd h8 (by decide)) (fun h8 => ?_)
  refine GC.skip ?_
  refine GC.seq ?_
  refine GC.reg ?_  -- region 2, zz_tree.go:80
  refine G.v (V.mv rfl) rfl ?_
  refine G.v (V.nc rfl) rfl ?_
  refine G.v (V.fa F61_0 rfl) rfl ?_
  refine G.v (V.ld (b := tb) (off := 0 + 0) (wf := true) (l := treeR nb 0 0) (T := 61) (fz := (0, 0)) (v := Pt nb 0) Tryd.isAgg59 rfl (.head _) rfl) rfl ?_
  refine G.v (V.mv rfl) rfl ?_
  refine G.v (V.mv rfl) rfl ?_
  refine G.bs (BS.one Tryd.underlying70 Tryd.sizeOf3 Tryd.zeroValue3 (v := I num) rfl) rfl rfl (fun hb hhb => ?_)
  refine G.callL (H1 := [⟨nb, true, .row (nodeR [] 0 0 (.slice none 0 0) [47]) 72 (0, 0)⟩]) (Hk := [⟨hb, true, .row [I num] 3 (0, 0)⟩, ⟨tb, true, .row (treeR nb 0 0) 61 (0, 0)⟩]) (fun v H1' => v = .tuple #[] ∧ H1' = [⟨nb, true, .row (nodeR p 1 1 (.slice (some ⟨hb, 0, none⟩) 1 1) p) 72 (0, 0)⟩]) (rot3 _ _ _) (fun e0 he0 => by rw [List.mem_singleton.1 he0]) Tryd.call44 rfl rfl (fun w1 hw1 _ => (f44_first w1 _ nb p (.slice (some ⟨hb, 0, none⟩) 1 1) rfl hp (by omega) hw1).mono fun e w' ⟨h1, h2⟩ => ⟨_, _, h1, fun e0 he0 => by rw [List.mem_singleton.1 he0], h2, rfl, rfl⟩) ?_
  rintro v H1' ⟨rfl, rfl⟩
  refine G.nil ?_
  refine GC.seq ?_
  refine GC.join (fun fr' H' => Sub [(0, Pt tb 0), (1, S p)] fr' ∧ [⟨tb, true, .row (treeR nb (max 0 (p.count 58 + p.count 42)) 0) 61 (0, 0)⟩, ⟨nb, true, .row (nodeR p 1 1 (.slice (some ⟨hb, 0, none⟩) 1 1) p) 72 (0, 0)⟩, ⟨hb, true, .row [I num] 3 (0, 0)⟩] = H') (fun J3 => ?_) ?_
  · refine GC.regA (fun _ => True) mixed ?_
    refine GA.p 0 rfl (by kernel_rfl) (fun _ _ => trivial) (fun _ => V.mv rfl) rfl ?_
    refine GA.p 1 rfl (by kernel_rfl) (fun _ _ => trivial) (fun _ => V.mv rfl) rfl ?_
    refine GA.p 2 rfl (by kernel_rfl) (fun _ _ => trivial) (fun _ => V.nc rfl) rfl ?_
    refine GA.p 3 rfl (by kernel_rfl) (fun _ _ => trivial) (fun _ => V.fa F61_1 rfl) rfl ?_
    refine GA.p 5 rfl (by kernel_rfl) (fun _ _ => trivial) (fun _ => V.mv rfl) rfl ?_
    refine GA.two 4 6 rfl rfl (by kernel_rfl) ?_ ?_
    · refine GB.v (V.ld (b := tb) (off := 0 + 1) (wf := true) (l := treeR nb 0 0) (T := 61) (fz := (0, 0)) (v := .int .u16 ((0 : Nat) : Int)) Tryd.isAgg22 rfl (.tail _ (.tail _ (.head _))) rfl) (fun _ _ => trivial) rfl ?_
      refine GA.one 6 rfl (by kernel_rfl) ?_
      refine GB.callW (xs := [.tmp 23]) (vs := [S p]) (fun v H2 => v = .int .u16 ((p.count 58 + p.count 42 : Nat) : Int) ∧ H2 = [⟨nb, true, .row (nodeR p 1 1 (.slice (some ⟨hb, 0, none⟩) 1 1) p) 72 (0, 0)⟩, ⟨hb, true, .row [I num] 3 (0, 0)⟩, ⟨tb, true, .row (treeR nb 0 0) 61 (0, 0)⟩]) Tryd.call29 rfl rfl (fun _ _ _ _ _ => trivial) (fun w1 hw1 => (f29_any w1 p hl).mono fun e w' ⟨h1, h2⟩ => ⟨_, _, h1, hw1.after0 h2 (fun e he => by cases he), rfl, rfl⟩) ?_
      rintro v H2 ⟨rfl, rfl⟩
      refine GA.p 7 rfl (by kernel_rfl) (fun _ _ => trivial) (fun _ => V.maxI rfl rfl) rfl ?_
      refine GA.p 8 rfl (by kernel_rfl) (fun _ _ => trivial) (fun _ => V.nc rfl) rfl ?_
      refine GA.p 9 rfl (by kernel_rfl) (fun _ _ => trivial) (fun _ => V.fa F61_1 rfl) rfl ?_
      refine GA.one 10 rfl (by kernel_rfl) ?_
      refine GB.st (b := tb) (off := 0 + 1) (l := treeR nb 0 0) (T := 61) (fz := (0, 0)) Tryd.sizeOf22 rfl rfl rfl (.s (.s .z)) rfl rfl (fun _ _ => trivial) ?_
      refine GA.done (by kernel_rfl) ?_
      refine GC.turn (H' := [⟨tb, true, .row (treeR nb (max 0 (p.count 58 + p.count 42)) 0) 61 (0, 0)⟩, ⟨nb, true, .row (nodeR p 1 1 (.slice (some ⟨hb, 0, none⟩) 1 1) p) 72 (0, 0)⟩, ⟨hb, true, .row [I num] 3 (0, 0)⟩]) (fun w1 hw1 => hw1.perm (rot3 _ _ _)) ?_
      exact J3 _ _ ⟨.cons rfl (.cons rfl .nil), rfl⟩
    · refine GB.callW (xs := [.tmp 23]) (vs := [S p]) (fun v H2 => v = .int .u16 ((p.count 58 + p.count 42 : Nat) : Int) ∧ H2 = [⟨nb, true, .row (nodeR p 1 1 (.slice (some ⟨hb, 0, none⟩) 1 1) p) 72 (0, 0)⟩, ⟨hb, true, .row [I num] 3 (0, 0)⟩, ⟨tb, true, .row (treeR nb 0 0) 61 (0, 0)⟩]) Tryd.call29 rfl rfl (fun _ _ _ _ _ => trivial) (fun w1 hw1 => (f29_any w1 p hl).mono fun e w' ⟨h1, h2⟩ => ⟨_, _, h1, hw1.after0 h2 (fun e he => by cases he), rfl, rfl⟩) ?_
      rintro v H2 ⟨rfl, rfl⟩
      refine GA.one 4 rfl (by kernel_rfl) ?_
      refine GB.v (V.ld (b := tb) (off := 0 + 1) (wf := true) (l := treeR nb 0 0) (T := 61) (fz := (0, 0)) (v := .int .u16 ((0 : Nat) : Int)) Tryd.isAgg22 rfl (.tail _ (.tail _ (.head _))) rfl) (fun _ _ => trivial) rfl ?_
      refine GA.p 7 rfl (by kernel_rfl) (fun _ _ => trivial) (fun _ => V.maxI rfl rfl) rfl ?_
      refine GA.p 8 rfl (by kernel_rfl) (fun _ _ => trivial) (fun _ => V.nc rfl) rfl ?_
      refine GA.p 9 rfl (by kernel_rfl) (fun _ _ => trivial) (fun _ => V.fa F61_1 rfl) rfl ?_
      refine GA.one 10 rfl (by kernel_rfl) ?_
      refine GB.st (b := tb) (off := 0 + 1) (l := treeR nb 0 0) (T := 61) (fz := (0, 0)) Tryd.sizeOf22 rfl rfl rfl (.s (.s .z)) rfl rfl (fun _ _ => trivial) ?_
      refine GA.done (by kernel_rfl) ?_
      refine GC.turn (H' := [⟨tb, true, .row (treeR nb (max 0 (p.count 58 + p.count 42)) 0) 61 (0, 0)⟩, ⟨nb, true, .row (nodeR p 1 1 (.slice (some ⟨hb, 0, none⟩) 1 1) p) 72 (0, 0)⟩, ⟨hb, true, .row [I num] 3 (0, 0)⟩]) (fun w1 hw1 => hw1.perm (rot3 _ _ _)) ?_
      exact J3 _ _ ⟨.cons rfl (.cons rfl .nil), rfl⟩
  rintro fr' H' ⟨hsj, rfl⟩
  refine GC.weak hsj ?_
  clear hsj
  refine GC.join (fun fr' H' => Sub [(0, Pt tb 0), (1, S p)] fr' ∧ [⟨tb, true, .row (treeR nb (max 0 (p.count 58 + p.count 42)) (max 0 (p.count 47))) 61 (0, 0)⟩, ⟨nb, true, .row (nodeR p 1 1 (.slice (some ⟨hb, 0, none⟩) 1 1) p) 72 (0, 0)⟩, ⟨hb, true, .row [I num] 3 (0, 0)⟩] = H') (fun J4 => ?_) ?_
  · refine GC.regA (fun _ => True) mixed ?_
    refine GA.p 0 rfl (by kernel_rfl) (fun _ _ => trivial) (fun _ => V.mv rfl) rfl ?_
    refine GA.p 1 rfl (by kernel_rfl) (fun _ _ => trivial) (fun _ => V.mv rfl) rfl ?_
    refine GA.p 2 rfl (by kernel_rfl) (fun _ _ => trivial) (fun _ => V.nc rfl) rfl ?_
    refine GA.p 3 rfl (by kernel_rfl) (fun _ _ => trivial) (fun _ => V.fa F61_2 rfl) rfl ?_
    refine GA.p 5 rfl (by kernel_rfl) (fun _ _ => trivial) (fun _ => V.mv rfl) rfl ?_
    refine GA.two 4 6 rfl rfl (by kernel_rfl) ?_ ?_
    · refine GB.v (V.ld (b := tb) (off := 0 + 2) (wf := true) (l := treeR nb (max 0 (p.count 58 + p.count 42)) 0) (T := 61) (fz := (0, 0)) (v := .int .u16 ((0 : Nat) : Int)) Tryd.isAgg22 rfl (.head _) rfl) (fun _ _ => trivial) rfl ?_
      refine GA.one 6 rfl (by kernel_rfl) ?_
      refine GB.callW (xs := [.tmp 33]) (vs := [S p]) (fun v H2 => v = .int .u16 ((p.count 47 : Nat) : Int) ∧ H2 = [⟨tb, true, .row (treeR nb (max 0 (p.count 58 + p.count 42)) 0) 61 (0, 0)⟩, ⟨nb, true, .row (nodeR p 1 1 (.slice (some ⟨hb, 0, none⟩) 1 1) p) 72 (0, 0)⟩, ⟨hb, true, .row [I num] 3 (0, 0)⟩]) Tryd.call30 rfl rfl (fun _ _ _ _ _ => trivial) (fun w1 hw1 => (f30_any w1 p hl).mono fun e w' ⟨h1, h2⟩ => ⟨_, _, h1, hw1.after0 h2 (fun e he => by cases he), rfl, rfl⟩) ?_
      rintro v H2 ⟨rfl, rfl⟩
      refine GA.p 7 rfl (by kernel_rfl) (fun _ _ => trivial) (fun _ => V.maxI rfl rfl) rfl ?_
      refine GA.p 8 rfl (by kernel_rfl) (fun _ _ => trivial) (fun _ => V.nc rfl) rfl ?_
      refine GA.p 9 rfl (by kernel_rfl) (fun _ _ => trivial) (fun _ => V.fa F61_2 rfl) rfl ?_
      refine GA.one 10 rfl (by kernel_rfl) ?_
      refine GB.st (b := tb) (off := 0 + 2) (l := treeR nb (max 0 (p.count 58 + p.count 42)) 0) (T := 61) (fz := (0, 0)) Tryd.sizeOf22 rfl rfl rfl (.z) rfl rfl (fun _ _ => trivial) ?_
      refine GA.done (by kernel_rfl) ?_
      exact J4 _ _ ⟨.cons rfl (.cons rfl .nil), rfl⟩
    · refine GB.callW (xs := [.tmp 33]) (vs := [S p]) (fun v H2 => v = .int .u16 ((p.count 47 : Nat) : Int) ∧ H2 = [⟨tb, true, .row (treeR nb (max 0 (p.count 58 + p.count 42)) 0) 61 (0, 0)⟩, ⟨nb, true, .row (nodeR p 1 1 (.slice (some ⟨hb, 0, none⟩) 1 1) p) 72 (0, 0)⟩, ⟨hb, true, .row [I num] 3 (0, 0)⟩]) Tryd.call30 rfl rfl (fun _ _ _ _ _ => trivial) (fun w1 hw1 => (f30_any w1 p hl).mono fun e w' ⟨h1, h2⟩ => ⟨_, _, h1, hw1.after0 h2 (fun e he => by cases he), rfl, rfl⟩) ?_
      rintro v H2 ⟨rfl, rfl⟩
      refine GA.one 4 rfl (by kernel_rfl) ?_
      refine GB.v (V.ld (b := tb) (off := 0 + 2) (wf := true) (l := treeR nb (max 0 (p.count 58 + p.count 42)) 0) (T := 61) (fz := (0, 0)) (v := .int .u16 ((0 : Nat) : Int)) Tryd.isAgg22 rfl (.head _) rfl) (fun _ _ => trivial) rfl ?_
      refine GA.p 7 rfl (by kernel_rfl) (fun _ _ => trivial) (fun _ => V.maxI rfl rfl) rfl ?_
      refine GA.p 8 rfl (by kernel_rfl) (fun _ _ => trivial) (fun _ => V.nc rfl) rfl ?_
      refine GA.p 9 rfl (by kernel_rfl) (fun _ _ => trivial) (fun _ => V.fa F61_2 rfl) rfl ?_
      refine GA.one 10 rfl (by kernel_rfl) ?_
      refine GB.st (b := tb) (off := 0 + 2) (l := treeR nb (max 0 (p.count 58 + p.count 42)) 0) (T := 61) (fz := (0, 0)) Tryd.sizeOf22 rfl rfl rfl (.z) rfl rfl (fun _ _ => trivial) ?_
      refine GA.done (by kernel_rfl) ?_
      exact J4 _ _ ⟨.cons rfl (.cons rfl .nil), rfl⟩
  rintro fr' H' ⟨hsj, rfl⟩
  refine GC.weak hsj ?_
  clear hsj
  exact GC.end0 rfl fun w' hw' => ⟨rfl, hb, hw'⟩

end Go.Proofs

/- ginTree of one plain route. Printed by wip/mk_gs10.py. -/
namespace Go.Proofs
open Go Bw
set_option maxRecDepth 20000
theorem _root_.List.isPerm_rot5 {α : Type} (a b c d e : α) : [a, b, c, d, e].Perm [d, e, c, a, b] :=
  perm_idx [[a], [b], [c], [d], [e]] [0, 1, 2, 3, 4] [3, 4, 2, 0, 1] (by decide)

theorem f35_first (w : World) (D : Nat → Prop) (nb tb ca cb cc : Nat) (p : List UInt8) (h47 : p[0]? = some 47) (hp : Plain p) (hl : p.length ≤ 20000) (hH : HF w D [⟨tb, true, .row (treeR nb 0 0) 61 (0, 0)⟩, ⟨nb, true, .row (nodeR [] 0 0 (.slice none 0 0) [47]) 72 (0, 0)⟩, ⟨ca, true, .row [Pt tb 0] 39 (0, 0)⟩, ⟨cb, true, .row [S p] 9 (0, 0)⟩, ⟨cc, true, .row [I 0] 3 (0, 0)⟩] w) : Calls Tryd.prog 35 #[Pt ca 0, Pt cb 0, Pt cc 0] w fun e w' => e = .returned (.tuple #[]) ∧ ∃ hb, HF w D [⟨tb, true, .row (treeR nb (max 0 (p.count 58 + p.count 42)) (max 0 (p.count 47))) 61 (0, 0)⟩, ⟨nb, true, .row (nodeR p 1 1 (.slice (some ⟨hb, 0, none⟩) 1 1) p) 72 (0, 0)⟩, ⟨hb, true, .row [I 1] 3 (0, 0)⟩, ⟨ca, true, .row [Pt tb 0] 39 (0, 0)⟩, ⟨cb, true, .row [S p] 9 (0, 0)⟩, ⟨cc, true, .row [I 0] 3 (0, 0)⟩] w' := by
  refine enter D ([⟨tb, true, .row (treeR nb 0 0) 61 (0, 0)⟩, ⟨nb, true, .row (nodeR [] 0 0 (.slice none 0 0) [47]) 72 (0, 0)⟩, ⟨ca, true, .row [Pt tb 0] 39 (0, 0)⟩, ⟨cb, true, .row [S p] 9 (0, 0)⟩, ⟨cc, true, .row [I 0] 3 (0, 0)⟩]) Tryd.func35 rfl Tryd.ntmps35 rfl rfl hH fun c hc => ?_
  subst hc
  refine GC.reg ?_  -- region 0, gin.go:41
  refine G.v (V.ld (b := ca) (off := 0) (wf := true) (l := [Pt tb 0]) (T := 39) (fz := (0, 0)) (v := Pt tb 0) Tryd.isAgg39 rfl (by simp) rfl) rfl ?_
  refine G.v (V.ld (b := cb) (off := 0) (wf := true) (l := [S p]) (T := 9) (fz := (0, 0)) (v := S p) Tryd.isAgg9 rfl (by simp) rfl) rfl ?_
  refine G.v (V.ld (b := cc) (off := 0) (wf := true) (l := [I 0]) (T := 3) (fz := (0, 0)) (v := I 0) Tryd.isAgg3 rfl (by simp) rfl) rfl ?_
  refine G.v (V.addI (r := 1) rfl rfl rfl (by omega) (by omega)) rfl ?_
  refine G.callL (H1 := [⟨tb, true, .row (treeR nb 0 0) 61 (0, 0)⟩, ⟨nb, true, .row (nodeR [] 0 0 (.slice none 0 0) [47]) 72 (0, 0)⟩]) (Hk := [⟨ca, true, .row [Pt tb 0] 39 (0, 0)⟩, ⟨cb, true, .row [S p] 9 (0, 0)⟩, ⟨cc, true, .row [I 0] 3 (0, 0)⟩]) (fun v H1' => ∃ hb, v = .tuple #[] ∧ H1' = [⟨tb, true, .row (treeR nb (max 0 (p.count 58 + p.count 42)) (max 0 (p.count 47))) 61 (0, 0)⟩, ⟨nb, true, .row (nodeR p 1 1 (.slice (some ⟨hb, 0, none⟩) 1 1) p) 72 (0, 0)⟩, ⟨hb, true, .row [I 1] 3 (0, 0)⟩]) (.of_eq rfl) (fun e0 he0 => by simp only [List.mem_cons, List.not_mem_nil, or_false] at he0; rcases he0 with rfl | rfl <;> rfl) Tryd.call36 rfl rfl (fun w1 hw1 _ => (f36_first w1 _ nb tb p 1 h47 hp hl hw1).mono fun e w' ⟨h1, hb, h2⟩ => ⟨_, _, h1, (fun e0 he0 => by simp only [List.mem_cons, List.not_mem_nil, or_false] at he0; rcases he0 with rfl | rfl | rfl <;> rfl), h2, hb, rfl, rfl⟩) ?_
  rintro v H1' ⟨hb, rfl, rfl⟩
  refine G.nil ?_
  exact GC.end0 rfl fun w' hw' => ⟨rfl, hb, hw'⟩

theorem f23_first (w : World) (lb lo cp : Nat) (p : List UInt8) (h47 : p[0]? = some 47) (hp : Plain p) (hl : p.length ≤ 20000) (hc : w.cell? ⟨lb, lo, none⟩ = some (S p)) : Calls Tryd.prog 23 #[.slice (some ⟨lb, lo, none⟩) 1 cp] w fun e w' => ∃ nb tb hb, e = .returned (.tuple #[Pt tb 0, I (-1)]) ∧ HF w (fun _ => False) [⟨tb, true, .row (treeR nb (max 0 (p.count 58 + p.count 42)) (max 0 (p.count 47))) 61 (0, 0)⟩, ⟨nb, true, .row (nodeR p 1 1 (.slice (some ⟨hb, 0, none⟩) 1 1) p) 72 (0, 0)⟩, ⟨hb, true, .row [I 1] 3 (0, 0)⟩] w' := by
  refine enter (fun _ => False) [] Tryd.func23 rfl Tryd.ntmps23 rfl rfl (HF.start w _) fun c hc => ?_
  subst hc
  refine GC.seq ?_
  refine GC.reg ?_  -- region 0, gin.go:38
  refine G.v (V.asg rfl) rfl ?_
  refine G.v (V.asg rfl) rfl ?_
  refine G.nil ?_
  refine GC.seq ?_
  refine GC.reg ?_  -- region 1, gin.go:39
  refine G.callW (fun v H2 => ∃ nb tb, v = Pt tb 0 ∧ H2 = [⟨tb, true, .row (treeR nb 0 0) 61 (0, 0)⟩, ⟨nb, true, .row (nodeR [] 0 0 (.slice none 0 0) [47]) 72 (0, 0)⟩]) Tryd.call34 rfl rfl (fun w1 hw1 => (f34_any w1).mono fun e w' ⟨nb, tb, h1, h2⟩ => ⟨_, _, h1, hw1.after0 h2 (fun e0 he0 => by simp only [List.mem_cons, List.not_mem_nil, or_false] at he0; rcases he0 with rfl | rfl <;> rfl), nb, tb, rfl, rfl⟩) ?_
  rintro v H2 ⟨nb, tb, rfl, rfl⟩
  refine G.al Tryd.zeroValue39 rfl rfl (fun ca hca => ?_)
  refine G.st Tryd.sizeOf39 rfl rfl rfl .z rfl rfl ?_
  refine G.nil ?_
  refine GC.seq ?_
  refine GC.seq ?_
  refine GC.turn (H' := [⟨ca, true, .row [Pt tb 0] 39 (0, 0)⟩, ⟨tb, true, .row (treeR nb 0 0) 61 (0, 0)⟩, ⟨nb, true, .row (nodeR [] 0 0 (.slice none 0 0) [47]) 72 (0, 0)⟩]) (fun w1 hw1 => hw1) ?_
  refine GC.reg ?_  -- region 2, gin.go:40
  refine G.v (V.mv rfl) rfl ?_
  refine G.v (V.lenL Tryd.underlying32 rfl) rfl ?_
  refine G.v (V.mv rfl) rfl ?_
  refine G.nil ?_
  refine GC.block ?_
  refine GC.loop ?_
  refine GC.seq ?_
  refine GC.reg ?_  -- region 3, gin.go:40
  refine G.v (V.lt rfl rfl) rfl ?_
  refine G.nil ?_
  refine GC.seq ?_
  refine GC.condD rfl (fun h11 => ?_) (fun h11 => absurd h11 (by decide))
  refine GC.skip ?_
  refine GC.seq ?_
  refine GC.block ?_
  refine GC.seq ?_
  refine GC.reg ?_  -- region 4, gin.go:40
  refine G.v (V.mv rfl) rfl ?_
  refine G.v (V.ia (i := 0) Tryd.underlying32 Tryd.sizeOf9 rfl rfl (by omega)) rfl ?_
  refine G.v (V.ldC (v := S p) Tryd.isAgg9 rfl hc id) rfl ?_
  refine G.al Tryd.zeroValue3 rfl rfl (fun cc hcc => ?_)
  refine G.al Tryd.zeroValue9 rfl rfl (fun cb hcb => ?_)
  refine G.st Tryd.sizeOf3 rfl rfl rfl (.s .z) rfl rfl ?_
  refine G.st Tryd.sizeOf9 rfl rfl rfl .z rfl rfl ?_
  refine G.nil ?_
  refine GC.seq ?_
  refine GC.turn (H' := [⟨tb, true, .row (treeR nb 0 0) 61 (0, 0)⟩, ⟨nb, true, .row (nodeR [] 0 0 (.slice none 0 0) [47]) 72 (0, 0)⟩, ⟨ca, true, .row [Pt tb 0] 39 (0, 0)⟩, ⟨cb, true, .row [S p] 9 (0, 0)⟩, ⟨cc, true, .row [I 0] 3 (0, 0)⟩]) (fun w1 hw1 => hw1.perm (List.isPerm_rot5 _ _ _ _ _)) ?_
  refine GC.reg ?_  -- region 5, gin.go:41
  refine G.v (V.mkF (vs := [Pt ca 0, Pt cb 0, Pt cc 0]) rfl) rfl ?_
  refine G.callW (fun v H2 => ∃ hb, v = .bool false ∧ H2 = [⟨tb, true, .row (treeR nb (max 0 (p.count 58 + p.count 42)) (max 0 (p.count 47))) 61 (0, 0)⟩, ⟨nb, true, .row (nodeR p 1 1 (.slice (some ⟨hb, 0, none⟩) 1 1) p) 72 (0, 0)⟩, ⟨hb, true, .row [I 1] 3 (0, 0)⟩, ⟨ca, true, .row [Pt tb 0] 39 (0, 0)⟩, ⟨cb, true, .row [S p] 9 (0, 0)⟩, ⟨cc, true, .row [I 0] 3 (0, 0)⟩]) Tryd.call24 rfl rfl (fun w1 hw1 => ?_) ?_
  · refine (f24_any 35 #[Pt ca 0, Pt cb 0, Pt cc 0] Tryd.call35 w1 w (fun _ => False) _ hw1 (fun t H2 => t = false ∧ ∃ hb, H2 = [⟨tb, true, .row (treeR nb (max 0 (p.count 58 + p.count 42)) (max 0 (p.count 47))) 61 (0, 0)⟩, ⟨nb, true, .row (nodeR p 1 1 (.slice (some ⟨hb, 0, none⟩) 1 1) p) 72 (0, 0)⟩, ⟨hb, true, .row [I 1] 3 (0, 0)⟩, ⟨ca, true, .row [Pt tb 0] 39 (0, 0)⟩, ⟨cb, true, .row [S p] 9 (0, 0)⟩, ⟨cc, true, .row [I 0] 3 (0, 0)⟩]) (fun b w2 hb0 hw2 => ?_)).mono fun e w' ⟨t, H2, h1, ⟨h2, hb, h3⟩, h4⟩ => ⟨_, _, h1, h4, hb, by rw [h2], h3⟩
    have hp2 : List.Perm ((⟨b, true, .row [.bool false] 4 (0, 0)⟩ :: [⟨tb, true, .row (treeR nb 0 0) 61 (0, 0)⟩, ⟨nb, true, .row (nodeR [] 0 0 (.slice none 0 0) [47]) 72 (0, 0)⟩, ⟨ca, true, .row [Pt tb 0] 39 (0, 0)⟩, ⟨cb, true, .row [S p] 9 (0, 0)⟩, ⟨cc, true, .row [I 0] 3 (0, 0)⟩] : SH)) ([⟨tb, true, .row (treeR nb 0 0) 61 (0, 0)⟩, ⟨nb, true, .row (nodeR [] 0 0 (.slice none 0 0) [47]) 72 (0, 0)⟩, ⟨ca, true, .row [Pt tb 0] 39 (0, 0)⟩, ⟨cb, true, .row [S p] 9 (0, 0)⟩, ⟨cc, true, .row [I 0] 3 (0, 0)⟩] ++ [⟨b, true, .row [.bool false] 4 (0, 0)⟩]) := List.perm_append_comm (l₁ := ([⟨b, true, .row [.bool false] 4 (0, 0)⟩] : SH))
    have hh := hw2.perm hp2
    have hnd := List.pairwise_append.1 hh.nd
    refine (f35_first w2 (fun b => ∃ e ∈ ([⟨tb, true, .row (treeR nb 0 0) 61 (0, 0)⟩, ⟨nb, true, .row (nodeR [] 0 0 (.slice none 0 0) [47]) 72 (0, 0)⟩, ⟨ca, true, .row [Pt tb 0] 39 (0, 0)⟩, ⟨cb, true, .row [S p] 9 (0, 0)⟩, ⟨cc, true, .row [I 0] 3 (0, 0)⟩] : SH), e.b = b) nb tb ca cb cc p h47 hp hl (hh.loc (fun e he => List.mem_append_left _ he) hnd.1)).mono fun e w' ⟨h1, hb, h2⟩ => ⟨[⟨tb, true, .row (treeR nb (max 0 (p.count 58 + p.count 42)) (max 0 (p.count 47))) 61 (0, 0)⟩, ⟨nb, true, .row (nodeR p 1 1 (.slice (some ⟨hb, 0, none⟩) 1 1) p) 72 (0, 0)⟩, ⟨hb, true, .row [I 1] 3 (0, 0)⟩, ⟨ca, true, .row [Pt tb 0] 39 (0, 0)⟩, ⟨cb, true, .row [S p] 9 (0, 0)⟩, ⟨cc, true, .row [I 0] 3 (0, 0)⟩], ?_, .inl ⟨_, h1, rfl, hb, rfl⟩⟩
    have h3 := hw2.back hp2 (fun e0 he0 => by simp only [List.mem_cons, List.not_mem_nil, or_false] at he0; rcases he0 with rfl | rfl | rfl | rfl | rfl <;> rfl) (fun e0 he0 => by simp only [List.mem_cons, List.not_mem_nil, or_false] at he0; rcases he0 with rfl | rfl | rfl | rfl | rfl | rfl <;> rfl) h2
    exact h3.perm (List.perm_append_comm (l₂ := ([⟨b, true, .row [.bool false] 4 (0, 0)⟩] : SH)))
  rintro v H2 ⟨hb, rfl, rfl⟩
  refine G.nil ?_
  refine GC.condF rfl ?_
  refine GC.skip ?_
  refine GC.inBlock ?_
  refine GC.reg ?_  -- region 7, gin.go:40
  refine G.v (V.addI (r := 1) rfl rfl rfl (by omega) (by omega)) rfl ?_
  refine G.v (V.mv rfl) rfl ?_
  refine G.nil ?_
  refine GC.inLoop ?_
  refine GC.seq ?_
  refine GC.reg ?_  -- region 3, gin.go:40
  refine G.v (V.lt rfl rfl) rfl ?_
  refine G.nil ?_
  refine GC.seq ?_
  refine GC.condD rfl (fun h11 => absurd h11 (by decide)) (fun h11 => ?_)
  refine GC.exit rfl ?_
  refine GC.seq ?_
  refine GC.reg ?_  -- region 8, gin.go:45
  refine G.v (V.ld (b := ca) (off := 0) (wf := true) (l := [Pt tb 0]) (T := 39) (fz := (0, 0)) (v := Pt tb 0) Tryd.isAgg39 rfl (by simp) rfl) rfl ?_
  refine G.v (V.asg rfl) rfl ?_
  refine G.v (V.asg rfl) rfl ?_
  refine G.nil ?_
  refine GC.ret2 rfl rfl rfl fun w' hw' => ⟨nb, tb, hb, rfl, hw'.sub ?_⟩
  exact List.sublist_append_left [_, _, _] [_, _, _]

end Go.Proofs

/- findCaseInsensitivePath at a tree of one plain route. Printed by wip/mk_gs11.py. -/
namespace Go.Proofs
open Go Bw
set_option maxRecDepth 20000

theorem zero75 (w : World) : (Instr.build 75 #[]).run Tryd.prog w = .ok (.agg #[.int .u8 0, .int .u8 0, .int .u8 0, .int .u8 0]) w := by
  simp [Instr.build, Tryd.zeroValue75, Instr.fill, Value.cells]
theorem f45_hit (w : World) (D : Nat → Prop) (nb hb bb : Nat) (p q zs : List UInt8) (hz : zs.length = 128) (hp0 : 0 < p.length) (hpl : p.length ≤ 128) (hq : q.length = p.length) (hfold : Lib.equalFold (q.drop 1) (p.drop 1) = true) (hqa : ∀ x ∈ q, x.toNat < 128) (hpa : ∀ x ∈ p, x.toNat < 128) (hH : HF w D [⟨nb, true, .row (nodeR p 1 1 (.slice (some ⟨hb, 0, none⟩) 1 1) p) 72 (0, 0)⟩, ⟨bb, true, .row (bC zs) 5 (0, 0)⟩] w) : Calls Tryd.prog 45 #[Pt nb 0, S q, .slice (some ⟨bb, 0, none⟩) 0 128, .agg #[.int .u8 0, .int .u8 0, .int .u8 0, .int .u8 0], .bool false] w fun e w' => e = .returned (.slice (some ⟨bb, 0, none⟩) p.length 128) ∧ HF w D [⟨nb, true, .row (nodeR p 1 1 (.slice (some ⟨hb, 0, none⟩) 1 1) p) 72 (0, 0)⟩, ⟨bb, true, .row (bC (p ++ zs.drop p.length)) 5 (0, 0)⟩] w' := by
  refine enter D ([⟨nb, true, .row (nodeR p 1 1 (.slice (some ⟨hb, 0, none⟩) 1 1) p) 72 (0, 0)⟩, ⟨bb, true, .row (bC zs) 5 (0, 0)⟩]) Tryd.func45 rfl Tryd.ntmps45 rfl rfl hH fun c hc => ?_
  subst hc
  refine GC.seq ?_
  refine GC.reg ?_  -- region 0, tree.go:700
  refine G.bx (l := [(.int .u8 0 : Value), .int .u8 0, .int .u8 0, .int .u8 0]) rfl (by simp [cells_agg]) rfl (fun xb hxb => ?_)
  refine G.v (V.asg rfl) rfl ?_
  refine G.nil ?_
  refine GC.scope ?_
  refine GC.seq ?_
  refine GC.reg ?_  -- region 1, tree.go:701
  refine G.v (V.mv rfl) rfl ?_
  refine G.v (V.nc rfl) rfl ?_
  refine G.v (V.fa F72_0 rfl) rfl ?_
  refine G.v (V.ld (b := nb) (off := 0 + 0) (wf := true) (l := nodeR p 1 1 (.slice (some ⟨hb, 0, none⟩) 1 1) p) (T := 72) (fz := (0, 0)) (v := S p) Tryd.isAgg9 rfl (by simp) rfl) rfl ?_
  refine G.v (V.lenS Tryd.underlying9 rfl) rfl ?_
  refine G.v (V.asg rfl) rfl ?_
  refine G.nil ?_
  refine GC.seq ?_
  refine GC.label ?_
  refine GC.seq ?_
  refine GC.block ?_
  refine GC.loop ?_
  refine GC.seq ?_
  refine GC.seq ?_
  refine GC.regQ mixed (by kernel_rfl) ?_  -- region 2, tree.go:704
  refine GQ.v (V.mv rfl) rfl ?_
  refine GQ.v (V.lenS Tryd.underlying9 rfl) rfl ?_
  refine GQ.v (V.mv rfl) rfl ?_
  refine GQ.v (V.ge rfl rfl) rfl ?_
  refine GQ.v (V.mv rfl) rfl ?_
  refine GQ.bc 59 rfl (fun h59 => ?_) (fun h59 => ?_)
  · refine GQ.vg rfl rfl (V.mv rfl) rfl ?_
    refine GQ.vg rfl rfl (V.eqI rfl rfl) rfl ?_
    refine GQ.vg rfl rfl (V.mv rfl) rfl ?_
    refine GQ.bc 62 rfl (fun h62 => ?_) (fun h62 => ?_)
    · exact absurd (of_decide_eq_true h62) (by omega)
    · refine GQ.vg rfl rfl (V.mv rfl) rfl ?_
      refine GQ.vg rfl rfl (V.mv rfl) rfl ?_
      refine GQ.vg rfl rfl (V.slLHe (i := 1) (j := p.length) (l' := q.drop 1) Tryd.underlying9 rfl rfl rfl (by omega) (by omega) (by rw [← hq, List.take_length])) rfl ?_
      refine GQ.vg rfl rfl (V.mv rfl) rfl ?_
      refine GQ.vg rfl rfl (V.nc rfl) rfl ?_
      refine GQ.vg rfl rfl (V.fa F72_0 rfl) rfl ?_
      refine GQ.vg rfl rfl (V.ld (b := nb) (off := 0 + 0) (wf := true) (l := nodeR p 1 1 (.slice (some ⟨hb, 0, none⟩) 1 1) p) (T := 72) (fz := (0, 0)) (v := S p) Tryd.isAgg9 rfl (by simp) rfl) rfl ?_
      refine GQ.vg rfl rfl (V.slL (i := 1) Tryd.underlying9 rfl rfl (by omega)) rfl ?_
      refine GQ.gd rfl rfl ?_
      refine GQ.callP (v := .bool true) Tryd.call53 rfl rfl (fun w1 hw1 => ?_) ?_
      · refine (Tryd.strings_EqualFold ⟨(q.drop 1).toArray⟩ ⟨(p.drop 1).toArray⟩ w1 (by show (q.drop 1).toArray.size < _; simp; omega) (fun j b hb => hqa b (List.mem_of_mem_drop (List.mem_of_getElem? (by simpa using hb)))) (fun j b hb => hpa b (List.mem_of_mem_drop (List.mem_of_getElem? (by simpa using hb))))).mono fun e w' ⟨h1, h2⟩ => ⟨?_, by rw [h2]; exact HF.start _ _⟩
        rw [h1]; simp only [hfold]
      refine GQ.vg rfl rfl (V.pickF rfl rfl) rfl ?_
      refine GQ.v (V.pickT rfl rfl) rfl ?_
      refine GQ.nil ?_
      refine GC.cond rfl (fun h73 => ?_) (fun h73 => (by cases h73))
      refine GC.skip ?_
      refine GC.block ?_
      refine GC.seq ?_
      refine GC.reg ?_  -- region 3, tree.go:706
      refine G.v (V.mv rfl) rfl ?_
      refine G.v (V.asg rfl) rfl ?_
      refine G.nil ?_
      refine GC.seq ?_
      refine GC.reg ?_  -- region 4, tree.go:707
      refine G.v (V.mv rfl) rfl ?_
      refine G.v (V.mv rfl) rfl ?_
      refine G.v (V.slL (i := p.length) Tryd.underlying9 rfl rfl (by omega)) rfl ?_
      rw [List.drop_eq_nil_of_le (show q.length ≤ p.length by omega)]
      refine G.v (V.asg rfl) rfl ?_
      refine G.nil ?_
      refine GC.seq ?_
      refine GC.reg ?_  -- region 5, tree.go:708
      refine G.v (V.mv rfl) rfl ?_
      refine G.v (V.mv rfl) rfl ?_
      refine G.v (V.nc rfl) rfl ?_
      refine G.v (V.fa F72_0 rfl) rfl ?_
      refine G.v (V.ld (b := nb) (off := 0 + 0) (wf := true) (l := nodeR p 1 1 (.slice (some ⟨hb, 0, none⟩) 1 1) p) (T := 72) (fz := (0, 0)) (v := S p) Tryd.isAgg9 rfl (by simp) rfl) rfl ?_
      refine G.appS (i := 2) (l := zs) (m := 0) Tryd.underlying47 Tryd.underlying9 rfl rfl rfl rfl (.s (.s .z)) (by omega) (by omega) rfl ?_
      rw [Nat.zero_add]
      refine G.v (V.asg rfl) rfl ?_
      refine G.nil ?_
      refine GC.seq ?_
      refine GC.seq ?_
      refine GC.reg ?_  -- region 6, tree.go:710
      refine G.v (V.mv rfl) rfl ?_
      refine G.v (V.lenS Tryd.underlying9 rfl) rfl ?_
      refine G.v (V.eqI rfl rfl) rfl ?_
      refine G.nil ?_
      refine GC.condD rfl (fun h86 => ?_) (fun h86 => absurd rfl h86)
      refine GC.seq ?_
      refine GC.seq ?_
      refine GC.reg ?_  -- region 7, tree.go:713
      refine G.v (V.mv rfl) rfl ?_
      refine G.v (V.nc rfl) rfl ?_
      refine G.v (V.fa F72_6 rfl) rfl ?_
      refine G.v (V.ld (b := nb) (off := 0 + 6) (wf := true) (l := nodeR p 1 1 (.slice (some ⟨hb, 0, none⟩) 1 1) p) (T := 72) (fz := (0, 0)) (v := .slice (some ⟨hb, 0, none⟩) 1 1) Tryd.isAgg70 rfl (by simp [putE]) rfl) rfl ?_
      refine G.v (V.neL Tryd.underlying70 rfl) rfl ?_
      refine G.nil ?_
      refine GC.condT rfl ?_
      refine GC.seq ?_
      refine GC.reg ?_  -- region 8, tree.go:714
      refine G.v (V.mv rfl) rfl ?_
      refine G.v (V.asg rfl) rfl ?_
      refine G.nil ?_
      refine GC.ret1 rfl rfl fun w' hw' => ⟨rfl, ?_⟩
      have h2 := hw'.sub (List.sublist_cons_self _ _)
      simpa [putE] using h2
  · exact absurd (of_decide_eq_false h59) (by omega)

theorem f45_miss (w : World) (D : Nat → Prop) (nb hb bb : Nat) (p q zs : List UInt8) (hq : q.length < p.length) (hH : HF w D [⟨nb, true, .row (nodeR p 1 1 (.slice (some ⟨hb, 0, none⟩) 1 1) p) 72 (0, 0)⟩, ⟨bb, true, .row (bC zs) 5 (0, 0)⟩] w) : Calls Tryd.prog 45 #[Pt nb 0, S q, .slice (some ⟨bb, 0, none⟩) 0 128, .agg #[.int .u8 0, .int .u8 0, .int .u8 0, .int .u8 0], .bool false] w fun e w' => e = .returned (.slice none 0 0) ∧ HF w D [⟨nb, true, .row (nodeR p 1 1 (.slice (some ⟨hb, 0, none⟩) 1 1) p) 72 (0, 0)⟩, ⟨bb, true, .row (bC zs) 5 (0, 0)⟩] w' := by
  refine enter D ([⟨nb, true, .row (nodeR p 1 1 (.slice (some ⟨hb, 0, none⟩) 1 1) p) 72 (0, 0)⟩, ⟨bb, true, .row (bC zs) 5 (0, 0)⟩]) Tryd.func45 rfl Tryd.ntmps45 rfl rfl hH fun c hc => ?_
  subst hc
  refine GC.seq ?_
  refine GC.reg ?_  -- region 0, tree.go:700
  refine G.bx (l := [(.int .u8 0 : Value), .int .u8 0, .int .u8 0, .int .u8 0]) rfl (by simp [cells_agg]) rfl (fun xb hxb => ?_)
  refine G.v (V.asg rfl) rfl ?_
  refine G.nil ?_
  refine GC.scope ?_
  refine GC.seq ?_
  refine GC.reg ?_  -- region 1, tree.go:701
  refine G.v (V.mv rfl) rfl ?_
  refine G.v (V.nc rfl) rfl ?_
  refine G.v (V.fa F72_0 rfl) rfl ?_
  refine G.v (V.ld (b := nb) (off := 0 + 0) (wf := true) (l := nodeR p 1 1 (.slice (some ⟨hb, 0, none⟩) 1 1) p) (T := 72) (fz := (0, 0)) (v := S p) Tryd.isAgg9 rfl (by simp) rfl) rfl ?_
  refine G.v (V.lenS Tryd.underlying9 rfl) rfl ?_
  refine G.v (V.asg rfl) rfl ?_
  refine G.nil ?_
  refine GC.seq ?_
  refine GC.label ?_
  refine GC.seq ?_
  refine GC.block ?_
  refine GC.loop ?_
  refine GC.seq ?_
  refine GC.seq ?_
  refine GC.regQ mixed (by kernel_rfl) ?_  -- region 2, tree.go:704
  refine GQ.v (V.mv rfl) rfl ?_
  refine GQ.v (V.lenS Tryd.underlying9 rfl) rfl ?_
  refine GQ.v (V.mv rfl) rfl ?_
  refine GQ.v (V.ge rfl rfl) rfl ?_
  refine GQ.v (V.mv rfl) rfl ?_
  refine GQ.bc 59 rfl (fun h59 => ?_) (fun h59 => ?_)
  · exact absurd (of_decide_eq_true h59) (by omega)
  · refine GQ.sg rfl rfl rfl rfl rfl rfl ?_
    refine GQ.sg rfl rfl rfl rfl rfl rfl ?_
    refine GQ.sg rfl rfl rfl rfl rfl rfl ?_
    refine GQ.sgU rfl rfl rfl rfl rfl ?_
    refine GQ.sgU rfl rfl rfl rfl rfl ?_
    refine GQ.sgU rfl rfl rfl rfl rfl ?_
    refine GQ.sgU rfl rfl rfl rfl rfl ?_
    refine GQ.sgU rfl rfl rfl rfl rfl ?_
    refine GQ.sgU rfl rfl rfl rfl rfl ?_
    refine GQ.sgU rfl rfl rfl rfl rfl ?_
    refine GQ.sgU rfl rfl rfl rfl rfl ?_
    refine GQ.sgU rfl rfl rfl rfl rfl ?_
    refine GQ.sg rfl rfl rfl rfl rfl rfl ?_
    refine GQ.v (V.pickF rfl rfl) rfl ?_
    refine GQ.nil ?_
    refine GC.condF rfl ?_
    refine GC.exit rfl ?_
    refine GC.seq ?_
    refine GC.seq ?_
    refine GC.reg ?_  -- region 136, tree.go:937
    refine G.v (V.mv rfl) rfl ?_
    refine G.nil ?_
    refine GC.condF rfl ?_
    refine GC.skip ?_
    refine GC.seq ?_
    refine GC.reg ?_  -- region 141, tree.go:946
    refine G.v (V.asg rfl) rfl ?_
    refine G.nil ?_
    exact GC.ret1 rfl rfl fun w' hw' => ⟨rfl, hw'.sub (List.sublist_cons_self _ _)⟩

end Go.Proofs

/- impl.GinCase at a tree of one plain route. Printed by wip/mk_gs12.py. -/
namespace Go.Proofs
open Go Bw
set_option maxRecDepth 20000

theorem _root_.Bw.V.cvBN {P : Program} {c : Cx} {n : Nat} {fr : SF} {H : SH} {ty src dst e : TypeId} {x : Operand} {l cp : Nat} (hs : P.underlying src = some (.slice e)) (he : P.underlying e = some (.int .u8)) (hd : P.underlying dst = some .string) (hx : ev fr x = some (.slice none l cp)) : Val P c n (.convert src dst x) ty fr H (S []) := by
  intro a w ha hw ds pos aft g
  have h := run_convert_bytes_nil (P := P) w src e hs he l cp dst hd
  simp [execOp, ha.eval hx, h]; rfl
/-- what is told of a path -/
def Told (p q told : List UInt8) (found : Bool) : Prop := (q.length = p.length ∧ Lib.equalFold (q.drop 1) (p.drop 1) = true ∧ (∀ x ∈ q, x.toNat < 128) ∧ told = p ∧ found = true) ∨ (q.length < p.length ∧ told = [] ∧ found = false)
theorem f38_any (w : World) (D : Nat → Prop) (nb hb : Nat) (p q told : List UInt8) (found : Bool) (hp0 : 0 < p.length) (hpl : p.length ≤ 100) (hpa : ∀ x ∈ p, x.toNat < 128) (ht : Told p q told found) (hH : HF w D [⟨nb, true, .row (nodeR p 1 1 (.slice (some ⟨hb, 0, none⟩) 1 1) p) 72 (0, 0)⟩] w) : Calls Tryd.prog 38 #[Pt nb 0, S q, .bool false] w fun e w' => ∃ sv, e = .returned (.tuple #[sv, .bool found]) ∧ ((∃ bb cap z, sv = .slice (some ⟨bb, 0, none⟩) told.length cap ∧ HF w D [⟨nb, true, .row (nodeR p 1 1 (.slice (some ⟨hb, 0, none⟩) 1 1) p) 72 (0, 0)⟩, ⟨bb, true, .row (bC (told ++ z)) 5 (0, 0)⟩] w') ∨ (told = [] ∧ sv = .slice none 0 0 ∧ HF w D [⟨nb, true, .row (nodeR p 1 1 (.slice (some ⟨hb, 0, none⟩) 1 1) p) 72 (0, 0)⟩] w')) := by
  refine enter D ([⟨nb, true, .row (nodeR p 1 1 (.slice (some ⟨hb, 0, none⟩) 1 1) p) 72 (0, 0)⟩]) Tryd.func38 rfl Tryd.ntmps38 rfl rfl hH fun c hc => ?_
  subst hc
  have hql : q.length ≤ 100 := by rcases ht with h | h <;> omega
  refine GC.seq ?_
  refine GC.reg ?_  -- region 0, tree.go:668
  refine G.v (V.asg rfl) rfl ?_
  refine G.v (V.asg rfl) rfl ?_
  refine G.nil ?_
  refine GC.seq ?_
  refine GC.reg ?_  -- region 1, tree.go:671
  refine G.v (V.mv rfl) rfl ?_
  refine G.v (V.lenS Tryd.underlying9 rfl) rfl ?_
  refine G.v (V.addI (r := ((q.length + 1 : Nat) : Int)) rfl rfl rfl (by omega) (by omega)) rfl ?_
  refine G.v (V.maxI (i := 128) (j := q.length + 1) rfl rfl) rfl ?_
  rw [Nat.max_eq_left (show q.length + 1 ≤ 128 by omega)]
  refine G.new (kb := .row (bC (List.replicate 128 0)) 5 (0, 0)) (v := fun b => .slice (some ⟨b, 0, none⟩) 0 128) (fun a w1 ha hw1 => mkB (i5 := Tryd.t5) (l := 0) (z := 128) Tryd.underlying47 rfl rfl rfl rfl ha rfl rfl (by omega) (by omega)) rfl (fun bb hbb => ?_)
  refine G.v (V.asg rfl) rfl ?_
  refine G.nil ?_
  refine GC.seq ?_
  refine GC.reg ?_  -- region 2, tree.go:673
  refine G.v (V.mv rfl) rfl ?_
  refine G.v (V.mv rfl) rfl ?_
  refine G.v (V.mv rfl) rfl ?_
  refine G.v (V.bd (vs := []) rfl (fun w1 => zero75 w1)) rfl ?_
  refine G.v (V.mv rfl) rfl ?_
  refine G.callL (H1 := [⟨nb, true, .row (nodeR p 1 1 (.slice (some ⟨hb, 0, none⟩) 1 1) p) 72 (0, 0)⟩, ⟨bb, true, .row (bC (List.replicate 128 0)) 5 (0, 0)⟩]) (Hk := []) (fun v H1' => (v = .slice (some ⟨bb, 0, none⟩) told.length 128 ∧ found = true ∧ H1' = [⟨nb, true, .row (nodeR p 1 1 (.slice (some ⟨hb, 0, none⟩) 1 1) p) 72 (0, 0)⟩, ⟨bb, true, .row (bC (told ++ (List.replicate 128 0).drop told.length)) 5 (0, 0)⟩]) ∨ (v = .slice none 0 0 ∧ told = [] ∧ found = false ∧ H1' = [⟨nb, true, .row (nodeR p 1 1 (.slice (some ⟨hb, 0, none⟩) 1 1) p) 72 (0, 0)⟩, ⟨bb, true, .row (bC (List.replicate 128 0)) 5 (0, 0)⟩])) (List.Perm.swap _ _ _) (fun e0 he0 => by simp only [List.mem_cons, List.not_mem_nil, or_false] at he0; rcases he0 with rfl | rfl <;> rfl) Tryd.call45 rfl rfl (fun w1 hw1 _ => ?_) ?_
  · rcases ht with ⟨t1, t2, t3, rfl, rfl⟩ | ⟨t1, rfl, rfl⟩
    · exact (f45_hit w1 _ nb hb bb told q (List.replicate 128 0) List.length_replicate hp0 (by omega) t1 t2 t3 hpa hw1).mono fun e w' ⟨h1, h2⟩ => ⟨_, _, h1, (fun e0 he0 => by simp only [List.mem_cons, List.not_mem_nil, or_false] at he0; rcases he0 with rfl | rfl <;> rfl), h2, .inl ⟨rfl, rfl, rfl⟩⟩
    · exact (f45_miss w1 _ nb hb bb p q (List.replicate 128 0) t1 hw1).mono fun e w' ⟨h1, h2⟩ => ⟨_, _, h1, (fun e0 he0 => by simp only [List.mem_cons, List.not_mem_nil, or_false] at he0; rcases he0 with rfl | rfl <;> rfl), h2, .inr ⟨rfl, rfl, rfl, rfl⟩⟩
  rintro v H1' hv
  rw [List.append_nil]
  refine G.v (V.asg rfl) rfl ?_
  refine G.nil ?_
  refine GC.seq ?_
  rcases hv with ⟨rfl, rfl, rfl⟩ | ⟨rfl, rfl, rfl, rfl⟩
  · refine GC.reg ?_  -- region 3, tree.go:680
    refine G.v (V.mv rfl) rfl ?_
    refine G.v (V.mv rfl) rfl ?_
    refine G.v (V.neL Tryd.underlying47 rfl) rfl ?_
    refine G.v (V.asg rfl) rfl ?_
    refine G.v (V.asg rfl) rfl ?_
    refine G.nil ?_
    exact GC.ret2 rfl rfl rfl fun w' hw' => ⟨_, rfl, .inl ⟨bb, 128, _, rfl, hw'⟩⟩
  · refine GC.reg ?_  -- region 3, tree.go:680
    refine G.v (V.mv rfl) rfl ?_
    refine G.v (V.mv rfl) rfl ?_
    refine G.v (V.neL Tryd.underlying47 rfl) rfl ?_
    refine G.v (V.asg rfl) rfl ?_
    refine G.v (V.asg rfl) rfl ?_
    refine G.nil ?_
    exact GC.ret2 rfl rfl rfl fun w' hw' => ⟨_, rfl, .inr ⟨rfl, rfl, hw'.sub (List.sublist_append_left [_] [_])⟩⟩

theorem f26_any (w : World) (D : Nat → Prop) (nb tb hb m1 m2 : Nat) (p q told : List UInt8) (found : Bool) (hp0 : 0 < p.length) (hpl : p.length ≤ 100) (hpa : ∀ x ∈ p, x.toNat < 128) (ht : Told p q told found) (hH : HF w D [⟨tb, true, .row (treeR nb m1 m2) 61 (0, 0)⟩, ⟨nb, true, .row (nodeR p 1 1 (.slice (some ⟨hb, 0, none⟩) 1 1) p) 72 (0, 0)⟩] w) : Calls Tryd.prog 26 #[Pt tb 0, S q, .bool false] w fun e w' => e = .returned (.tuple #[S told, .bool found]) ∧ HF w D [⟨tb, true, .row (treeR nb m1 m2) 61 (0, 0)⟩, ⟨nb, true, .row (nodeR p 1 1 (.slice (some ⟨hb, 0, none⟩) 1 1) p) 72 (0, 0)⟩] w' := by
  refine enter D ([⟨tb, true, .row (treeR nb m1 m2) 61 (0, 0)⟩, ⟨nb, true, .row (nodeR p 1 1 (.slice (some ⟨hb, 0, none⟩) 1 1) p) 72 (0, 0)⟩]) Tryd.func26 rfl Tryd.ntmps26 rfl rfl hH fun c hc => ?_
  subst hc
  refine GC.seq ?_
  refine GC.reg ?_  -- region 0, zz_tree.go:100
  refine G.v (V.asg rfl) rfl ?_
  refine G.v (V.asg rfl) rfl ?_
  refine G.nil ?_
  refine GC.seq ?_
  refine GC.reg ?_  -- region 1, zz_tree.go:101
  refine G.v (V.mv rfl) rfl ?_
  refine G.v (V.nc rfl) rfl ?_
  refine G.v (V.fa F61_0 rfl) rfl ?_
  refine G.v (V.ld (b := tb) (off := 0 + 0) (wf := true) (l := treeR nb m1 m2) (T := 61) (fz := (0, 0)) (v := Pt nb 0) Tryd.isAgg59 rfl (.head _) rfl) rfl ?_
  refine G.v (V.mv rfl) rfl ?_
  refine G.v (V.mv rfl) rfl ?_
  refine G.callL (H1 := [⟨nb, true, .row (nodeR p 1 1 (.slice (some ⟨hb, 0, none⟩) 1 1) p) 72 (0, 0)⟩]) (Hk := [⟨tb, true, .row (treeR nb m1 m2) 61 (0, 0)⟩]) (fun v H1' => ∃ sv, v = .tuple #[sv, .bool found] ∧ ((∃ bb cap z, sv = .slice (some ⟨bb, 0, none⟩) told.length cap ∧ H1' = [⟨nb, true, .row (nodeR p 1 1 (.slice (some ⟨hb, 0, none⟩) 1 1) p) 72 (0, 0)⟩, ⟨bb, true, .row (bC (told ++ z)) 5 (0, 0)⟩]) ∨ (told = [] ∧ sv = .slice none 0 0 ∧ H1' = [⟨nb, true, .row (nodeR p 1 1 (.slice (some ⟨hb, 0, none⟩) 1 1) p) 72 (0, 0)⟩]))) (List.Perm.swap _ _ _) (fun e0 he0 => by rw [List.mem_singleton.1 he0]) Tryd.call38 rfl rfl (fun w1 hw1 _ => ?_) ?_
  · refine (f38_any w1 _ nb hb p q told found hp0 hpl hpa ht hw1).mono fun e w' ⟨sv, h1, h2⟩ => ?_
    rcases h2 with ⟨bb, cap, z, h3, h4⟩ | ⟨h3, h5, h4⟩
    · exact ⟨_, _, h1, (fun e0 he0 => by simp only [List.mem_cons, List.not_mem_nil, or_false] at he0; rcases he0 with rfl | rfl <;> rfl), h4, sv, rfl, .inl ⟨bb, cap, z, h3, rfl⟩⟩
    · exact ⟨_, _, h1, (fun e0 he0 => by rw [List.mem_singleton.1 he0]), h4, sv, rfl, .inr ⟨h3, h5, rfl⟩⟩
  rintro v H1' ⟨sv, rfl, hv⟩
  refine G.v (V.mv rfl) rfl ?_
  refine G.v (V.ex rfl rfl) rfl ?_
  refine G.v (V.ex rfl rfl) rfl ?_
  refine G.v (V.asg rfl) rfl ?_
  refine G.v (V.asg rfl) rfl ?_
  refine G.nil ?_
  refine GC.seq ?_
  rcases hv with ⟨bb, cap, z, rfl, rfl⟩ | ⟨rfl, rfl, rfl⟩
  · refine GC.reg ?_  -- region 2, zz_tree.go:102
    refine G.v (V.mv rfl) rfl ?_
    refine G.v (V.cvBS (l := told ++ z) (T := 5) (wf := true) Tryd.underlying47 Tryd.underlying5 Tryd.underlying9 rfl (by simp) (by simp)) rfl ?_
    rw [List.take_left]
    refine G.v (V.mv rfl) rfl ?_
    refine G.v (V.asg rfl) rfl ?_
    refine G.v (V.asg rfl) rfl ?_
    refine G.nil ?_
    refine GC.ret2 rfl rfl rfl fun w' hw' => ⟨rfl, ?_⟩
    exact (hw'.perm (rot3 _ _ _)).sub (List.sublist_append_left [_, _] [_])
  · refine GC.reg ?_  -- region 2, zz_tree.go:102
    refine G.v (V.mv rfl) rfl ?_
    refine G.v (V.cvBN Tryd.underlying47 Tryd.underlying5 Tryd.underlying9 rfl) rfl ?_
    refine G.v (V.mv rfl) rfl ?_
    refine G.v (V.asg rfl) rfl ?_
    refine G.v (V.asg rfl) rfl ?_
    refine G.nil ?_
    exact GC.ret2 rfl rfl rfl fun w' hw' => ⟨rfl, hw'.perm (List.Perm.swap _ _ _)⟩

theorem f25_any (w : World) (D : Nat → Prop) (nb tb hb m1 m2 ca cq cf cs ci : Nat) (p q told : List UInt8) (found : Bool) (hp0 : 0 < p.length) (hpl : p.length ≤ 100) (hpa : ∀ x ∈ p, x.toNat < 128) (ht : Told p q told found) (hH : HF w D [⟨tb, true, .row (treeR nb m1 m2) 61 (0, 0)⟩, ⟨nb, true, .row (nodeR p 1 1 (.slice (some ⟨hb, 0, none⟩) 1 1) p) 72 (0, 0)⟩, ⟨ca, true, .row [Pt tb 0] 39 (0, 0)⟩, ⟨cq, true, .row [S q] 9 (0, 0)⟩, ⟨cf, true, .row [.bool false] 4 (0, 0)⟩, ⟨cs, true, .row [S []] 9 (0, 0)⟩, ⟨ci, true, .row [.bool false] 4 (0, 0)⟩] w) : Calls Tryd.prog 25 #[Pt ca 0, Pt cq 0, Pt cf 0, Pt cs 0, Pt ci 0] w fun e w' => e = .returned (.tuple #[]) ∧ HF w D [⟨tb, true, .row (treeR nb m1 m2) 61 (0, 0)⟩, ⟨nb, true, .row (nodeR p 1 1 (.slice (some ⟨hb, 0, none⟩) 1 1) p) 72 (0, 0)⟩, ⟨ca, true, .row [Pt tb 0] 39 (0, 0)⟩, ⟨cq, true, .row [S q] 9 (0, 0)⟩, ⟨cf, true, .row [.bool false] 4 (0, 0)⟩, ⟨cs, true, .row [S told] 9 (0, 0)⟩, ⟨ci, true, .row [.bool found] 4 (0, 0)⟩] w' := by
  refine enter D ([⟨tb, true, .row (treeR nb m1 m2) 61 (0, 0)⟩, ⟨nb, true, .row (nodeR p 1 1 (.slice (some ⟨hb, 0, none⟩) 1 1) p) 72 (0, 0)⟩, ⟨ca, true, .row [Pt tb 0] 39 (0, 0)⟩, ⟨cq, true, .row [S q] 9 (0, 0)⟩, ⟨cf, true, .row [.bool false] 4 (0, 0)⟩, ⟨cs, true, .row [S []] 9 (0, 0)⟩, ⟨ci, true, .row [.bool false] 4 (0, 0)⟩]) Tryd.func25 rfl Tryd.ntmps25 rfl rfl hH fun c hc => ?_
  subst hc
  refine GC.reg ?_  -- region 0, ginmore.go:16
  refine G.v (V.ld (b := ca) (off := 0) (wf := true) (l := [Pt tb 0]) (T := 39) (fz := (0, 0)) (v := Pt tb 0) Tryd.isAgg39 rfl (by simp) rfl) rfl ?_
  refine G.v (V.ld (b := cq) (off := 0) (wf := true) (l := [S q]) (T := 9) (fz := (0, 0)) (v := S q) Tryd.isAgg9 rfl (by simp) rfl) rfl ?_
  refine G.v (V.ld (b := cf) (off := 0) (wf := true) (l := [.bool false]) (T := 4) (fz := (0, 0)) (v := .bool false) Tryd.isAgg4 rfl (by simp) rfl) rfl ?_
  refine G.callL (H1 := [⟨tb, true, .row (treeR nb m1 m2) 61 (0, 0)⟩, ⟨nb, true, .row (nodeR p 1 1 (.slice (some ⟨hb, 0, none⟩) 1 1) p) 72 (0, 0)⟩]) (Hk := [⟨ca, true, .row [Pt tb 0] 39 (0, 0)⟩, ⟨cq, true, .row [S q] 9 (0, 0)⟩, ⟨cf, true, .row [.bool false] 4 (0, 0)⟩, ⟨cs, true, .row [S []] 9 (0, 0)⟩, ⟨ci, true, .row [.bool false] 4 (0, 0)⟩]) (fun v H1' => v = .tuple #[S told, .bool found] ∧ H1' = [⟨tb, true, .row (treeR nb m1 m2) 61 (0, 0)⟩, ⟨nb, true, .row (nodeR p 1 1 (.slice (some ⟨hb, 0, none⟩) 1 1) p) 72 (0, 0)⟩]) (.of_eq rfl) (fun e0 he0 => by simp only [List.mem_cons, List.not_mem_nil, or_false] at he0; rcases he0 with rfl | rfl <;> rfl) Tryd.call26 rfl rfl (fun w1 hw1 _ => (f26_any w1 _ nb tb hb m1 m2 p q told found hp0 hpl hpa ht hw1).mono fun e w' ⟨h1, h2⟩ => ⟨_, _, h1, (fun e0 he0 => by simp only [List.mem_cons, List.not_mem_nil, or_false] at he0; rcases he0 with rfl | rfl <;> rfl), h2, rfl, rfl⟩) ?_
  rintro v H1' ⟨rfl, rfl⟩
  refine G.v (V.mv rfl) rfl ?_
  refine G.v (V.ex rfl rfl) rfl ?_
  refine G.v (V.ex rfl rfl) rfl ?_
  refine G.st (b := cs) (off := 0) (l := [S []]) (T := 9) (fz := (0, 0)) Tryd.sizeOf9 rfl rfl rfl (.s (.s (.s (.s (.s .z))))) rfl rfl ?_
  refine G.st (b := ci) (off := 0) (l := [.bool false]) (T := 4) (fz := (0, 0)) Tryd.sizeOf4 rfl rfl rfl (.s (.s (.s (.s (.s (.s .z)))))) rfl rfl ?_
  refine G.nil ?_
  exact GC.end0 rfl fun w' hw' => ⟨rfl, hw'⟩

end Go.Proofs

/- impl.GinCase at one plain route. Printed by wip/mk_gs13.py. -/
namespace Go.Proofs
open Go Bw
set_option maxRecDepth 20000

structure TF where
  q : List UInt8
  t : List UInt8
  f : Bool
theorem f15_any (w : World) (lb lo cp1 qb qo cp2 : Nat) (p : List UInt8) (tl : List TF) (h47 : p[0]? = some 47) (hp : Plain p) (hpl : p.length ≤ 100) (hpa : ∀ x ∈ p, x.toNat < 128) (htl : ∀ x ∈ tl, Told p x.q x.t x.f) (hl : tl.length ≤ 100) (hc : w.cell? ⟨lb, lo, none⟩ = some (S p)) (hq : ∀ i x, tl[i]? = some x → w.cell? ⟨qb, qo + i, none⟩ = some (S x.q)) : Calls Tryd.prog 15 #[.slice (some ⟨lb, lo, none⟩) 1 cp1, .slice (some ⟨qb, qo, none⟩) tl.length cp2, .bool false] w fun e w' => ∃ svT svF HT HB, e = .returned (.tuple #[svT, svF, .bool true]) ∧ Own 9 1 svT tl.length (tl.map fun x => S x.t) HT ∧ Own 4 1 svF tl.length (tl.map fun x => Value.bool x.f) HB ∧ HF w (fun _ => False) (HT ++ HB) w' := by
  refine enter (fun _ => False) [] Tryd.func15 rfl Tryd.ntmps15 rfl rfl (HF.start w _) fun c hc => ?_
  subst hc
  have hp0 : 0 < p.length := (List.getElem?_eq_some_iff.1 h47).1
  refine GC.seq ?_
  refine GC.reg ?_  -- region 0, ginmore.go:8
  refine G.bx (l := [.bool false]) rfl rfl rfl (fun cf hcf => ?_)
  refine G.v (V.asg rfl) rfl ?_
  refine G.v (V.asg rfl) rfl ?_
  refine G.v (V.asg rfl) rfl ?_
  refine G.nil ?_
  refine GC.seq ?_
  refine GC.reg ?_  -- region 1, ginmore.go:9
  refine G.v (V.mv rfl) rfl ?_
  refine G.callW (fun v H2 => ∃ nb tb hb, v = .tuple #[Pt tb 0, I (-1)] ∧ H2 = [⟨tb, true, .row (treeR nb (max 0 (p.count 58 + p.count 42)) (max 0 (p.count 47))) 61 (0, 0)⟩, ⟨nb, true, .row (nodeR p 1 1 (.slice (some ⟨hb, 0, none⟩) 1 1) p) 72 (0, 0)⟩, ⟨hb, true, .row [I 1] 3 (0, 0)⟩, ⟨cf, true, .row [.bool false] 4 (0, 0)⟩]) Tryd.call23 rfl rfl (fun w1 hw1 => (f23_first w1 lb lo cp1 p h47 hp (by omega) (hw1.cellOld hc id)).mono fun e w' ⟨nb, tb, hb, h1, h2⟩ => ⟨_, _, h1, hw1.after0 h2 (fun e0 he0 => by simp only [List.mem_cons, List.not_mem_nil, or_false] at he0; rcases he0 with rfl | rfl | rfl <;> rfl), nb, tb, hb, rfl, rfl⟩) ?_
  rintro v H2 ⟨nb, tb, hb, rfl, rfl⟩
  refine G.v (V.mv rfl) rfl ?_
  refine G.v (V.ex rfl rfl) rfl ?_
  refine G.v (V.ex rfl rfl) rfl ?_
  refine G.al Tryd.zeroValue39 rfl rfl (fun ca hca => ?_)
  refine G.st Tryd.sizeOf39 rfl rfl rfl .z rfl rfl ?_
  refine G.v (V.asg rfl) rfl ?_
  refine G.nil ?_
  refine GC.seq ?_
  refine GC.seq ?_
  refine GC.reg ?_  -- region 2, ginmore.go:10
  refine G.v (V.mv rfl) rfl ?_
  refine G.v (V.ge rfl rfl) rfl ?_
  refine G.nil ?_
  refine GC.condD rfl (fun h21 => absurd h21 (by decide)) (fun h21 => ?_)
  refine GC.skip ?_
  refine GC.seq ?_
  refine GC.seq ?_
  refine GC.reg ?_  -- region 4, ginmore.go:13
  refine G.v (V.mv rfl) rfl ?_
  refine G.v (V.lenL Tryd.underlying32 rfl) rfl ?_
  refine G.v (V.mv rfl) rfl ?_
  refine G.nil ?_
  refine GC.block ?_
  refine GC.turn (H' := [⟨tb, true, .row (treeR nb (max 0 (p.count 58 + p.count 42)) (max 0 (p.count 47))) 61 (0, 0)⟩, ⟨nb, true, .row (nodeR p 1 1 (.slice (some ⟨hb, 0, none⟩) 1 1) p) 72 (0, 0)⟩, ⟨ca, true, .row [Pt tb 0] 39 (0, 0)⟩, ⟨cf, true, .row [.bool false] 4 (0, 0)⟩] ++ ([] ++ [])) (fun w1 hw1 => ?_) ?_
  · have h2 := hw1.perm (perm_idx [([⟨ca, true, .row [Pt tb 0] 39 (0, 0)⟩] : SH), ([⟨tb, true, .row (treeR nb (max 0 (p.count 58 + p.count 42)) (max 0 (p.count 47))) 61 (0, 0)⟩] : SH), ([⟨nb, true, .row (nodeR p 1 1 (.slice (some ⟨hb, 0, none⟩) 1 1) p) 72 (0, 0)⟩] : SH), ([⟨hb, true, .row [I 1] 3 (0, 0)⟩] : SH), ([⟨cf, true, .row [.bool false] 4 (0, 0)⟩] : SH)] [0, 1, 2, 3, 4] [3, 1, 2, 0, 4] (by decide))
    exact h2.sub (List.sublist_cons_self _ _)
  refine GC.loopJ (fun N fr' H' => ∃ (i : Nat) (svT svF : Value) (HT HB : SH), i + N = tl.length ∧ Own 9 1 svT (i) ((tl.take (i)).map fun x => S x.t) HT ∧ Own 4 1 svF (i) ((tl.take (i)).map fun x => Value.bool x.f) HB ∧ Sub [(5, Pt cf 0), (6, svT), (7, svF), (9, Pt ca 0), (22, .slice (some ⟨qb, qo, none⟩) tl.length cp2), (23, I (tl.length : Nat)), (24, I ((i : Nat) : Int))] fr' ∧ [⟨tb, true, .row (treeR nb (max 0 (p.count 58 + p.count 42)) (max 0 (p.count 47))) 61 (0, 0)⟩, ⟨nb, true, .row (nodeR p 1 1 (.slice (some ⟨hb, 0, none⟩) 1 1) p) 72 (0, 0)⟩, ⟨ca, true, .row [Pt tb 0] 39 (0, 0)⟩, ⟨cf, true, .row [.bool false] 4 (0, 0)⟩] ++ (HT ++ HB) = H') tl.length
    ⟨0, _, _, [], [], by omega, .nil, .nil, .cons rfl (.cons rfl (.cons rfl (.cons rfl (.cons rfl (.cons rfl (.cons rfl .nil)))))), rfl⟩ ?_
  rintro N fr' H' ⟨i, svT, svF, HT, HB, hi, hownT, hownF, hs, rfl⟩ ih
  refine GC.weak hs ?_
  clear hs
  obtain ⟨adT, cpT, rfl⟩ := hownT.slice
  obtain ⟨adF, cpF, rfl⟩ := hownF.slice
  refine GC.seq ?_
  refine GC.reg ?_  -- region 5, ginmore.go:13
  refine G.v (V.lt rfl rfl) rfl ?_
  refine G.nil ?_
  refine GC.seq ?_
  refine GC.condD rfl (fun h25 => ?_) (fun h25 => ?_)
  · refine GC.skip ?_
    refine GC.seq ?_
    refine GC.block ?_
    refine GC.seq ?_
    have hlt : i < tl.length := by omega
    obtain ⟨x, hx⟩ : ∃ x, tl[i]? = some x := ⟨_, List.getElem?_eq_getElem hlt⟩
    have htx := htl x (List.mem_of_getElem? hx)
    refine GC.reg ?_  -- region 6, ginmore.go:13
    refine G.v (V.ia (i := i) Tryd.underlying32 Tryd.sizeOf9 rfl rfl hlt) rfl ?_
    refine G.v (V.ldC (v := S x.q) Tryd.isAgg9 rfl (by rw [Nat.mul_one]; exact hq i x hx) id) rfl ?_
    refine G.al Tryd.zeroValue9 rfl rfl (fun cq hcq => ?_)
    refine G.st Tryd.sizeOf9 rfl rfl rfl .z rfl rfl ?_
    refine G.nil ?_
    refine GC.seq ?_
    refine GC.reg ?_  -- region 7, ginmore.go:14
    refine G.al Tryd.zeroValue9 rfl rfl (fun cs hcs => ?_)
    refine G.nil ?_
    refine GC.seq ?_
    refine GC.reg ?_  -- region 8, ginmore.go:15
    refine G.al Tryd.zeroValue4 rfl rfl (fun ci hci => ?_)
    refine G.nil ?_
    refine GC.seq ?_
    refine GC.seq ?_
    refine GC.turn (H' := [⟨ci, true, .row [.bool false] 4 (0, 0)⟩, ⟨cs, true, .row [S []] 9 (0, 0)⟩, ⟨cq, true, .row [S x.q] 9 (0, 0)⟩] ++ ([⟨tb, true, .row (treeR nb (max 0 (p.count 58 + p.count 42)) (max 0 (p.count 47))) 61 (0, 0)⟩, ⟨nb, true, .row (nodeR p 1 1 (.slice (some ⟨hb, 0, none⟩) 1 1) p) 72 (0, 0)⟩, ⟨ca, true, .row [Pt tb 0] 39 (0, 0)⟩, ⟨cf, true, .row [.bool false] 4 (0, 0)⟩] ++ (HT ++ HB))) (fun w1 hw1 => hw1) ?_
    refine GC.reg ?_  -- region 9, ginmore.go:16
    refine G.v (V.mkF (vs := [Pt ca 0, Pt cq 0, Pt cf 0, Pt cs 0, Pt ci 0]) rfl) rfl ?_
    refine G.callW (fun v H2 => v = .bool false ∧ H2 = [⟨tb, true, .row (treeR nb (max 0 (p.count 58 + p.count 42)) (max 0 (p.count 47))) 61 (0, 0)⟩, ⟨nb, true, .row (nodeR p 1 1 (.slice (some ⟨hb, 0, none⟩) 1 1) p) 72 (0, 0)⟩, ⟨ca, true, .row [Pt tb 0] 39 (0, 0)⟩, ⟨cq, true, .row [S x.q] 9 (0, 0)⟩, ⟨cf, true, .row [.bool false] 4 (0, 0)⟩, ⟨cs, true, .row [S x.t] 9 (0, 0)⟩, ⟨ci, true, .row [.bool x.f] 4 (0, 0)⟩] ++ (HT ++ HB)) Tryd.call24 rfl rfl (fun w1 hw1 => ?_) ?_
    · have hp0' := perm_idx [([⟨ci, true, .row [.bool false] 4 (0, 0)⟩] : SH), ([⟨cs, true, .row [S []] 9 (0, 0)⟩] : SH), ([⟨cq, true, .row [S x.q] 9 (0, 0)⟩] : SH), ([⟨tb, true, .row (treeR nb (max 0 (p.count 58 + p.count 42)) (max 0 (p.count 47))) 61 (0, 0)⟩] : SH), ([⟨nb, true, .row (nodeR p 1 1 (.slice (some ⟨hb, 0, none⟩) 1 1) p) 72 (0, 0)⟩] : SH), ([⟨ca, true, .row [Pt tb 0] 39 (0, 0)⟩] : SH), ([⟨cf, true, .row [.bool false] 4 (0, 0)⟩] : SH), HT ++ HB] [0, 1, 2, 3, 4, 5, 6, 7] [3, 4, 5, 2, 6, 1, 0, 7] (by decide)
      have hw1' : HF w (fun _ => False) ([⟨tb, true, .row (treeR nb (max 0 (p.count 58 + p.count 42)) (max 0 (p.count 47))) 61 (0, 0)⟩, ⟨nb, true, .row (nodeR p 1 1 (.slice (some ⟨hb, 0, none⟩) 1 1) p) 72 (0, 0)⟩, ⟨ca, true, .row [Pt tb 0] 39 (0, 0)⟩, ⟨cq, true, .row [S x.q] 9 (0, 0)⟩, ⟨cf, true, .row [.bool false] 4 (0, 0)⟩, ⟨cs, true, .row [S []] 9 (0, 0)⟩, ⟨ci, true, .row [.bool false] 4 (0, 0)⟩] ++ (HT ++ HB)) w1 := hw1.perm (List.Perm.trans (.of_eq (by simp)) (hp0'.trans (.of_eq (by simp))))
      refine (f24_any 25 #[Pt ca 0, Pt cq 0, Pt cf 0, Pt cs 0, Pt ci 0] Tryd.call25 w1 w (fun _ => False) _ hw1' (fun t H2 => t = false ∧ H2 = [⟨tb, true, .row (treeR nb (max 0 (p.count 58 + p.count 42)) (max 0 (p.count 47))) 61 (0, 0)⟩, ⟨nb, true, .row (nodeR p 1 1 (.slice (some ⟨hb, 0, none⟩) 1 1) p) 72 (0, 0)⟩, ⟨ca, true, .row [Pt tb 0] 39 (0, 0)⟩, ⟨cq, true, .row [S x.q] 9 (0, 0)⟩, ⟨cf, true, .row [.bool false] 4 (0, 0)⟩, ⟨cs, true, .row [S x.t] 9 (0, 0)⟩, ⟨ci, true, .row [.bool x.f] 4 (0, 0)⟩] ++ (HT ++ HB)) (fun b w2 hb0 hw2 => ?_)).mono fun e w' ⟨t, H2, h1, ⟨h2, h3⟩, h4⟩ => ⟨_, _, h1, h4, by rw [h2], h3⟩
      have hp2 := perm_idx [([⟨b, true, .row [.bool false] 4 (0, 0)⟩] : SH), [⟨tb, true, .row (treeR nb (max 0 (p.count 58 + p.count 42)) (max 0 (p.count 47))) 61 (0, 0)⟩, ⟨nb, true, .row (nodeR p 1 1 (.slice (some ⟨hb, 0, none⟩) 1 1) p) 72 (0, 0)⟩, ⟨ca, true, .row [Pt tb 0] 39 (0, 0)⟩, ⟨cq, true, .row [S x.q] 9 (0, 0)⟩, ⟨cf, true, .row [.bool false] 4 (0, 0)⟩, ⟨cs, true, .row [S []] 9 (0, 0)⟩, ⟨ci, true, .row [.bool false] 4 (0, 0)⟩], HT ++ HB] [0, 1, 2] [1, 0, 2] (by decide)
      have hp3 : List.Perm (⟨b, true, .row [.bool false] 4 (0, 0)⟩ :: ([⟨tb, true, .row (treeR nb (max 0 (p.count 58 + p.count 42)) (max 0 (p.count 47))) 61 (0, 0)⟩, ⟨nb, true, .row (nodeR p 1 1 (.slice (some ⟨hb, 0, none⟩) 1 1) p) 72 (0, 0)⟩, ⟨ca, true, .row [Pt tb 0] 39 (0, 0)⟩, ⟨cq, true, .row [S x.q] 9 (0, 0)⟩, ⟨cf, true, .row [.bool false] 4 (0, 0)⟩, ⟨cs, true, .row [S []] 9 (0, 0)⟩, ⟨ci, true, .row [.bool false] 4 (0, 0)⟩] ++ (HT ++ HB)) : SH) ([⟨tb, true, .row (treeR nb (max 0 (p.count 58 + p.count 42)) (max 0 (p.count 47))) 61 (0, 0)⟩, ⟨nb, true, .row (nodeR p 1 1 (.slice (some ⟨hb, 0, none⟩) 1 1) p) 72 (0, 0)⟩, ⟨ca, true, .row [Pt tb 0] 39 (0, 0)⟩, ⟨cq, true, .row [S x.q] 9 (0, 0)⟩, ⟨cf, true, .row [.bool false] 4 (0, 0)⟩, ⟨cs, true, .row [S []] 9 (0, 0)⟩, ⟨ci, true, .row [.bool false] 4 (0, 0)⟩] ++ (⟨b, true, .row [.bool false] 4 (0, 0)⟩ :: (HT ++ HB))) := List.Perm.trans (.of_eq (by simp)) (hp2.trans (.of_eq (by simp)))
      have hh := hw2.perm hp3
      have hnd := List.pairwise_append.1 hh.nd
      refine (f25_any w2 (fun b => ∃ e ∈ ([⟨tb, true, .row (treeR nb (max 0 (p.count 58 + p.count 42)) (max 0 (p.count 47))) 61 (0, 0)⟩, ⟨nb, true, .row (nodeR p 1 1 (.slice (some ⟨hb, 0, none⟩) 1 1) p) 72 (0, 0)⟩, ⟨ca, true, .row [Pt tb 0] 39 (0, 0)⟩, ⟨cq, true, .row [S x.q] 9 (0, 0)⟩, ⟨cf, true, .row [.bool false] 4 (0, 0)⟩, ⟨cs, true, .row [S []] 9 (0, 0)⟩, ⟨ci, true, .row [.bool false] 4 (0, 0)⟩] : SH), e.b = b) nb tb hb _ _ ca cq cf cs ci p x.q x.t x.f hp0 hpl hpa htx (hh.loc (fun e he => List.mem_append_left _ he) hnd.1)).mono fun e w' ⟨h1, h2⟩ => ⟨[⟨tb, true, .row (treeR nb (max 0 (p.count 58 + p.count 42)) (max 0 (p.count 47))) 61 (0, 0)⟩, ⟨nb, true, .row (nodeR p 1 1 (.slice (some ⟨hb, 0, none⟩) 1 1) p) 72 (0, 0)⟩, ⟨ca, true, .row [Pt tb 0] 39 (0, 0)⟩, ⟨cq, true, .row [S x.q] 9 (0, 0)⟩, ⟨cf, true, .row [.bool false] 4 (0, 0)⟩, ⟨cs, true, .row [S x.t] 9 (0, 0)⟩, ⟨ci, true, .row [.bool x.f] 4 (0, 0)⟩] ++ (HT ++ HB), ?_, .inl ⟨_, h1, rfl, rfl⟩⟩
      have h3 := hw2.back hp3 (fun e0 he0 => by simp only [List.mem_cons, List.not_mem_nil, or_false] at he0; rcases he0 with rfl | rfl | rfl | rfl | rfl | rfl | rfl <;> rfl) (fun e0 he0 => by simp only [List.mem_cons, List.not_mem_nil, or_false] at he0; rcases he0 with rfl | rfl | rfl | rfl | rfl | rfl | rfl <;> rfl) h2
      have hp4 := perm_idx [[⟨tb, true, .row (treeR nb (max 0 (p.count 58 + p.count 42)) (max 0 (p.count 47))) 61 (0, 0)⟩, ⟨nb, true, .row (nodeR p 1 1 (.slice (some ⟨hb, 0, none⟩) 1 1) p) 72 (0, 0)⟩, ⟨ca, true, .row [Pt tb 0] 39 (0, 0)⟩, ⟨cq, true, .row [S x.q] 9 (0, 0)⟩, ⟨cf, true, .row [.bool false] 4 (0, 0)⟩, ⟨cs, true, .row [S x.t] 9 (0, 0)⟩, ⟨ci, true, .row [.bool x.f] 4 (0, 0)⟩], ([⟨b, true, .row [.bool false] 4 (0, 0)⟩] : SH), HT ++ HB] [0, 1, 2] [1, 0, 2] (by decide)
      exact h3.perm (List.Perm.trans (.of_eq (by simp)) (hp4.trans (.of_eq (by simp))))
    rintro v H2 ⟨rfl, rfl⟩
    refine G.nil ?_
    refine GC.condF rfl ?_
    refine GC.skip ?_
    refine GC.join (fun fr' H' => ∃ (svT2 svF2 : Value) (HT2 HB2 : SH), Own 9 1 svT2 (i + 1) ((tl.take (i + 1)).map fun x => S x.t) HT2 ∧ Own 4 1 svF2 (i + 1) ((tl.take (i + 1)).map fun x => Value.bool x.f) HB2 ∧ Sub [(5, Pt cf 0), (6, svT2), (7, svF2), (9, Pt ca 0), (22, .slice (some ⟨qb, qo, none⟩) tl.length cp2), (23, I (tl.length : Nat)), (24, I ((i : Nat) : Int))] fr' ∧ (∀ w1, HF w (fun _ => False) H' w1 → HF w (fun _ => False) ([⟨tb, true, .row (treeR nb (max 0 (p.count 58 + p.count 42)) (max 0 (p.count 47))) 61 (0, 0)⟩, ⟨nb, true, .row (nodeR p 1 1 (.slice (some ⟨hb, 0, none⟩) 1 1) p) 72 (0, 0)⟩, ⟨ca, true, .row [Pt tb 0] 39 (0, 0)⟩, ⟨cf, true, .row [.bool false] 4 (0, 0)⟩] ++ (HT2 ++ HB2)) w1)) (fun J11 => ?_) ?_
    · have fin11 : ∀ (HT2 HB2 : SH) (T : SH) w1, HF w (fun _ => False) (T ++ ([⟨tb, true, .row (treeR nb (max 0 (p.count 58 + p.count 42)) (max 0 (p.count 47))) 61 (0, 0)⟩, ⟨nb, true, .row (nodeR p 1 1 (.slice (some ⟨hb, 0, none⟩) 1 1) p) 72 (0, 0)⟩, ⟨ca, true, .row [Pt tb 0] 39 (0, 0)⟩, ⟨cq, true, .row [S x.q] 9 (0, 0)⟩, ⟨cf, true, .row [.bool false] 4 (0, 0)⟩, ⟨cs, true, .row [S x.t] 9 (0, 0)⟩, ⟨ci, true, .row [.bool x.f] 4 (0, 0)⟩] ++ (HT2 ++ HB2))) w1 → HF w (fun _ => False) ([⟨tb, true, .row (treeR nb (max 0 (p.count 58 + p.count 42)) (max 0 (p.count 47))) 61 (0, 0)⟩, ⟨nb, true, .row (nodeR p 1 1 (.slice (some ⟨hb, 0, none⟩) 1 1) p) 72 (0, 0)⟩, ⟨ca, true, .row [Pt tb 0] 39 (0, 0)⟩, ⟨cf, true, .row [.bool false] 4 (0, 0)⟩] ++ (HT2 ++ HB2)) w1 := fun HT2 HB2 T w1 h => by
        have h1 := h.sub (List.sublist_append_right T _)
        have h2 : HF w (fun _ => False) ([⟨cq, true, .row [S x.q] 9 (0, 0)⟩, ⟨cs, true, .row [S x.t] 9 (0, 0)⟩, ⟨ci, true, .row [.bool x.f] 4 (0, 0)⟩] ++ ([⟨tb, true, .row (treeR nb (max 0 (p.count 58 + p.count 42)) (max 0 (p.count 47))) 61 (0, 0)⟩, ⟨nb, true, .row (nodeR p 1 1 (.slice (some ⟨hb, 0, none⟩) 1 1) p) 72 (0, 0)⟩, ⟨ca, true, .row [Pt tb 0] 39 (0, 0)⟩, ⟨cf, true, .row [.bool false] 4 (0, 0)⟩] ++ (HT2 ++ HB2))) w1 := h1.perm (List.Perm.trans (.of_eq (by simp)) ((perm_idx [([⟨tb, true, .row (treeR nb (max 0 (p.count 58 + p.count 42)) (max 0 (p.count 47))) 61 (0, 0)⟩] : SH), ([⟨nb, true, .row (nodeR p 1 1 (.slice (some ⟨hb, 0, none⟩) 1 1) p) 72 (0, 0)⟩] : SH), ([⟨ca, true, .row [Pt tb 0] 39 (0, 0)⟩] : SH), ([⟨cq, true, .row [S x.q] 9 (0, 0)⟩] : SH), ([⟨cf, true, .row [.bool false] 4 (0, 0)⟩] : SH), ([⟨cs, true, .row [S x.t] 9 (0, 0)⟩] : SH), ([⟨ci, true, .row [.bool x.f] 4 (0, 0)⟩] : SH), HT2 ++ HB2] [0, 1, 2, 3, 4, 5, 6, 7] [3, 5, 6, 0, 1, 2, 4, 7] (by decide)).trans (.of_eq (by simp))))
        exact h2.sub (List.sublist_append_right [_, _, _] _)
      have hSb : ∀ (H : SH) w1, HF w (fun _ => False) H w1 → (⟨cs, true, .row [S x.t] 9 (0, 0)⟩ : Ent) ∈ H → (⟨ci, true, .row [.bool x.f] 4 (0, 0)⟩ : Ent) ∈ H → w1.cell? ⟨cs, 0, none⟩ = some (S x.t) ∧ w1.cell? ⟨ci, 0, none⟩ = some (.bool x.f) := fun H w1 hw h1 h2 => ⟨cell_row hw h1 rfl, cell_row hw h2 rfl⟩
      have htkT : (tl.take i).map (fun x => S x.t) ++ [S x.t] = (tl.take (i + 1)).map fun x => S x.t := by rw [List.take_add_one, hx]; simp
      have htkF : (tl.take i).map (fun x => Value.bool x.f) ++ [Value.bool x.f] = (tl.take (i + 1)).map fun x => Value.bool x.f := by rw [List.take_add_one, hx]; simp
      refine GC.regA (fun w1 : World => w1.cell? ⟨cs, 0, none⟩ = some (S x.t) ∧ w1.cell? ⟨ci, 0, none⟩ = some (.bool x.f)) mixed ?_
      refine GA.p 0 rfl (by kernel_rfl) (fun w1 hw1 => hSb _ w1 hw1 (by simp) (by simp)) (fun _ => V.mv rfl) rfl ?_
      refine GA.p 4 rfl (by kernel_rfl) (fun w1 hw1 => hSb _ w1 hw1 (by simp) (by simp)) (fun _ => V.mv rfl) rfl ?_
      refine GA.ld 1 (v := S x.t) rfl (by kernel_rfl) (fun w1 hw1 => hSb _ w1 hw1 (by simp) (by simp)) Tryd.isAgg9 rfl (fun w1 h => h.1) rfl ?_
      refine GA.ld 5 (v := .bool x.f) rfl (by kernel_rfl) (fun w1 hw1 => hSb _ w1 hw1 (by simp) (by simp)) Tryd.isAgg4 rfl (fun w1 h => h.2) rfl ?_
      refine GA.two 2 6 rfl rfl (by kernel_rfl) ?_ ?_
      · refine GB.bs (BS.one Tryd.underlying32 Tryd.sizeOf9 Tryd.zeroValue9 (v := S x.t) rfl) rfl (fun w1 hw1 => hSb _ w1 hw1 (by simp) (by simp)) rfl (fun tb1 => ?_)
        refine GA.two 3 6 rfl rfl (by kernel_rfl) ?_ ?_
        · refine GB.app (i := Tryd.t9) (sz := 1) (by_ := 16) Tryd.underlying32 rfl rfl rfl rfl rfl rfl rfl hownT (H' := ([⟨tb1, true, .row [S x.t] 9 (0, 0)⟩] : SH) ++ [⟨tb, true, .row (treeR nb (max 0 (p.count 58 + p.count 42)) (max 0 (p.count 47))) 61 (0, 0)⟩, ⟨nb, true, .row (nodeR p 1 1 (.slice (some ⟨hb, 0, none⟩) 1 1) p) 72 (0, 0)⟩, ⟨ca, true, .row [Pt tb 0] 39 (0, 0)⟩, ⟨cq, true, .row [S x.q] 9 (0, 0)⟩, ⟨cf, true, .row [.bool false] 4 (0, 0)⟩, ⟨cs, true, .row [S x.t] 9 (0, 0)⟩, ⟨ci, true, .row [.bool x.f] 4 (0, 0)⟩] ++ HB) (List.Perm.trans (.of_eq (by simp)) ((perm_idx [([⟨tb1, true, .row [S x.t] 9 (0, 0)⟩] : SH), ([⟨tb, true, .row (treeR nb (max 0 (p.count 58 + p.count 42)) (max 0 (p.count 47))) 61 (0, 0)⟩, ⟨nb, true, .row (nodeR p 1 1 (.slice (some ⟨hb, 0, none⟩) 1 1) p) 72 (0, 0)⟩, ⟨ca, true, .row [Pt tb 0] 39 (0, 0)⟩, ⟨cq, true, .row [S x.q] 9 (0, 0)⟩, ⟨cf, true, .row [.bool false] 4 (0, 0)⟩, ⟨cs, true, .row [S x.t] 9 (0, 0)⟩, ⟨ci, true, .row [.bool x.f] 4 (0, 0)⟩] : SH), HT, HB] [0, 1, 2, 3] [2, 0, 1, 3] (by decide)).trans (.of_eq (by simp)))) (src_row (b := tb1) (wf := true) (vs := [S x.t]) (r := []) (t := 9) (fz := (0, 0)) (by simp)) rfl (by simp [Value.oneCell']) (by omega) (by omega) (by omega) (fun w1 hw1 => hSb _ w1 hw1 (by simp) (by simp)) rfl (fun svT2 HT2 hownT2 => ?_)
          refine GA.one 6 rfl (by kernel_rfl) ?_
          refine GB.bs (BS.one Tryd.underlying33 Tryd.sizeOf4 Tryd.zeroValue4 (v := .bool x.f) rfl) rfl (fun w1 hw1 => hSb _ w1 hw1 (by simp) (by simp)) rfl (fun tb2 => ?_)
          refine GA.one 7 rfl (by kernel_rfl) ?_
          refine GB.app (i := Tryd.t4) (sz := 1) (by_ := 1) Tryd.underlying33 rfl rfl rfl rfl rfl rfl rfl hownF (H' := ([⟨tb2, true, .row [.bool x.f] 4 (0, 0)⟩] : SH) ++ ([⟨tb1, true, .row [S x.t] 9 (0, 0)⟩] : SH) ++ [⟨tb, true, .row (treeR nb (max 0 (p.count 58 + p.count 42)) (max 0 (p.count 47))) 61 (0, 0)⟩, ⟨nb, true, .row (nodeR p 1 1 (.slice (some ⟨hb, 0, none⟩) 1 1) p) 72 (0, 0)⟩, ⟨ca, true, .row [Pt tb 0] 39 (0, 0)⟩, ⟨cq, true, .row [S x.q] 9 (0, 0)⟩, ⟨cf, true, .row [.bool false] 4 (0, 0)⟩, ⟨cs, true, .row [S x.t] 9 (0, 0)⟩, ⟨ci, true, .row [.bool x.f] 4 (0, 0)⟩] ++ HT2) (List.Perm.trans (.of_eq (by simp)) ((perm_idx [([⟨tb2, true, .row [.bool x.f] 4 (0, 0)⟩] : SH), ([⟨tb1, true, .row [S x.t] 9 (0, 0)⟩] : SH), ([⟨tb, true, .row (treeR nb (max 0 (p.count 58 + p.count 42)) (max 0 (p.count 47))) 61 (0, 0)⟩, ⟨nb, true, .row (nodeR p 1 1 (.slice (some ⟨hb, 0, none⟩) 1 1) p) 72 (0, 0)⟩, ⟨ca, true, .row [Pt tb 0] 39 (0, 0)⟩, ⟨cq, true, .row [S x.q] 9 (0, 0)⟩, ⟨cf, true, .row [.bool false] 4 (0, 0)⟩, ⟨cs, true, .row [S x.t] 9 (0, 0)⟩, ⟨ci, true, .row [.bool x.f] 4 (0, 0)⟩] : SH), HB, HT2] [0, 1, 2, 3, 4] [3, 0, 1, 2, 4] (by decide)).trans (.of_eq (by simp)))) (src_row (b := tb2) (wf := true) (vs := [.bool x.f]) (r := []) (t := 4) (fz := (0, 0)) (by simp)) rfl (by simp [Value.oneCell']) (by omega) (by omega) (by omega) (fun w1 hw1 => hSb _ w1 hw1 (by simp) (by simp)) rfl (fun svF2 HB2 hownF2 => ?_)
          refine GA.p 8 rfl (by kernel_rfl) (fun w1 hw1 => hSb _ w1 hw1 (by simp) (by simp)) (fun _ => V.asg rfl) rfl ?_
          refine GA.p 9 rfl (by kernel_rfl) (fun w1 hw1 => hSb _ w1 hw1 (by simp) (by simp)) (fun _ => V.asg rfl) rfl ?_
          refine GA.done (by kernel_rfl) ?_
          refine J11 _ _ ⟨svT2, svF2, HT2, HB2, htkT ▸ hownT2, htkF ▸ hownF2, .cons rfl (.cons rfl (.cons rfl (.cons rfl (.cons rfl (.cons rfl (.cons rfl .nil)))))), fun w1 h => ?_⟩
          have h2 : HF w (fun _ => False) ([⟨tb2, true, .row [.bool x.f] 4 (0, 0)⟩, ⟨tb1, true, .row [S x.t] 9 (0, 0)⟩] ++ ([⟨tb, true, .row (treeR nb (max 0 (p.count 58 + p.count 42)) (max 0 (p.count 47))) 61 (0, 0)⟩, ⟨nb, true, .row (nodeR p 1 1 (.slice (some ⟨hb, 0, none⟩) 1 1) p) 72 (0, 0)⟩, ⟨ca, true, .row [Pt tb 0] 39 (0, 0)⟩, ⟨cq, true, .row [S x.q] 9 (0, 0)⟩, ⟨cf, true, .row [.bool false] 4 (0, 0)⟩, ⟨cs, true, .row [S x.t] 9 (0, 0)⟩, ⟨ci, true, .row [.bool x.f] 4 (0, 0)⟩] ++ (HT2 ++ HB2))) w1 := h.perm (List.Perm.trans (.of_eq (by simp)) ((perm_idx [([⟨tb2, true, .row [.bool x.f] 4 (0, 0)⟩] : SH), ([⟨tb1, true, .row [S x.t] 9 (0, 0)⟩] : SH), ([⟨tb, true, .row (treeR nb (max 0 (p.count 58 + p.count 42)) (max 0 (p.count 47))) 61 (0, 0)⟩, ⟨nb, true, .row (nodeR p 1 1 (.slice (some ⟨hb, 0, none⟩) 1 1) p) 72 (0, 0)⟩, ⟨ca, true, .row [Pt tb 0] 39 (0, 0)⟩, ⟨cq, true, .row [S x.q] 9 (0, 0)⟩, ⟨cf, true, .row [.bool false] 4 (0, 0)⟩, ⟨cs, true, .row [S x.t] 9 (0, 0)⟩, ⟨ci, true, .row [.bool x.f] 4 (0, 0)⟩] : SH), HT2, HB2] [0, 1, 2, 3, 4] [0, 1, 2, 3, 4] (by decide)).trans (.of_eq (by simp))))
          exact fin11 _ _ _ _ h2
        · refine GB.bs (BS.one Tryd.underlying33 Tryd.sizeOf4 Tryd.zeroValue4 (v := .bool x.f) rfl) rfl (fun w1 hw1 => hSb _ w1 hw1 (by simp) (by simp)) rfl (fun tb2 => ?_)
          refine GA.one 3 rfl (by kernel_rfl) ?_
          refine GB.app (i := Tryd.t9) (sz := 1) (by_ := 16) Tryd.underlying32 rfl rfl rfl rfl rfl rfl rfl hownT (H' := ([⟨tb2, true, .row [.bool x.f] 4 (0, 0)⟩] : SH) ++ ([⟨tb1, true, .row [S x.t] 9 (0, 0)⟩] : SH) ++ [⟨tb, true, .row (treeR nb (max 0 (p.count 58 + p.count 42)) (max 0 (p.count 47))) 61 (0, 0)⟩, ⟨nb, true, .row (nodeR p 1 1 (.slice (some ⟨hb, 0, none⟩) 1 1) p) 72 (0, 0)⟩, ⟨ca, true, .row [Pt tb 0] 39 (0, 0)⟩, ⟨cq, true, .row [S x.q] 9 (0, 0)⟩, ⟨cf, true, .row [.bool false] 4 (0, 0)⟩, ⟨cs, true, .row [S x.t] 9 (0, 0)⟩, ⟨ci, true, .row [.bool x.f] 4 (0, 0)⟩] ++ HB) (List.Perm.trans (.of_eq (by simp)) ((perm_idx [([⟨tb2, true, .row [.bool x.f] 4 (0, 0)⟩] : SH), ([⟨tb1, true, .row [S x.t] 9 (0, 0)⟩] : SH), ([⟨tb, true, .row (treeR nb (max 0 (p.count 58 + p.count 42)) (max 0 (p.count 47))) 61 (0, 0)⟩, ⟨nb, true, .row (nodeR p 1 1 (.slice (some ⟨hb, 0, none⟩) 1 1) p) 72 (0, 0)⟩, ⟨ca, true, .row [Pt tb 0] 39 (0, 0)⟩, ⟨cq, true, .row [S x.q] 9 (0, 0)⟩, ⟨cf, true, .row [.bool false] 4 (0, 0)⟩, ⟨cs, true, .row [S x.t] 9 (0, 0)⟩, ⟨ci, true, .row [.bool x.f] 4 (0, 0)⟩] : SH), HT, HB] [0, 1, 2, 3, 4] [3, 0, 1, 2, 4] (by decide)).trans (.of_eq (by simp)))) (src_row (b := tb1) (wf := true) (vs := [S x.t]) (r := []) (t := 9) (fz := (0, 0)) (by simp)) rfl (by simp [Value.oneCell']) (by omega) (by omega) (by omega) (fun w1 hw1 => hSb _ w1 hw1 (by simp) (by simp)) rfl (fun svT2 HT2 hownT2 => ?_)
          refine GA.one 7 rfl (by kernel_rfl) ?_
          refine GB.app (i := Tryd.t4) (sz := 1) (by_ := 1) Tryd.underlying33 rfl rfl rfl rfl rfl rfl rfl hownF (H' := ([⟨tb2, true, .row [.bool x.f] 4 (0, 0)⟩] : SH) ++ ([⟨tb1, true, .row [S x.t] 9 (0, 0)⟩] : SH) ++ [⟨tb, true, .row (treeR nb (max 0 (p.count 58 + p.count 42)) (max 0 (p.count 47))) 61 (0, 0)⟩, ⟨nb, true, .row (nodeR p 1 1 (.slice (some ⟨hb, 0, none⟩) 1 1) p) 72 (0, 0)⟩, ⟨ca, true, .row [Pt tb 0] 39 (0, 0)⟩, ⟨cq, true, .row [S x.q] 9 (0, 0)⟩, ⟨cf, true, .row [.bool false] 4 (0, 0)⟩, ⟨cs, true, .row [S x.t] 9 (0, 0)⟩, ⟨ci, true, .row [.bool x.f] 4 (0, 0)⟩] ++ HT2) (List.Perm.trans (.of_eq (by simp)) ((perm_idx [([⟨tb2, true, .row [.bool x.f] 4 (0, 0)⟩] : SH), ([⟨tb1, true, .row [S x.t] 9 (0, 0)⟩] : SH), ([⟨tb, true, .row (treeR nb (max 0 (p.count 58 + p.count 42)) (max 0 (p.count 47))) 61 (0, 0)⟩, ⟨nb, true, .row (nodeR p 1 1 (.slice (some ⟨hb, 0, none⟩) 1 1) p) 72 (0, 0)⟩, ⟨ca, true, .row [Pt tb 0] 39 (0, 0)⟩, ⟨cq, true, .row [S x.q] 9 (0, 0)⟩, ⟨cf, true, .row [.bool false] 4 (0, 0)⟩, ⟨cs, true, .row [S x.t] 9 (0, 0)⟩, ⟨ci, true, .row [.bool x.f] 4 (0, 0)⟩] : SH), HB, HT2] [0, 1, 2, 3, 4] [3, 0, 1, 2, 4] (by decide)).trans (.of_eq (by simp)))) (src_row (b := tb2) (wf := true) (vs := [.bool x.f]) (r := []) (t := 4) (fz := (0, 0)) (by simp)) rfl (by simp [Value.oneCell']) (by omega) (by omega) (by omega) (fun w1 hw1 => hSb _ w1 hw1 (by simp) (by simp)) rfl (fun svF2 HB2 hownF2 => ?_)
          refine GA.p 8 rfl (by kernel_rfl) (fun w1 hw1 => hSb _ w1 hw1 (by simp) (by simp)) (fun _ => V.asg rfl) rfl ?_
          refine GA.p 9 rfl (by kernel_rfl) (fun w1 hw1 => hSb _ w1 hw1 (by simp) (by simp)) (fun _ => V.asg rfl) rfl ?_
          refine GA.done (by kernel_rfl) ?_
          refine J11 _ _ ⟨svT2, svF2, HT2, HB2, htkT ▸ hownT2, htkF ▸ hownF2, .cons rfl (.cons rfl (.cons rfl (.cons rfl (.cons rfl (.cons rfl (.cons rfl .nil)))))), fun w1 h => ?_⟩
          have h2 : HF w (fun _ => False) ([⟨tb2, true, .row [.bool x.f] 4 (0, 0)⟩, ⟨tb1, true, .row [S x.t] 9 (0, 0)⟩] ++ ([⟨tb, true, .row (treeR nb (max 0 (p.count 58 + p.count 42)) (max 0 (p.count 47))) 61 (0, 0)⟩, ⟨nb, true, .row (nodeR p 1 1 (.slice (some ⟨hb, 0, none⟩) 1 1) p) 72 (0, 0)⟩, ⟨ca, true, .row [Pt tb 0] 39 (0, 0)⟩, ⟨cq, true, .row [S x.q] 9 (0, 0)⟩, ⟨cf, true, .row [.bool false] 4 (0, 0)⟩, ⟨cs, true, .row [S x.t] 9 (0, 0)⟩, ⟨ci, true, .row [.bool x.f] 4 (0, 0)⟩] ++ (HT2 ++ HB2))) w1 := h.perm (List.Perm.trans (.of_eq (by simp)) ((perm_idx [([⟨tb2, true, .row [.bool x.f] 4 (0, 0)⟩] : SH), ([⟨tb1, true, .row [S x.t] 9 (0, 0)⟩] : SH), ([⟨tb, true, .row (treeR nb (max 0 (p.count 58 + p.count 42)) (max 0 (p.count 47))) 61 (0, 0)⟩, ⟨nb, true, .row (nodeR p 1 1 (.slice (some ⟨hb, 0, none⟩) 1 1) p) 72 (0, 0)⟩, ⟨ca, true, .row [Pt tb 0] 39 (0, 0)⟩, ⟨cq, true, .row [S x.q] 9 (0, 0)⟩, ⟨cf, true, .row [.bool false] 4 (0, 0)⟩, ⟨cs, true, .row [S x.t] 9 (0, 0)⟩, ⟨ci, true, .row [.bool x.f] 4 (0, 0)⟩] : SH), HT2, HB2] [0, 1, 2, 3, 4] [0, 1, 2, 3, 4] (by decide)).trans (.of_eq (by simp))))
          exact fin11 _ _ _ _ h2
      · refine GB.bs (BS.one Tryd.underlying33 Tryd.sizeOf4 Tryd.zeroValue4 (v := .bool x.f) rfl) rfl (fun w1 hw1 => hSb _ w1 hw1 (by simp) (by simp)) rfl (fun tb2 => ?_)
        refine GA.one 2 rfl (by kernel_rfl) ?_
        refine GB.bs (BS.one Tryd.underlying32 Tryd.sizeOf9 Tryd.zeroValue9 (v := S x.t) rfl) rfl (fun w1 hw1 => hSb _ w1 hw1 (by simp) (by simp)) rfl (fun tb1 => ?_)
        refine GA.one 3 rfl (by kernel_rfl) ?_
        refine GB.app (i := Tryd.t9) (sz := 1) (by_ := 16) Tryd.underlying32 rfl rfl rfl rfl rfl rfl rfl hownT (H' := ([⟨tb1, true, .row [S x.t] 9 (0, 0)⟩] : SH) ++ ([⟨tb2, true, .row [.bool x.f] 4 (0, 0)⟩] : SH) ++ [⟨tb, true, .row (treeR nb (max 0 (p.count 58 + p.count 42)) (max 0 (p.count 47))) 61 (0, 0)⟩, ⟨nb, true, .row (nodeR p 1 1 (.slice (some ⟨hb, 0, none⟩) 1 1) p) 72 (0, 0)⟩, ⟨ca, true, .row [Pt tb 0] 39 (0, 0)⟩, ⟨cq, true, .row [S x.q] 9 (0, 0)⟩, ⟨cf, true, .row [.bool false] 4 (0, 0)⟩, ⟨cs, true, .row [S x.t] 9 (0, 0)⟩, ⟨ci, true, .row [.bool x.f] 4 (0, 0)⟩] ++ HB) (List.Perm.trans (.of_eq (by simp)) ((perm_idx [([⟨tb1, true, .row [S x.t] 9 (0, 0)⟩] : SH), ([⟨tb2, true, .row [.bool x.f] 4 (0, 0)⟩] : SH), ([⟨tb, true, .row (treeR nb (max 0 (p.count 58 + p.count 42)) (max 0 (p.count 47))) 61 (0, 0)⟩, ⟨nb, true, .row (nodeR p 1 1 (.slice (some ⟨hb, 0, none⟩) 1 1) p) 72 (0, 0)⟩, ⟨ca, true, .row [Pt tb 0] 39 (0, 0)⟩, ⟨cq, true, .row [S x.q] 9 (0, 0)⟩, ⟨cf, true, .row [.bool false] 4 (0, 0)⟩, ⟨cs, true, .row [S x.t] 9 (0, 0)⟩, ⟨ci, true, .row [.bool x.f] 4 (0, 0)⟩] : SH), HT, HB] [0, 1, 2, 3, 4] [3, 0, 1, 2, 4] (by decide)).trans (.of_eq (by simp)))) (src_row (b := tb1) (wf := true) (vs := [S x.t]) (r := []) (t := 9) (fz := (0, 0)) (by simp)) rfl (by simp [Value.oneCell']) (by omega) (by omega) (by omega) (fun w1 hw1 => hSb _ w1 hw1 (by simp) (by simp)) rfl (fun svT2 HT2 hownT2 => ?_)
        refine GA.one 7 rfl (by kernel_rfl) ?_
        refine GB.app (i := Tryd.t4) (sz := 1) (by_ := 1) Tryd.underlying33 rfl rfl rfl rfl rfl rfl rfl hownF (H' := ([⟨tb1, true, .row [S x.t] 9 (0, 0)⟩] : SH) ++ ([⟨tb2, true, .row [.bool x.f] 4 (0, 0)⟩] : SH) ++ [⟨tb, true, .row (treeR nb (max 0 (p.count 58 + p.count 42)) (max 0 (p.count 47))) 61 (0, 0)⟩, ⟨nb, true, .row (nodeR p 1 1 (.slice (some ⟨hb, 0, none⟩) 1 1) p) 72 (0, 0)⟩, ⟨ca, true, .row [Pt tb 0] 39 (0, 0)⟩, ⟨cq, true, .row [S x.q] 9 (0, 0)⟩, ⟨cf, true, .row [.bool false] 4 (0, 0)⟩, ⟨cs, true, .row [S x.t] 9 (0, 0)⟩, ⟨ci, true, .row [.bool x.f] 4 (0, 0)⟩] ++ HT2) (List.Perm.trans (.of_eq (by simp)) ((perm_idx [([⟨tb1, true, .row [S x.t] 9 (0, 0)⟩] : SH), ([⟨tb2, true, .row [.bool x.f] 4 (0, 0)⟩] : SH), ([⟨tb, true, .row (treeR nb (max 0 (p.count 58 + p.count 42)) (max 0 (p.count 47))) 61 (0, 0)⟩, ⟨nb, true, .row (nodeR p 1 1 (.slice (some ⟨hb, 0, none⟩) 1 1) p) 72 (0, 0)⟩, ⟨ca, true, .row [Pt tb 0] 39 (0, 0)⟩, ⟨cq, true, .row [S x.q] 9 (0, 0)⟩, ⟨cf, true, .row [.bool false] 4 (0, 0)⟩, ⟨cs, true, .row [S x.t] 9 (0, 0)⟩, ⟨ci, true, .row [.bool x.f] 4 (0, 0)⟩] : SH), HB, HT2] [0, 1, 2, 3, 4] [3, 0, 1, 2, 4] (by decide)).trans (.of_eq (by simp)))) (src_row (b := tb2) (wf := true) (vs := [.bool x.f]) (r := []) (t := 4) (fz := (0, 0)) (by simp)) rfl (by simp [Value.oneCell']) (by omega) (by omega) (by omega) (fun w1 hw1 => hSb _ w1 hw1 (by simp) (by simp)) rfl (fun svF2 HB2 hownF2 => ?_)
        refine GA.p 8 rfl (by kernel_rfl) (fun w1 hw1 => hSb _ w1 hw1 (by simp) (by simp)) (fun _ => V.asg rfl) rfl ?_
        refine GA.p 9 rfl (by kernel_rfl) (fun w1 hw1 => hSb _ w1 hw1 (by simp) (by simp)) (fun _ => V.asg rfl) rfl ?_
        refine GA.done (by kernel_rfl) ?_
        refine J11 _ _ ⟨svT2, svF2, HT2, HB2, htkT ▸ hownT2, htkF ▸ hownF2, .cons rfl (.cons rfl (.cons rfl (.cons rfl (.cons rfl (.cons rfl (.cons rfl .nil)))))), fun w1 h => ?_⟩
        have h2 : HF w (fun _ => False) ([⟨tb1, true, .row [S x.t] 9 (0, 0)⟩, ⟨tb2, true, .row [.bool x.f] 4 (0, 0)⟩] ++ ([⟨tb, true, .row (treeR nb (max 0 (p.count 58 + p.count 42)) (max 0 (p.count 47))) 61 (0, 0)⟩, ⟨nb, true, .row (nodeR p 1 1 (.slice (some ⟨hb, 0, none⟩) 1 1) p) 72 (0, 0)⟩, ⟨ca, true, .row [Pt tb 0] 39 (0, 0)⟩, ⟨cq, true, .row [S x.q] 9 (0, 0)⟩, ⟨cf, true, .row [.bool false] 4 (0, 0)⟩, ⟨cs, true, .row [S x.t] 9 (0, 0)⟩, ⟨ci, true, .row [.bool x.f] 4 (0, 0)⟩] ++ (HT2 ++ HB2))) w1 := h.perm (List.Perm.trans (.of_eq (by simp)) ((perm_idx [([⟨tb1, true, .row [S x.t] 9 (0, 0)⟩] : SH), ([⟨tb2, true, .row [.bool x.f] 4 (0, 0)⟩] : SH), ([⟨tb, true, .row (treeR nb (max 0 (p.count 58 + p.count 42)) (max 0 (p.count 47))) 61 (0, 0)⟩, ⟨nb, true, .row (nodeR p 1 1 (.slice (some ⟨hb, 0, none⟩) 1 1) p) 72 (0, 0)⟩, ⟨ca, true, .row [Pt tb 0] 39 (0, 0)⟩, ⟨cq, true, .row [S x.q] 9 (0, 0)⟩, ⟨cf, true, .row [.bool false] 4 (0, 0)⟩, ⟨cs, true, .row [S x.t] 9 (0, 0)⟩, ⟨ci, true, .row [.bool x.f] 4 (0, 0)⟩] : SH), HT2, HB2] [0, 1, 2, 3, 4] [0, 1, 2, 3, 4] (by decide)).trans (.of_eq (by simp))))
        exact fin11 _ _ _ _ h2
    rintro fr' H' ⟨svT2, svF2, HT2, HB2, hownT2, hownF2, hs11, hH11⟩
    refine GC.weak hs11 ?_
    clear hs11
    refine GC.turn hH11 ?_
    refine GC.inBlock ?_
    refine GC.reg ?_  -- region 12, ginmore.go:13
    refine G.v (V.addI (r := ((i + 1 : Nat) : Int)) rfl rfl rfl (by omega) (by omega)) rfl ?_
    refine G.v (V.mv rfl) rfl ?_
    refine G.nil ?_
    exact ih (N - 1) _ _ (by omega) ⟨i + 1, svT2, svF2, HT2, HB2, by omega, hownT2, hownF2, .cons rfl (.cons rfl (.cons rfl (.cons rfl (.cons rfl (.cons rfl (.cons rfl .nil)))))), rfl⟩
  refine GC.exit rfl ?_
  refine GC.seq ?_
  have hie : i = tl.length := by omega
  subst hie
  rw [List.take_length] at hownT hownF
  refine GC.reg ?_  -- region 13, ginmore.go:21
  refine G.v (V.mv rfl) rfl ?_
  refine G.v (V.mv rfl) rfl ?_
  refine G.v (V.asg rfl) rfl ?_
  refine G.v (V.asg rfl) rfl ?_
  refine G.v (V.asg rfl) rfl ?_
  refine G.nil ?_
  exact GC.ret3 rfl rfl rfl rfl fun w' hw' => ⟨_, _, HT, HB, rfl, hownT, hownF, hw'.sub (List.sublist_append_right _ _)⟩

end Go.Proofs

/- moreAwake. Printed by wip/mk_gs14.py. -/
namespace Go.Proofs
open Go Bw
set_option maxRecDepth 20000

theorem _root_.Bw.G.bs2 {P : Program} {c : Cx} {n : Nat} {k : List Item} {fr : SF} {H : SH} {ops : Array Oper} {rest : List Oper} {ty : TypeId} {pos : String} {aft : Array Edge} {T e d : Nat} {z u v : Value} {x y : Operand} (hT : P.underlying T = some (.slice e)) (hs : ∀ w, (Go.sizeOf e).run P w = .ok 1 w) (hz : ∀ w, (zeroValue e).run P w = .ok z w) (hu : u.cells = #[u]) (hv : v.cells = #[v]) (hx : ev fr x = some u) (hy : ev fr y = some v) (hd : Nat.blt d n = true)
    (hk : ∀ b, c.w0.heap.size ≤ b → G P c n k ops rest ((d, .slice (some ⟨b, 0, none⟩) 2 2) :: fr) (⟨b, true, .row [u, v] e (0, 0)⟩ :: H)) : G P c n k ops (⟨some d, .buildSlice T 2 #[(0, x), (1, y)], ty, pos, aft, none⟩ :: rest) fr H := by
  refine G.new (kb := .row [u, v] e (0, 0)) (v := fun b => .slice (some ⟨b, 0, none⟩) 2 2) (fun a w ha hw => ?_) hd hk
  have h2 : Array.range 2 = #[0, 1] := rfl
  simp [execOp, ha.eval hx, ha.eval hy, Instr.buildSlice, underlying, hT, hs, hz, Instr.fill, newRow, h2, hu, hv, Blk.den]
theorem _root_.Bw.V.neB0 {P : Program} {c : Cx} {n : Nat} {fr : SF} {H : SH} {ty t u : TypeId} {x y : Operand} {b : Bool} (hU : P.underlying t = some .bool) (hx : ev fr x = some (.bool b)) (hy : ev fr y = some (.bool b)) : Val P c n (.binOp .neq t x y u) ty fr H (.bool false) := by
  intro a w ha hw dst pos aft g
  have h1 : ∀ d, (Op.equalIn (d + 1) t (.bool b) (.bool b)).run P w = .ok true w := fun d => by simp [Op.equalIn, underlying, hU]
  have h2 : (Op.equal t (.bool b) (.bool b)).run P w = .ok true w := h1 9999
  simp [execOp, ha.eval hx, ha.eval hy, eqGuard, binOp, h2]
theorem f16_same (w : World) (b1 o1 cp1 b2 o2 cp2 : Nat) (xs : List Bool) (hl : xs.length ≤ 1000) (h1 : ∀ i x, xs[i]? = some x → w.cell? ⟨b1, o1 + i, none⟩ = some (.bool x)) (h2 : ∀ i x, xs[i]? = some x → w.cell? ⟨b2, o2 + i, none⟩ = some (.bool x)) : Calls Tryd.prog 16 #[.slice (some ⟨b1, o1, none⟩) xs.length cp1, .slice (some ⟨b2, o2, none⟩) xs.length cp2] w fun e w' => e = .returned (.bool true) ∧ HF w (fun _ => False) [] w' := by
  refine enter (fun _ => False) [] Tryd.func16 rfl Tryd.ntmps16 rfl rfl (HF.start w _) fun c hc => ?_
  subst hc
  refine GC.seq ?_
  refine GC.reg ?_  -- region 0, slices.go:20
  refine G.v (V.asg rfl) rfl ?_
  refine G.nil ?_
  refine GC.seq ?_
  refine GC.seq ?_
  refine GC.reg ?_  -- region 1, slices.go:21
  refine G.v (V.mv rfl) rfl ?_
  refine G.v (V.lenL Tryd.underlying33 rfl) rfl ?_
  refine G.v (V.mv rfl) rfl ?_
  refine G.v (V.lenL Tryd.underlying33 rfl) rfl ?_
  refine G.v (V.neI0 rfl rfl) rfl ?_
  refine G.nil ?_
  refine GC.condF rfl ?_
  refine GC.skip ?_
  refine GC.seq ?_
  refine GC.seq ?_
  refine GC.reg ?_  -- region 3, slices.go:24
  refine G.v (V.mv rfl) rfl ?_
  refine G.v (V.lenL Tryd.underlying33 rfl) rfl ?_
  refine G.v (V.mv rfl) rfl ?_
  refine G.nil ?_
  refine GC.block ?_
  refine GC.loopJ (fun N fr' H' => ∃ i, i + N = xs.length ∧ Sub [(0, .slice (some ⟨b1, o1, none⟩) xs.length cp1), (1, .slice (some ⟨b2, o2, none⟩) xs.length cp2), (12, I (xs.length : Nat)), (13, I ((i : Nat) : Int))] fr' ∧ H' = []) xs.length
    ⟨0, by omega, .cons rfl (.cons rfl (.cons rfl (.cons rfl .nil))), rfl⟩ ?_
  rintro N fr' H' ⟨i, hi, hs, rfl⟩ ih
  refine GC.weak hs ?_
  clear hs
  refine GC.seq ?_
  refine GC.reg ?_  -- region 4, slices.go:24
  refine G.v (V.lt rfl rfl) rfl ?_
  refine G.nil ?_
  refine GC.seq ?_
  refine GC.condD rfl (fun h14 => ?_) (fun h14 => ?_)
  · refine GC.skip ?_
    refine GC.seq ?_
    refine GC.block ?_
    refine GC.seq ?_
    have hlt : i < xs.length := by omega
    obtain ⟨x, hx⟩ : ∃ x, xs[i]? = some x := ⟨_, List.getElem?_eq_getElem hlt⟩
    have hx1 := h1 i x hx
    have hx2 := h2 i x hx
    refine GC.reg ?_  -- region 5, slices.go:24
    refine G.v (V.mv rfl) rfl ?_
    refine G.v (V.asg rfl) rfl ?_
    refine G.nil ?_
    refine GC.seq ?_
    refine GC.regQ mixed (by kernel_rfl) ?_  -- region 6, slices.go:25
    refine GQ.v (V.mv rfl) rfl ?_
    refine GQ.v (V.mv rfl) rfl ?_
    refine GQ.v (V.ia (i := i) Tryd.underlying33 Tryd.sizeOf4 rfl rfl hlt) rfl ?_
    refine GQ.v (V.ldC (v := .bool x) Tryd.isAgg4 rfl (by rw [Nat.mul_one]; exact hx1) id) rfl ?_
    refine GQ.v (V.mv rfl) rfl ?_
    refine GQ.v (V.mv rfl) rfl ?_
    refine GQ.v (V.ia (i := i) Tryd.underlying33 Tryd.sizeOf4 rfl rfl hlt) rfl ?_
    refine GQ.v (V.ldC (v := .bool x) Tryd.isAgg4 rfl (by rw [Nat.mul_one]; exact hx2) id) rfl ?_
    refine GQ.v (V.neB0 (b := x) Tryd.underlying4 rfl rfl) rfl ?_
    refine GQ.nil ?_
    refine GC.condF rfl ?_
    refine GC.skip ?_
    refine GC.inBlock ?_
    refine GC.reg ?_  -- region 8, slices.go:24
    refine G.v (V.addI (r := ((i + 1 : Nat) : Int)) rfl rfl rfl (by omega) (by omega)) rfl ?_
    refine G.v (V.mv rfl) rfl ?_
    refine G.nil ?_
    exact ih (N - 1) _ _ (by omega) ⟨i + 1, by omega, .cons rfl (.cons rfl (.cons rfl (.cons rfl .nil))), rfl⟩
  refine GC.exit rfl ?_
  refine GC.seq ?_
  refine GC.reg ?_  -- region 9, slices.go:29
  refine G.v (V.asg rfl) rfl ?_
  refine G.nil ?_
  exact GC.ret1 rfl rfl fun w' hw' => ⟨rfl, hw'⟩

def awk : List TF := [⟨[47, 97, 66, 67], [47, 65, 98, 99], true⟩, ⟨[47, 98], [], false⟩]
theorem awk_told : ∀ x ∈ awk, Told [47, 65, 98, 99] x.q x.t x.f := by
  intro x hx
  simp only [awk, List.mem_cons, List.not_mem_nil, or_false] at hx
  rcases hx with rfl | rfl
  · exact .inl ⟨rfl, by decide, by decide, rfl, rfl⟩
  · exact .inr ⟨by decide, rfl, rfl⟩
theorem f8_any (w : World)  : Calls Tryd.prog 8 #[] w fun e w' => e = .returned (.bool true) ∧ HF w (fun _ => False) [] w' := by
  refine enter (fun _ => False) [] Tryd.func8 rfl Tryd.ntmps8 rfl rfl (HF.start w _) fun c hc => ?_
  subst hc
  refine GC.seq ?_
  refine GC.reg ?_  -- region 0, ginmore.go:12
  refine G.v (V.asg rfl) rfl ?_
  refine G.nil ?_
  refine GC.seq ?_
  refine GC.reg ?_  -- region 1, ginmore.go:13
  refine G.bs (BS.one Tryd.underlying32 Tryd.sizeOf9 Tryd.zeroValue9 (v := S [47, 65, 98, 99]) rfl) rfl rfl (fun ab hab => ?_)
  refine G.bs2 (u := S [47, 97, 66, 67]) (v := S [47, 98]) Tryd.underlying32 Tryd.sizeOf9 Tryd.zeroValue9 rfl rfl rfl rfl rfl (fun qb hqb => ?_)
  refine G.callW (fun v H2 => ∃ svT svF HT HB, v = .tuple #[svT, svF, .bool true] ∧ Own 9 1 svT awk.length (awk.map fun x => S x.t) HT ∧ Own 4 1 svF awk.length (awk.map fun x => Value.bool x.f) HB ∧ H2 = HT ++ HB) Tryd.call15 rfl rfl (fun w1 hw1 => ?_) ?_
  · refine (f15_any w1 ab 0 1 qb 0 2 [47, 65, 98, 99] awk rfl (by unfold Plain; decide) (by decide) (by decide) awk_told (by decide) (cell_row hw1 (wf := true) (l := [S [47, 65, 98, 99]]) (t := 9) (fz := (0, 0)) (by simp) rfl) (fun i x hx => ?_)).mono fun e w' ⟨svT, svF, HT, HB, h1, h2, h3, h4⟩ => ⟨_, _, h1, ?_, svT, svF, HT, HB, rfl, h2, h3, rfl⟩
    · rw [Nat.zero_add]
      refine cell_row hw1 (wf := true) (l := [S [47, 97, 66, 67], S [47, 98]]) (t := 9) (fz := (0, 0)) (by simp) ?_
      match i, hx with
      | 0, hx => cases hx; rfl
      | 1, hx => cases hx; rfl
      | i + 2, hx => simp [awk] at hx
    · have h5 := hw1.after0 h4 (fun e he => by rcases List.mem_append.1 he with he | he; exact h2.w e he; exact h3.w e he)
      exact h5.sub (List.sublist_append_left _ _)
  rintro v H2 ⟨svT, svF, HT, HB, rfl, hownT, hownF, rfl⟩
  refine G.v (V.mv rfl) rfl ?_
  refine G.v (V.ex rfl rfl) rfl ?_
  refine G.v (V.ex rfl rfl) rfl ?_
  refine G.v (V.ex rfl rfl) rfl ?_
  refine G.v (V.asg rfl) rfl ?_
  refine G.v (V.asg rfl) rfl ?_
  refine G.v (V.asg rfl) rfl ?_
  refine G.nil ?_
  refine GC.seq ?_
  obtain ⟨tb, tc, tsp, rfl, rfl⟩ := hownT.at (i := 0) (by decide)
  obtain ⟨fb, fc, fsp, rfl, rfl⟩ := hownF.at (i := 0) (by decide)
  refine GC.reg ?_  -- region 2, ginmore.go:14
  refine G.callP (v := S [47, 97, 47, 99]) Tryd.call9 rfl rfl (fun w1 hw1 => (f9_any w1 [47, 47, 97, 47, 46, 47, 98, 47, 46, 46, 47, 99] (by decide)).mono fun e w' h => by rw [show Gs.clean [47, 47, 97, 47, 46, 47, 98, 47, 46, 46, 47, 99] = [47, 97, 47, 99] by decide] at h; exact h) ?_
  refine G.v (V.eqS rfl rfl) rfl ?_
  refine G.v (V.mv rfl) rfl ?_
  refine G.bc 13 rfl (fun h13 => ?_) (fun h13 => ?_)
  · refine G.vg rfl rfl (V.mv rfl) rfl ?_
    refine G.v (V.pickT rfl rfl) rfl ?_
    refine G.v (V.mv rfl) rfl ?_
    refine G.bc 16 rfl (fun h16 => ?_) (fun h16 => ?_)
    · refine G.vg rfl rfl (V.mv rfl) rfl ?_
      refine G.gd rfl rfl ?_
      refine G.bs2 (u := .bool true) (v := .bool false) Tryd.underlying33 Tryd.sizeOf4 Tryd.zeroValue4 rfl rfl rfl rfl rfl (fun eb heb => ?_)
      refine G.gd rfl rfl ?_
      refine G.callP (v := .bool true) Tryd.call16 rfl rfl (fun w1 hw1 => ?_) ?_
      · refine f16_same w1 fb 0 fc eb 0 2 [true, false] (by decide) (fun i x hx => ?_) (fun i x hx => ?_)
        · rw [Nat.zero_add]
          refine cell_row hw1 (wf := true) (l := [.bool true, .bool false] ++ fsp) (t := 4) (fz := (0, 0)) (.tail _ (List.mem_append_right _ (.head _))) ?_
          match i, hx with
          | 0, hx => cases hx; rfl
          | 1, hx => cases hx; rfl
          | i + 2, hx => simp at hx
        · rw [Nat.zero_add]
          refine cell_row hw1 (wf := true) (l := [.bool true, .bool false]) (t := 4) (fz := (0, 0)) (.head _) ?_
          match i, hx with
          | 0, hx => cases hx; rfl
          | 1, hx => cases hx; rfl
          | i + 2, hx => simp at hx
      refine G.v (V.pickT rfl rfl) rfl ?_
      refine G.v (V.mv rfl) rfl ?_
      refine G.bc 21 rfl (fun h21 => ?_) (fun h21 => ?_)
      · refine G.vg rfl rfl (V.mv rfl) rfl ?_
        refine G.vg rfl rfl (V.ia (i := 0) Tryd.underlying32 Tryd.sizeOf9 rfl rfl (by decide)) rfl ?_
        refine G.vg rfl rfl (V.ld (b := tb) (off := 0 + 0 * 1) (wf := true) (l := [S [47, 65, 98, 99], S []] ++ tsp) (T := 9) (fz := (0, 0)) (v := S [47, 65, 98, 99]) Tryd.isAgg9 rfl (.tail _ (List.mem_append_left _ (.head _))) rfl) rfl ?_
        refine G.vg rfl rfl (V.eqS rfl rfl) rfl ?_
        refine G.v (V.pickT rfl rfl) rfl ?_
        refine G.v (V.asg rfl) rfl ?_
        refine G.nil ?_
        exact GC.ret1 rfl rfl fun w' hw' => ⟨rfl, hw'.sub (List.nil_sublist _)⟩
      · exact absurd h21 (by decide)
    · exact absurd h16 (by decide)
  · exact absurd h13 (by decide)

end Go.Proofs
