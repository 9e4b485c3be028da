/- From a law to its row. -/
import Derived.Test.YtdjnbehdiohggaaDoorCards
import Derived.Test.YtdjnbehdiohggaaDoorTie
import Derived.Test.YtdjnbehdiohggaaDoorP01
import Derived.WalkKit
import Derived.ProofKit
import Derived.OpenShut
import Derived.SliceStrings
import Derived.Carry
import Derived.ChangeSame
import Derived.Deep.DeepHandedRow
import Derived.Deep.DeepWitnessRowRef
import Derived.Lib.LaidTab
import Derived.Lib.LaidIn
import Derived.Great.CaseRows
/- From a law's walk to its row: what the arguments are in memory; what is left as it was. -/
namespace Go.Proofs.YtdjnbehdiohggaaDoor
set_option maxRecDepth 100000
open Go Bw Go.ChangeShapes Go.WideShapes Go.ChangeAt Go.RowKit Go.WideElems
theorem tryd_own : ownKnob Tryd.prog.godebug = none := by kernel_rfl
theorem tryd_lo : laidOutB Tryd.prog = true := by kernel_rfl
theorem tryd_c9 : Tryd.prog.cellsOf 9 = 1 := by kernel_rfl
theorem below_of {W W' : World} (h : HF W (fun _ => False) [] W') : Below W.heap.size W W' := ⟨h.os, h.tape, h.output, h.size, fun b hb => h.frame b hb id⟩
theorem trodAll_stays {H : Type} {enc : TypeId × Value → H} {P : Program} (lo : laidOutB P = true) {W W' : World} {sp' : Nat → Bool} : ∀ (ts : List TypeId) (vs : List Value) (ds : List (DataW H)) (ps : List MemPlace), ts.all (fun t => P.readableRec t && decide (t < P.types.size)) = true →
  DataW.TrodAll enc P W 0 (fun _ => true) true ts vs ds ps → (∀ p ∈ ps, W.sameAt W' p) → (∀ p ∈ ps, sp' p.block = true) → DataW.TrodAll enc P W' 0 sp' true ts vs ds ps := by
 intro ts
 induction ts with
 | nil =>
  intro vs ds ps _ h _ _
  cases vs with
  | nil => cases ds with
   | nil => exact h
   | cons => exact h.elim
  | cons => cases ds <;> exact h.elim
 | cons t ts ih =>
  intro vs ds ps hb h hs hsp
  cases vs with
  | nil => cases ds <;> exact h.elim
  | cons v vs =>
   cases ds with
   | nil => exact h.elim
   | cons d ds =>
    obtain ⟨p, q, h1, h2, rfl⟩ := h
    simp only [List.all_cons, Bool.and_eq_true, decide_eq_true_eq] at hb
    exact ⟨p, q, Trod_stays lo hb.1.1 hb.1.2 h1 (fun x hx => hs x (List.mem_append_left _ hx)) (fun x hx => hsp x (List.mem_append_left _ hx)),
     ih vs ds q hb.2 h2 (fun x hx => hs x (List.mem_append_right _ hx)) (fun x hx => hsp x (List.mem_append_right _ hx)), rfl⟩
theorem ok_true {W' : World} : Value.okWide Tryd.prog W' .any 0 4 (.bool true) := okWide_bool_mk Tryd.underlying4 _
/-- true, and everything reads as it did -/
theorem post_law {H : Type} {enc : TypeId × Value → H} {f : Func} {s : ChangeSpec} {apart fresh handsOn again : Bool} {W W' : World} {args : Array Value} {ds gs : List (DataW H)} {before : List MemPlace}
  (hW : DataW.Whole enc Tryd.prog f.params.toList s.vars apart W args.toList ds gs before) (hv : s.vars = []) (hr : f.resultTypes = #[4]) (hf : s.fn H (ds ++ gs) = { results := [.lit (.bool true)], args := ds })
  (hb : f.params.toList.all (fun t => Tryd.prog.readableRec t && decide (t < Tryd.prog.types.size)) = true) (hB : Below W.heap.size W W') : s.post enc Tryd.prog f apart fresh handsOn again W args (.bool true) W' := by
 have hW' := hW
 obtain ⟨pa, pv, hA, hV, rfl, hz, hn⟩ := hW
 have hg : gs = [] ∧ pv = [] := by
  rw [hv] at hV
  cases gs with
  | nil => exact ⟨rfl, hV⟩
  | cons g r => exact absurd hV (by intro h; cases h)
 obtain ⟨rfl, rfl⟩ := hg
 have hlt : ∀ p ∈ pa, p.block < W.heap.size := fun p hp => hA.lt p hp
 have hsame : ∀ p ∈ pa, W.sameAt W' p := fun p hp => hB.same (hlt p hp)
 have hres : ∀ (b : Nat) (sp : Nat → Bool) (hd : Bool), DataW.TrodAll enc Tryd.prog W' b sp hd f.resultTypes.toList ((Value.bool true).resultList f.resultTypes.size) (s.fn H (ds ++ [])).results [] := fun b sp hd => by
  rw [hf, hr]
  exact trodAll_mk1 (shut_bool Tryd.underlying4 true)
 have hargs : ∀ sp : Nat → Bool, (∀ p ∈ pa, sp p.block = true) → DataW.TrodAll enc Tryd.prog W' 0 sp true f.params.toList args.toList (s.fn H (ds ++ [])).args pa := fun sp hsp => by
  rw [hf]; exact trodAll_stays tryd_lo _ _ _ _ hb hA hsame hsp
 have hvars : ∀ sp : Nat → Bool, DataW.TrodVars enc Tryd.prog W' sp s.vars (s.fn H (ds ++ [])).vars [] := fun sp => by
  rw [hf, hv]; rfl
 refine ⟨ds, [], pa ++ [], [], pa, [], hW', hres _ _ _, hargs _ (fun p hp => by simpa using hlt p hp), hvars _, World.keptBut_mono (fun p hp => ⟨hp, .inr (by simpa using hp)⟩) (hB.frame _), fun _ => ?_⟩
 refine ⟨ok_one hr rfl ok_true, _, _, ([] ++ pa) ++ [], ⟨[] ++ pa, [], trodAll_append (hargs _ (fun _ _ => rfl)) (hres _ _ _), hvars _, rfl, ?_, ?_⟩, ?_⟩
 ·intro b off hp
  have hp' : MemPlace.cell b off ∈ pa := by simpa using hp
  rw [hB.frozen (p := ⟨b, off, none⟩) (hlt _ hp')]
  exact hz b off (by simpa using hp)
 ·intro ha
  have := hn ha
  simpa using this
 ·intro p hp _
  simpa using hp
section
variable {H : Type} {enc : TypeId × Value → H} {P : Program} {W : World} {b0 : Nat} {v : Value} {d : DataW H} {ps : List MemPlace}
theorem open_str {t : TypeId} (ht : P.underlying t = some .string) (hval : Value.okWide P W .any b0 t v) : ∃ l, v = S l := by
 obtain ⟨s, rfl⟩ := okWide_string ht hval
 exact ⟨s.data.toList, S_of s⟩
end
/-! ### a world in which the listed variables are laid -/
def accT : List Int := [128, 191, 160, 191, 128, 159, 144, 191, 128, 143, 0, 0, 0, 0, 0, 0, 0, 0, 0, 0, 0, 0, 0, 0, 0, 0, 0, 0, 0, 0, 0, 0]
def foldT : List Int := [0, 1, 2, 3, 4, 5, 6, 7, 8, 9, 10, 11, 12, 13, 14, 15, 16, 17, 18, 19, 20, 21, 22, 23, 24, 25, 26, 27, 28, 29, 30, 31, 32, 33, 34, 35, 36, 37, 38, 39, 40, 41, 42, 43, 44, 45, 46, 47, 48, 49, 50, 51, 52, 53, 54, 55, 56, 57, 58, 59, 60, 61, 62, 63, 64, 97, 98, 99, 100, 101, 102, 103, 104, 105, 106, 107, 108, 109, 110, 111, 112, 113, 114, 115, 116, 117, 118, 119, 120, 121, 122, 91, 92, 93, 94, 95, 96, 65, 66, 67, 68, 69, 70, 71, 72, 73, 74, 8490, 76, 77, 78, 79, 80, 81, 82, 383, 84, 85, 86, 87, 88, 89, 90, 123, 124, 125, 126, 127]
def orbT : List Int := [75, 107, 83, 115, 107, 8490, 115, 383, 181, 924, 197, 229, 223, 7838, 229, 8491, 304, 304, 305, 305, 383, 83, 452, 453, 453, 454, 454, 452, 455, 456, 456, 457, 457, 455, 458, 459, 459, 460, 460, 458, 497, 498, 498, 499, 499, 497, 837, 921, 912, 8147, 914, 946, 917, 949, 920, 952, 921, 953, 922, 954, 924, 956, 928, 960, 929, 961, 931, 962, 934, 966, 937, 969, 944, 8163, 946, 976, 949, 1013, 952, 977, 953, 8126, 954, 1008, 956, 181, 960, 982, 961, 1009, 962, 963, 963, 931, 966, 981, 969, 8486, 976, 914, 977, 1012, 981, 934, 982, 928, 1008, 922, 1009, 929, 1012, 920, 1013, 917, 1042, 1074, 1044, 1076, 1054, 1086, 1057, 1089, 1058, 1090, 1066, 1098, 1074, 7296, 1076, 7297, 1086, 7298, 1089, 7299, 1090, 7300, 1098, 7302, 1122, 1123, 1123, 7303, 7296, 1042, 7297, 1044, 7298, 1054, 7299, 1057, 7300, 7301, 7301, 1058, 7302, 1066, 7303, 1122, 7304, 42570, 7776, 7777, 7777, 7835, 7835, 7776, 7838, 223, 8126, 837, 8147, 912, 8163, 944, 8486, 937, 8490, 75, 8491, 197, 42570, 42571, 42571, 7304, 64261, 64262, 64262, 64261]
noncomputable def low : Nat := (World.holding Tryd.prog default ⟨#[], #[], []⟩).heap.size
noncomputable def laidWorld (os : Os) : World :=
 let w0 := World.holding Tryd.prog os ⟨#[.cells (orbT.map fun z => Value.int .u16 z).toArray 120, .cells (Lib.caseT.flatMap Lib.cells5).toArray 134], #[], []⟩
 let put (h : Array Obj) (g : Nat) (cs : Array Value) : Array Obj := h.modify g fun
  | .cells _ t frozen => .cells cs t frozen
  | o => o
 let h1 := put w0.heap 5 (accT.map fun z => Value.int .u8 z).toArray
 let h2 := put h1 1 (foldT.map fun z => Value.int .u16 z).toArray
 let h3 := put h2 2 #[.slice (some ⟨low, 0, none⟩) 94 94]
 let h4 := put h3 3 #[.slice (some ⟨low + 1, 0, none⟩) Lib.caseT.length Lib.caseT.length]
 let h5 := put h4 4 (Lib.firstTab.map fun z => Value.int .u8 z).toArray
 { w0 with heap := h5 }
noncomputable abbrev mem0 (os : Os) (args : Array Value) : World := ((laidWorld os).forCall (fun _ _ => 0) ⟨#[], args, []⟩).memory
theorem ctypes : Go.Great.CTypes Tryd.prog 123 134 132 89 21 := ⟨Tryd.underlying123, by kernel_rfl, Tryd.underlying132, Tryd.underlying89, Tryd.underlying21, by kernel_rfl, by kernel_rfl, by kernel_rfl, by kernel_rfl⟩
theorem case_eq : Rows.laid_unicode_CaseRanges = .slice (Lib.caseT.map Lib.rowData) [] := by kernel_rfl
theorem piece1 (os : Os) (args : Array Value) : LaidIn Tryd.prog (mem0 os args) [("unicode/utf8.acceptRanges", Rows.laid_unicode_utf8_acceptRanges), ("unicode.asciiFold", Rows.laid_unicode_asciiFold), ("unicode.caseOrbit", Rows.laid_unicode_caseOrbit)] [5, 1, 2, low] :=
 LaidIn.of_run _ 8 (by kernel_rfl) (by kernel_rfl) (by kernel_rfl) (by kernel_rfl)
theorem piece2 (os : Os) (args : Array Value) : LaidIn Tryd.prog (mem0 os args) [("unicode.CaseRanges", Rows.laid_unicode_CaseRanges)] [3, low + 1] := by
 rw [case_eq]
 exact Go.Great.laidIn_case ctypes Lib.caseT (by kernel_rfl) (by kernel_rfl) (of_decide_eq_true (by kernel_rfl)) (by kernel_rfl) (tg := 123) (tb := 134) (by kernel_rfl) (by kernel_rfl) (by decide +kernel)
theorem piece3 (os : Os) (args : Array Value) : LaidIn Tryd.prog (mem0 os args) [("unicode/utf8.first", Rows.laid_unicode_utf8_first)] [4] :=
 LaidIn.of_run _ 8 (by kernel_rfl) (by kernel_rfl) (by kernel_rfl) (by kernel_rfl)
theorem laid_all (os : Os) (args : Array Value) : laidMet Tryd.prog [("unicode/utf8.acceptRanges", Rows.laid_unicode_utf8_acceptRanges), ("unicode.asciiFold", Rows.laid_unicode_asciiFold), ("unicode.caseOrbit", Rows.laid_unicode_caseOrbit), ("unicode.CaseRanges", Rows.laid_unicode_CaseRanges), ("unicode/utf8.first", Rows.laid_unicode_utf8_first)] (mem0 os args) :=
 (((piece1 os args).append (piece2 os args) (by kernel_rfl)).append (piece3 os args) (by kernel_rfl)).met
end Go.Proofs.YtdjnbehdiohggaaDoor
