/- From a law to its row. -/
import Derived.Test.YtdjnbehdiohggaaDoorRowb
import Derived.Test.YtdjnbehdiohggaaDoorP17
import Derived.Lib.LaidU8T
import Derived.Test.YtdjnbehdiohggaaDoorP01
/- From a row's listed variables to Go's own tables in memory. -/
set_option maxRecDepth 100000
namespace Go.Proofs.YtdjnbehdiohggaaDoor
open Go Bw Go.ChangeShapes Go.WideShapes Go.ChangeAt Go.RowKit Go.WideElems Go.Lib
theorem tryd_c84 : Tryd.prog.cellsOf 84 = 1 := by kernel_rfl
theorem tryd_c120 : Tryd.prog.cellsOf 120 = 2 := by kernel_rfl
def u8ren : Go.Shelf.Ren := ⟨fun f => f, fun | 119 => 125 | 138 => 127 | 139 => 128 | t => t, fun | 3 => 4 | 4 => 5 | g => g⟩
theorem u8types : U8Types Tryd.prog u8ren where
 t5 := Tryd.underlying5
 t119 := Tryd.underlying125
 t138 := Tryd.underlying127
 t139 := Tryd.underlying128
theorem u8extra : U8Extra Tryd.prog u8ren where
 n3 := by kernel_rfl
 n4 := by kernel_rfl
 y3 := by kernel_rfl
 y4 := by kernel_rfl
 c5 := by kernel_rfl
 c119 := by kernel_rfl
 c138 := by kernel_rfl
theorem af_eq : Rows.laid_unicode_asciiFold = (tabData .u16 ((List.range 128).map fun i => (afN i : Int)) : DataW Unit) := by kernel_rfl
theorem co_eq : Rows.laid_unicode_caseOrbit = (.slice (Proofs.orbT.map fun x => .agg ([(x.1 : Int), (x.2 : Int)].map fun z => .lit (.int .u16 z))) [] : DataW Unit) := by kernel_rfl
theorem first_eq : Rows.laid_unicode_utf8_first = firstData := by kernel_rfl
theorem acc_eq : Rows.laid_unicode_utf8_acceptRanges = acceptData := by kernel_rfl
theorem open_laid {W : World} (hL : laidMet Tryd.prog Rows.fnGinCaseRow.laid W) : LaidF W fun _ => False := by
 have h1 : VarReads Tryd.prog W "unicode.asciiFold" Rows.laid_unicode_asciiFold := laidMet.reads hL (.tail _ (.head _))
 have h2 : VarReads Tryd.prog W "unicode.caseOrbit" Rows.laid_unicode_caseOrbit := laidMet.reads hL (m2 (.head _))
 have h3 : VarReads Tryd.prog W "unicode/utf8.first" Rows.laid_unicode_utf8_first := laidMet.reads hL (m4 (.head _))
 have h4 : VarReads Tryd.prog W "unicode/utf8.acceptRanges" Rows.laid_unicode_utf8_acceptRanges := laidMet.reads hL (.head _)
 rw [af_eq] at h1
 rw [co_eq] at h2
 rw [first_eq] at h3
 rw [acc_eq] at h4
 refine ⟨fun i hi => ?_, ?_, utf8Tabs_of_readsT u8types u8extra h3 h4, id, id, id, id⟩
 ·obtain ⟨g, t, cs, fuel, p, hg, hty, hvar, hd⟩ := h1
  obtain rfl := Option.some.inj ((show Tryd.prog.globalNamed "unicode.asciiFold" = some 1 by kernel_rfl).symm.trans hg)
  obtain rfl := Option.some.inj ((show (Tryd.prog.globals[1]?).map (·.type) = some 116 by kernel_rfl).symm.trans hty)
  have hcs := cells_of_tab Tryd.underlying116 Tryd.underlying84 tryd_c84 (by kernel_rfl) hd
  rw [World.var?_cell hg hvar i, ← Array.getElem?_toList, hcs]
  simp [hi]
 ·obtain ⟨g, t, cs, fuel, p, hg, hty, hvar, hd⟩ := h2
  obtain rfl := Option.some.inj ((show Tryd.prog.globalNamed "unicode.caseOrbit" = some 2 by kernel_rfl).symm.trans hg)
  obtain rfl := Option.some.inj ((show (Tryd.prog.globals[2]?).map (·.type) = some 117 by kernel_rfl).symm.trans hty)
  rcases DataW.trod_slice Tryd.underlying117 hd with ⟨_, g2⟩ | ⟨a, len, cap, elems, rest, n, _, g1, hx, _, hl, _, hlen, hel, _, _⟩
  ·exact absurd (congrArg Prod.fst g2) (by intro h; cases h)
  ·have he : elems.map (·.1) = Proofs.orbT.map fun x => (.agg ([(x.1 : Int), (x.2 : Int)].map fun z => .lit (.int .u16 z)) : DataW Unit) := by
    have h := congrArg Prod.fst hx
    simp only [DataW.slice.injEq] at h
    exact h.1.symm
   have hl94 : len = 94 := by
    have h := congrArg List.length he
    rw [List.length_map, List.length_map, hlen] at h
    exact h
   have cell0 : ∀ i x, Proofs.orbT[i]? = some x → W.cell? (a.add (i * 2)) = some (.int .u16 (x.1 : Nat)) ∧ W.cell? (a.add (i * 2 + 1)) = some (.int .u16 (x.2 : Nat)) := fun i x hix => by
    have hi : i < len := by
     have h := (List.getElem?_eq_some_iff.1 hix).1
     have h2 : Proofs.orbT.length = 94 := rfl
     omega
    have hb := hel i hi
    rw [List.getElem?_eq_getElem (by omega), tryd_c120, Option.bind_eq_some_iff] at hb
    obtain ⟨cs2, hcells, hy⟩ := hb
    have hei : elems[i].1 = (.agg ([(x.1 : Int), (x.2 : Int)].map fun z => .lit (.int .u16 z)) : DataW Unit) := by
     have h := congrArg (·[i]?) he
     simp only [List.getElem?_map, hix, Option.map_some] at h
     rw [List.getElem?_eq_getElem (by omega)] at h
     exact Option.some.inj h
    have hy2 : DataW.trod (fun _ => ()) Tryd.prog W 0 (fun _ => true) false n 120 cs2 = some (.agg ([(x.1 : Int), (x.2 : Int)].map fun z => .lit (.int .u16 z)), elems[i].2) := by
     rw [hy, ← hei]
    have hcs := ints_of_struct Tryd.underlying120 (fun j f hj => by
     match j, hj with
     | 0, hj => simp at hj; subst hj; exact ⟨Tryd.underlying84, rfl, tryd_c84⟩
     | 1, hj => simp at hj; subst hj; exact ⟨Tryd.underlying84, rfl, tryd_c84⟩
     | j + 2, hj => simp at hj) tryd_c120 hy2
    have c0 := (World.cells?_some hcells).2.2 0 (by decide)
    have c1 := (World.cells?_some hcells).2.2 1 (by decide)
    rw [hcs] at c0 c1
    rw [Addr.add_add] at c0 c1
    exact ⟨c0, c1⟩
   obtain ⟨b, o, rfl⟩ := addr_of (show W.cell? a = _ by simpa [Addr.add] using (cell0 0 _ rfl).1)
   subst hl94
   refine ⟨b, o, cap, ?_, fun i x hix => ?_, id⟩
   ·rw [World.var?_cell hg hvar 0, ← Array.getElem?_toList, g1]; rfl
   ·obtain ⟨h1, h2⟩ := cell0 i x hix
    rw [add_at] at h1 h2
    exact ⟨h1, h2⟩
end Go.Proofs.YtdjnbehdiohggaaDoor
