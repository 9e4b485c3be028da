/-
  DERIVED. GIVEN WITH THE SEED: THE CARDS: each row of YtdjnbehdiohggaaDoorRows.lean that lists a variable, with what it lists TIED to the program's text (the seventh form; the later family's looks); each row that meets fmt, with fmt's text TOLD by the authors' own Lean function (tested against real Go, not proved from fmt's source: count such statements apart). THE CARD IS WHAT COUNTS. Prove the row's statement (the work); the ties are given (YtdjnbehdiohggaaDoorTie.lean); close each card by the builder's one call (the guide's Derived/Test/ToyasCard.lean, 'card_holds'). Laid BY PROGRAM, IN A SANDBOX (cutbox-door.mjs). By AI agents, Wed Nov 11 2026. No macro, syntax, notation, axiom, sorry.
-/
import Derived.Test.YtdjnbehdiohggaaDoorRows
import GoSem.ClaimSeven
namespace Go.Proofs.YtdjnbehdiohggaaDoor
namespace Rows

/-- THE TIED CARD OF 'laws.FnGinCaseFound'. -/
def fnGinCaseFoundCard : Claim7 := { stood := { row := fnGinCaseFoundRow, standIns := [], harness := (true, "93bca4e481f41cbc870189beaafbdd21599cc8f5ee7b494ed1328ab0942be840"), looks := false }, kinds := [], alts := [], laidByText := true, laidKinds := [.data, .data, .data, .pinned, .pinned], laidTests := true, laidLooks := .later }
def FnGinCaseFoundCardSaid : Prop := Claim7.holds Tryd.pinned (.plain (OpenSpec.ofChange fnGinCaseFoundSpec)) fnGinCaseFoundCard

/-- THE TIED CARD OF 'laws.FnGinCase'. -/
def fnGinCaseCard : Claim7 := { stood := { row := fnGinCaseRow, standIns := [], harness := (true, "93bca4e481f41cbc870189beaafbdd21599cc8f5ee7b494ed1328ab0942be840"), looks := false }, kinds := [], alts := [], laidByText := true, laidKinds := [.data, .data, .data, .pinned, .pinned], laidTests := true, laidLooks := .later }
def FnGinCaseCardSaid : Prop := Claim7.holds Tryd.pinned (.plain (OpenSpec.ofChange fnGinCaseSpec)) fnGinCaseCard

/-- THE SECOND FORM's CARD OF 'laws.FnGinCaseFound'. -/
def fnGinCaseFoundUptoCard : Claim7 := { stood := { row := fnGinCaseFoundUptoRow, standIns := [], harness := (true, "93bca4e481f41cbc870189beaafbdd21599cc8f5ee7b494ed1328ab0942be840"), looks := false }, kinds := [], alts := [], laidByText := true, laidKinds := [.data, .data, .data, .pinned, .pinned], laidTests := true, laidLooks := .later }
def FnGinCaseFoundUptoCardSaid : Prop := Claim7.holds Tryd.pinned (.plain (OpenSpec.upto fnGinCaseFoundSpec)) fnGinCaseFoundUptoCard

/-- THE SECOND FORM's CARD OF 'laws.FnGinCase'. -/
def fnGinCaseUptoCard : Claim7 := { stood := { row := fnGinCaseUptoRow, standIns := [], harness := (true, "93bca4e481f41cbc870189beaafbdd21599cc8f5ee7b494ed1328ab0942be840"), looks := false }, kinds := [], alts := [], laidByText := true, laidKinds := [.data, .data, .data, .pinned, .pinned], laidTests := true, laidLooks := .later }
def FnGinCaseUptoCardSaid : Prop := Claim7.holds Tryd.pinned (.plain (OpenSpec.upto fnGinCaseSpec)) fnGinCaseUptoCard
end Rows
end Go.Proofs.YtdjnbehdiohggaaDoor
