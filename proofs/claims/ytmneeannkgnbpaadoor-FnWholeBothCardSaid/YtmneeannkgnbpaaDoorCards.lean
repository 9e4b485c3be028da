/-
  DERIVED. GIVEN WITH THE SEED: THE CARDS: each row of YtmneeannkgnbpaaDoorRows.lean that lists a variable, with what it lists TIED to the program's text (the seventh form; the later family's looks); each row that meets fmt, with fmt's text TOLD by the authors' own Lean function (tested against real Go, not proved from fmt's source: count such statements apart). THE CARD IS WHAT COUNTS. Prove the row's statement (the work); the ties are given (YtmneeannkgnbpaaDoorTie.lean); close each card by the builder's one call (the guide's Derived/Test/ToyasCard.lean, 'card_holds'). Laid BY PROGRAM, IN A SANDBOX (cutbox-door.mjs). By AI agents, Wed Nov 11 2026. No macro, syntax, notation, axiom, sorry.
-/
import Derived.Test.YtmneeannkgnbpaaDoorRows
import GoSem.ClaimSeven
namespace Go.Proofs.YtmneeannkgnbpaaDoor
namespace Rows

/-- THE TIED CARD OF 'laws.FnWholeBoth'. -/
def fnWholeBothCard : Claim7 := { stood := { row := fnWholeBothRow, standIns := [], harness := (true, "22b0c213e49e4e4b34d322e8d5953ea3183da68c09373c5850b18d9089a8a4b2"), looks := false }, kinds := [], alts := [], laidByText := true, laidKinds := [.sentinel], laidTests := true, laidLooks := .later }
def FnWholeBothCardSaid : Prop := Claim7.holds Tryd.pinned (.plain (OpenSpec.ofChange fnWholeBothSpec)) fnWholeBothCard

/-- THE SECOND FORM's CARD OF 'laws.FnWholeBoth'. -/
def fnWholeBothUptoCard : Claim7 := { stood := { row := fnWholeBothUptoRow, standIns := [], harness := (true, "22b0c213e49e4e4b34d322e8d5953ea3183da68c09373c5850b18d9089a8a4b2"), looks := false }, kinds := [], alts := [], laidByText := true, laidKinds := [.sentinel], laidTests := true, laidLooks := .later }
def FnWholeBothUptoCardSaid : Prop := Claim7.holds Tryd.pinned (.plain (OpenSpec.upto fnWholeBothSpec)) fnWholeBothUptoCard
end Rows
end Go.Proofs.YtmneeannkgnbpaaDoor
