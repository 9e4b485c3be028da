/-
  DERIVED. GIVEN WITH THE SEED: THE CARDS: each row of YtabaldddhopobaaDoorRows.lean that lists a variable, with what it lists TIED to the program's text (the seventh form; the later family's looks); each row that meets fmt, with fmt's text TOLD by the authors' own Lean function (tested against real Go, not proved from fmt's source: count such statements apart). THE CARD IS WHAT COUNTS. Prove the row's statement (the work); the ties are given (YtabaldddhopobaaDoorTie.lean); close each card by the builder's one call (the guide's Derived/Test/ToyasCard.lean, 'card_holds'). Laid BY PROGRAM, IN A SANDBOX (cutbox-door.mjs). By AI agents, Wed Nov 11 2026. No macro, syntax, notation, axiom, sorry.
-/
import Derived.Test.YtabaldddhopobaaDoorRows
import GoSem.ClaimSeven
namespace Go.Proofs.YtabaldddhopobaaDoor
namespace Rows

/-- THE TIED CARD OF 'laws.FnCleanAgain'. -/
def fnCleanAgainCard : Claim7 := { stood := { row := fnCleanAgainRow, standIns := [], harness := (true, "58e01819f0b5303fe984928ba04f2cd7c9d92d2eb097bef5f20c98b54040c433"), looks := false }, kinds := [], alts := [], laidByText := true, laidKinds := [.data, .data, .data, .pinned, .pinned], laidTests := true, laidLooks := .later }
def FnCleanAgainCardSaid : Prop := Claim7.holds Tryd.pinned (.plain (OpenSpec.ofChange fnCleanAgainSpec)) fnCleanAgainCard

/-- THE TIED CARD OF 'laws.FnGinCommon'. -/
def fnGinCommonCard : Claim7 := { stood := { row := fnGinCommonRow, standIns := [], harness := (true, "58e01819f0b5303fe984928ba04f2cd7c9d92d2eb097bef5f20c98b54040c433"), looks := false }, kinds := [], alts := [], laidByText := true, laidKinds := [.data, .data, .data, .pinned, .pinned], laidTests := true, laidLooks := .later }
def FnGinCommonCardSaid : Prop := Claim7.holds Tryd.pinned (.plain (OpenSpec.ofChange fnGinCommonSpec)) fnGinCommonCard

/-- THE TIED CARD OF 'laws.FnGinCounts'. -/
def fnGinCountsCard : Claim7 := { stood := { row := fnGinCountsRow, standIns := [], harness := (true, "58e01819f0b5303fe984928ba04f2cd7c9d92d2eb097bef5f20c98b54040c433"), looks := false }, kinds := [], alts := [], laidByText := true, laidKinds := [.data, .data, .data, .pinned, .pinned], laidTests := true, laidLooks := .later }
def FnGinCountsCardSaid : Prop := Claim7.holds Tryd.pinned (.plain (OpenSpec.ofChange fnGinCountsSpec)) fnGinCountsCard

/-- THE TIED CARD OF 'laws.FnCleanPath'. -/
def fnCleanPathCard : Claim7 := { stood := { row := fnCleanPathRow, standIns := [], harness := (true, "58e01819f0b5303fe984928ba04f2cd7c9d92d2eb097bef5f20c98b54040c433"), looks := false }, kinds := [], alts := [], laidByText := true, laidKinds := [.data, .data, .data, .pinned, .pinned], laidTests := true, laidLooks := .later }
def FnCleanPathCardSaid : Prop := Claim7.holds Tryd.pinned (.plain (OpenSpec.ofChange fnCleanPathSpec)) fnCleanPathCard

/-- THE SECOND FORM's CARD OF 'laws.FnCleanAgain'. -/
def fnCleanAgainUptoCard : Claim7 := { stood := { row := fnCleanAgainUptoRow, standIns := [], harness := (true, "58e01819f0b5303fe984928ba04f2cd7c9d92d2eb097bef5f20c98b54040c433"), looks := false }, kinds := [], alts := [], laidByText := true, laidKinds := [.data, .data, .data, .pinned, .pinned], laidTests := true, laidLooks := .later }
def FnCleanAgainUptoCardSaid : Prop := Claim7.holds Tryd.pinned (.plain (OpenSpec.upto fnCleanAgainSpec)) fnCleanAgainUptoCard

/-- THE SECOND FORM's CARD OF 'laws.FnGinCommon'. -/
def fnGinCommonUptoCard : Claim7 := { stood := { row := fnGinCommonUptoRow, standIns := [], harness := (true, "58e01819f0b5303fe984928ba04f2cd7c9d92d2eb097bef5f20c98b54040c433"), looks := false }, kinds := [], alts := [], laidByText := true, laidKinds := [.data, .data, .data, .pinned, .pinned], laidTests := true, laidLooks := .later }
def FnGinCommonUptoCardSaid : Prop := Claim7.holds Tryd.pinned (.plain (OpenSpec.upto fnGinCommonSpec)) fnGinCommonUptoCard

/-- THE SECOND FORM's CARD OF 'laws.FnGinCounts'. -/
def fnGinCountsUptoCard : Claim7 := { stood := { row := fnGinCountsUptoRow, standIns := [], harness := (true, "58e01819f0b5303fe984928ba04f2cd7c9d92d2eb097bef5f20c98b54040c433"), looks := false }, kinds := [], alts := [], laidByText := true, laidKinds := [.data, .data, .data, .pinned, .pinned], laidTests := true, laidLooks := .later }
def FnGinCountsUptoCardSaid : Prop := Claim7.holds Tryd.pinned (.plain (OpenSpec.upto fnGinCountsSpec)) fnGinCountsUptoCard

/-- THE SECOND FORM's CARD OF 'laws.FnCleanPath'. -/
def fnCleanPathUptoCard : Claim7 := { stood := { row := fnCleanPathUptoRow, standIns := [], harness := (true, "58e01819f0b5303fe984928ba04f2cd7c9d92d2eb097bef5f20c98b54040c433"), looks := false }, kinds := [], alts := [], laidByText := true, laidKinds := [.data, .data, .data, .pinned, .pinned], laidTests := true, laidLooks := .later }
def FnCleanPathUptoCardSaid : Prop := Claim7.holds Tryd.pinned (.plain (OpenSpec.upto fnCleanPathSpec)) fnCleanPathUptoCard
end Rows
end Go.Proofs.YtabaldddhopobaaDoor
