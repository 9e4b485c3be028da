/-
  DERIVED. GIVEN WITH THE SEED: THE CARDS: each row of YtekclaobeccbdaaDoorRows.lean that lists a variable, with what it lists TIED to the program's text (the seventh form; the later family's looks); each row that meets fmt, with fmt's text TOLD by the authors' own Lean function (tested against real Go, not proved from fmt's source: count such statements apart). THE CARD IS WHAT COUNTS. Prove the row's statement (the work); the ties are given (YtekclaobeccbdaaDoorTie.lean); close each card by the builder's one call (the guide's Derived/Test/ToyasCard.lean, 'card_holds'). Laid BY PROGRAM, IN A SANDBOX (cutbox-door.mjs). By AI agents, Wed Nov 11 2026. No macro, syntax, notation, axiom, sorry.
-/
import Derived.Test.YtekclaobeccbdaaDoorRows
import GoSem.ClaimSeven
namespace Go.Proofs.YtekclaobeccbdaaDoor
namespace Rows

/-- THE TIED CARD OF 'laws.FnEchoAlone'. -/
def fnEchoAloneCard : Claim7 := { stood := { row := fnEchoAloneRow, standIns := [], harness := (true, "27186621d78402a5906707b5b10a5dbf61577cec7dcf56803ca4889821bf34bb"), looks := false }, kinds := [], alts := [], laidByText := true, laidKinds := [.sentinel], laidTests := true, laidLooks := .later }
def FnEchoAloneCardSaid : Prop := Claim7.holds Tryd.pinned (.plain (OpenSpec.ofChange fnEchoAloneSpec)) fnEchoAloneCard

/-- THE TIED CARD OF 'laws.FnEchoBack'. -/
def fnEchoBackCard : Claim7 := { stood := { row := fnEchoBackRow, standIns := [], harness := (true, "27186621d78402a5906707b5b10a5dbf61577cec7dcf56803ca4889821bf34bb"), looks := false }, kinds := [], alts := [], laidByText := true, laidKinds := [.sentinel], laidTests := true, laidLooks := .later }
def FnEchoBackCardSaid : Prop := Claim7.holds Tryd.pinned (.plain (OpenSpec.ofChange fnEchoBackSpec)) fnEchoBackCard

/-- THE TIED CARD OF 'laws.FnEchoFind'. -/
def fnEchoFindCard : Claim7 := { stood := { row := fnEchoFindRow, standIns := [], harness := (true, "27186621d78402a5906707b5b10a5dbf61577cec7dcf56803ca4889821bf34bb"), looks := false }, kinds := [], alts := [], laidByText := true, laidKinds := [.sentinel], laidTests := true, laidLooks := .later }
def FnEchoFindCardSaid : Prop := Claim7.holds Tryd.pinned (.plain (OpenSpec.ofChange fnEchoFindSpec)) fnEchoFindCard

/-- THE TIED CARD OF 'laws.FnEchoText'. -/
def fnEchoTextCard : Claim7 := { stood := { row := fnEchoTextRow, standIns := [], harness := (true, "27186621d78402a5906707b5b10a5dbf61577cec7dcf56803ca4889821bf34bb"), looks := false }, kinds := [], alts := [], laidByText := true, laidKinds := [.sentinel], laidTests := true, laidLooks := .later }
def FnEchoTextCardSaid : Prop := Claim7.holds Tryd.pinned (.plain (OpenSpec.ofChange fnEchoTextSpec)) fnEchoTextCard

/-- THE TIED CARD OF 'laws.FnEchoRoutes'. -/
def fnEchoRoutesCard : Claim7 := { stood := { row := fnEchoRoutesRow, standIns := [], harness := (true, "27186621d78402a5906707b5b10a5dbf61577cec7dcf56803ca4889821bf34bb"), looks := false }, kinds := [], alts := [], laidByText := true, laidKinds := [.sentinel], laidTests := true, laidLooks := .later }
def FnEchoRoutesCardSaid : Prop := Claim7.holds Tryd.pinned (.plain (OpenSpec.ofChange fnEchoRoutesSpec)) fnEchoRoutesCard

/-- THE TIED CARD OF 'laws.FnEchoReverse'. -/
def fnEchoReverseCard : Claim7 := { stood := { row := fnEchoReverseRow, standIns := [], harness := (true, "27186621d78402a5906707b5b10a5dbf61577cec7dcf56803ca4889821bf34bb"), looks := false }, kinds := [], alts := [], laidByText := true, laidKinds := [.sentinel], laidTests := true, laidLooks := .later }
def FnEchoReverseCardSaid : Prop := Claim7.holds Tryd.pinned (.plain (OpenSpec.ofChange fnEchoReverseSpec)) fnEchoReverseCard

/-- THE TIED CARD OF 'laws.FnEchoMethods'. -/
def fnEchoMethodsCard : Claim7 := { stood := { row := fnEchoMethodsRow, standIns := [], harness := (true, "27186621d78402a5906707b5b10a5dbf61577cec7dcf56803ca4889821bf34bb"), looks := false }, kinds := [], alts := [], laidByText := true, laidKinds := [.sentinel], laidTests := true, laidLooks := .later }
def FnEchoMethodsCardSaid : Prop := Claim7.holds Tryd.pinned (.plain (OpenSpec.ofChange fnEchoMethodsSpec)) fnEchoMethodsCard

/-- THE TIED CARD OF 'laws.FnEchoRenamed'. -/
def fnEchoRenamedCard : Claim7 := { stood := { row := fnEchoRenamedRow, standIns := [], harness := (true, "27186621d78402a5906707b5b10a5dbf61577cec7dcf56803ca4889821bf34bb"), looks := false }, kinds := [], alts := [], laidByText := true, laidKinds := [.sentinel], laidTests := true, laidLooks := .later }
def FnEchoRenamedCardSaid : Prop := Claim7.holds Tryd.pinned (.plain (OpenSpec.ofChange fnEchoRenamedSpec)) fnEchoRenamedCard

/-- THE TIED CARD OF 'laws.FnEchoOrder'. -/
def fnEchoOrderCard : Claim7 := { stood := { row := fnEchoOrderRow, standIns := [], harness := (true, "27186621d78402a5906707b5b10a5dbf61577cec7dcf56803ca4889821bf34bb"), looks := false }, kinds := [], alts := [], laidByText := true, laidKinds := [.sentinel], laidTests := true, laidLooks := .later }
def FnEchoOrderCardSaid : Prop := Claim7.holds Tryd.pinned (.plain (OpenSpec.ofChange fnEchoOrderSpec)) fnEchoOrderCard

/-- THE SECOND FORM's CARD OF 'laws.FnEchoAlone'. -/
def fnEchoAloneUptoCard : Claim7 := { stood := { row := fnEchoAloneUptoRow, standIns := [], harness := (true, "27186621d78402a5906707b5b10a5dbf61577cec7dcf56803ca4889821bf34bb"), looks := false }, kinds := [], alts := [], laidByText := true, laidKinds := [.sentinel], laidTests := true, laidLooks := .later }
def FnEchoAloneUptoCardSaid : Prop := Claim7.holds Tryd.pinned (.plain (OpenSpec.upto fnEchoAloneSpec)) fnEchoAloneUptoCard

/-- THE SECOND FORM's CARD OF 'laws.FnEchoBack'. -/
def fnEchoBackUptoCard : Claim7 := { stood := { row := fnEchoBackUptoRow, standIns := [], harness := (true, "27186621d78402a5906707b5b10a5dbf61577cec7dcf56803ca4889821bf34bb"), looks := false }, kinds := [], alts := [], laidByText := true, laidKinds := [.sentinel], laidTests := true, laidLooks := .later }
def FnEchoBackUptoCardSaid : Prop := Claim7.holds Tryd.pinned (.plain (OpenSpec.upto fnEchoBackSpec)) fnEchoBackUptoCard

/-- THE SECOND FORM's CARD OF 'laws.FnEchoFind'. -/
def fnEchoFindUptoCard : Claim7 := { stood := { row := fnEchoFindUptoRow, standIns := [], harness := (true, "27186621d78402a5906707b5b10a5dbf61577cec7dcf56803ca4889821bf34bb"), looks := false }, kinds := [], alts := [], laidByText := true, laidKinds := [.sentinel], laidTests := true, laidLooks := .later }
def FnEchoFindUptoCardSaid : Prop := Claim7.holds Tryd.pinned (.plain (OpenSpec.upto fnEchoFindSpec)) fnEchoFindUptoCard

/-- THE SECOND FORM's CARD OF 'laws.FnEchoText'. -/
def fnEchoTextUptoCard : Claim7 := { stood := { row := fnEchoTextUptoRow, standIns := [], harness := (true, "27186621d78402a5906707b5b10a5dbf61577cec7dcf56803ca4889821bf34bb"), looks := false }, kinds := [], alts := [], laidByText := true, laidKinds := [.sentinel], laidTests := true, laidLooks := .later }
def FnEchoTextUptoCardSaid : Prop := Claim7.holds Tryd.pinned (.plain (OpenSpec.upto fnEchoTextSpec)) fnEchoTextUptoCard

/-- THE SECOND FORM's CARD OF 'laws.FnEchoRoutes'. -/
def fnEchoRoutesUptoCard : Claim7 := { stood := { row := fnEchoRoutesUptoRow, standIns := [], harness := (true, "27186621d78402a5906707b5b10a5dbf61577cec7dcf56803ca4889821bf34bb"), looks := false }, kinds := [], alts := [], laidByText := true, laidKinds := [.sentinel], laidTests := true, laidLooks := .later }
def FnEchoRoutesUptoCardSaid : Prop := Claim7.holds Tryd.pinned (.plain (OpenSpec.upto fnEchoRoutesSpec)) fnEchoRoutesUptoCard

/-- THE SECOND FORM's CARD OF 'laws.FnEchoReverse'. -/
def fnEchoReverseUptoCard : Claim7 := { stood := { row := fnEchoReverseUptoRow, standIns := [], harness := (true, "27186621d78402a5906707b5b10a5dbf61577cec7dcf56803ca4889821bf34bb"), looks := false }, kinds := [], alts := [], laidByText := true, laidKinds := [.sentinel], laidTests := true, laidLooks := .later }
def FnEchoReverseUptoCardSaid : Prop := Claim7.holds Tryd.pinned (.plain (OpenSpec.upto fnEchoReverseSpec)) fnEchoReverseUptoCard

/-- THE SECOND FORM's CARD OF 'laws.FnEchoMethods'. -/
def fnEchoMethodsUptoCard : Claim7 := { stood := { row := fnEchoMethodsUptoRow, standIns := [], harness := (true, "27186621d78402a5906707b5b10a5dbf61577cec7dcf56803ca4889821bf34bb"), looks := false }, kinds := [], alts := [], laidByText := true, laidKinds := [.sentinel], laidTests := true, laidLooks := .later }
def FnEchoMethodsUptoCardSaid : Prop := Claim7.holds Tryd.pinned (.plain (OpenSpec.upto fnEchoMethodsSpec)) fnEchoMethodsUptoCard

/-- THE SECOND FORM's CARD OF 'laws.FnEchoRenamed'. -/
def fnEchoRenamedUptoCard : Claim7 := { stood := { row := fnEchoRenamedUptoRow, standIns := [], harness := (true, "27186621d78402a5906707b5b10a5dbf61577cec7dcf56803ca4889821bf34bb"), looks := false }, kinds := [], alts := [], laidByText := true, laidKinds := [.sentinel], laidTests := true, laidLooks := .later }
def FnEchoRenamedUptoCardSaid : Prop := Claim7.holds Tryd.pinned (.plain (OpenSpec.upto fnEchoRenamedSpec)) fnEchoRenamedUptoCard

/-- THE SECOND FORM's CARD OF 'laws.FnEchoOrder'. -/
def fnEchoOrderUptoCard : Claim7 := { stood := { row := fnEchoOrderUptoRow, standIns := [], harness := (true, "27186621d78402a5906707b5b10a5dbf61577cec7dcf56803ca4889821bf34bb"), looks := false }, kinds := [], alts := [], laidByText := true, laidKinds := [.sentinel], laidTests := true, laidLooks := .later }
def FnEchoOrderUptoCardSaid : Prop := Claim7.holds Tryd.pinned (.plain (OpenSpec.upto fnEchoOrderSpec)) fnEchoOrderUptoCard
end Rows
end Go.Proofs.YtekclaobeccbdaaDoor
