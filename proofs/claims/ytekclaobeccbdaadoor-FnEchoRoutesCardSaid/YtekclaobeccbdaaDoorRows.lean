/-
  NARROWER THAN 'FOR EVERY INPUT', by the rows' own cells (each row's printed sentence says how): FnEchoAlone: laid · FnEchoBack: laid · FnEchoFind: laid · FnEchoText: laid · FnEchoRoutes: laid · FnEchoReverse: laid · FnEchoMethods: laid · FnEchoRenamed: laid · FnEchoOrder: laid.
  DERIVED. THE GIVEN ROWS OF THIS SEAT. 9 by the template 'for every input the law returns true; each argument reads behind the call as it read before'; 0 by the template 'total and deterministic' (their statements: YtekclaobeccbdaaDoorTotals.lean).
  GIVEN WITH THE SEED: the statements are not yours to turn. If you find one false, say at which input.
  Laid BY PROGRAM, IN A SANDBOX (cutbox-rows.mjs): the forced cells as the released guide's own fill.sh prints them over the translation f6770e1b336169ee… (all of the seat's roots in one cut). By AI agents, Wed Nov 11 2026. No macro, syntax, notation, axiom, sorry.
-/
import Derived.Test.YtekclaobeccbdaaDoorChecked
import GoSem.Claim
import GoSem.ClaimJoined
import GoSem.ClaimMapViews
import Derived.JoinedTies
import Derived.KernelRfl
namespace Go.Proofs.YtekclaobeccbdaaDoor
/- THE CELL 'sum', in the pinned program and in every row, IS THE sha256 OF THE DUMP (.gsa) THAT YtekclaobeccbdaaDoorProg.lean LOADS. Nothing in Lean hashes anything: it is a label: what it is worth is what the hold of that sum in a sandbox is worth. -/
noncomputable def Tryd.pinned : Pinned := { name := "ytekclaobeccbdaadoor", sum := "f6770e1b336169eeb6e997390ec39b7383cb0634ba22baa47079831920a38827", checked := Tryd.checked }
namespace Rows
def none {H : Type} : Left H := { results := [], args := [] }

/- WHAT THE LISTED PACKAGE-LEVEL VARIABLES READ AS WHEN THE CALL BEGINS. Each datum BY PROGRAM (the guide's laid-datum.mjs) off the statement by which the dump's own 'gosem.cut.vars' lays the variable. In a bare row this is a premise. The card (YtekclaobeccbdaaDoorCards.lean) ties it to the program's text. -/
def laid_bytes_ErrTooLarge {H : Type} : DataW H := .iface "*errors.errorString" (.ptr (.agg [.lit (.string [98, 121, 116, 101, 115, 46, 66, 117, 102, 102, 101, 114, 58, 32, 116, 111, 111, 32, 108, 97, 114, 103, 101])]))

/-- 'laws.FnEchoAlone': WHATEVER THE INPUT: true; the input reads as it did. -/
def fnEchoAloneSpec : ChangeSpec := { name := "fnEchoAlone", fn := fun _ => fun
  | [d1, d2] => { results := [.lit (.bool true)], args := [d1, d2] }
  | _ => none }
def fnEchoAloneRow : OpenClaim := { program := "ytekclaobeccbdaadoor", sum := "f6770e1b336169eeb6e997390ec39b7383cb0634ba22baa47079831920a38827", func := "pub-bridleway/laws.FnEchoAlone", spec := "fnEchoAlone", unfollowed := true, recurses := true, named := ["bytes.ErrTooLarge"], apart := false, laid := [("bytes.ErrTooLarge", laid_bytes_ErrTooLarge)] }
def FnEchoAloneSaid : Prop := fnEchoAloneRow.holds Tryd.pinned (OpenSpec.ofChange fnEchoAloneSpec)

/-- ITS FALSE NEIGHBOUR: 'it returns false'. Refute it at one input. -/
def fnEchoAloneWrong : ChangeSpec := { name := "fnEchoAlone", fn := fun _ => fun
  | [d1, d2] => { results := [.lit (.bool false)], args := [d1, d2] }
  | _ => none }
def FnEchoAloneWrongFalsely : Prop := fnEchoAloneRow.holds Tryd.pinned (OpenSpec.ofChange fnEchoAloneWrong)

/-- 'laws.FnEchoBack': WHATEVER THE INPUT: true; the input reads as it did. -/
def fnEchoBackSpec : ChangeSpec := { name := "fnEchoBack", fn := fun _ => fun
  | [d1, d2, d3] => { results := [.lit (.bool true)], args := [d1, d2, d3] }
  | _ => none }
def fnEchoBackRow : OpenClaim := { program := "ytekclaobeccbdaadoor", sum := "f6770e1b336169eeb6e997390ec39b7383cb0634ba22baa47079831920a38827", func := "pub-bridleway/laws.FnEchoBack", spec := "fnEchoBack", unfollowed := true, recurses := true, named := ["bytes.ErrTooLarge"], apart := false, laid := [("bytes.ErrTooLarge", laid_bytes_ErrTooLarge)] }
def FnEchoBackSaid : Prop := fnEchoBackRow.holds Tryd.pinned (OpenSpec.ofChange fnEchoBackSpec)

/-- ITS FALSE NEIGHBOUR: 'it returns false'. Refute it at one input. -/
def fnEchoBackWrong : ChangeSpec := { name := "fnEchoBack", fn := fun _ => fun
  | [d1, d2, d3] => { results := [.lit (.bool false)], args := [d1, d2, d3] }
  | _ => none }
def FnEchoBackWrongFalsely : Prop := fnEchoBackRow.holds Tryd.pinned (OpenSpec.ofChange fnEchoBackWrong)

/-- 'laws.FnEchoFind': WHATEVER THE INPUT: true; the input reads as it did. -/
def fnEchoFindSpec : ChangeSpec := { name := "fnEchoFind", fn := fun _ => fun
  | [d1, d2] => { results := [.lit (.bool true)], args := [d1, d2] }
  | _ => none }
def fnEchoFindRow : OpenClaim := { program := "ytekclaobeccbdaadoor", sum := "f6770e1b336169eeb6e997390ec39b7383cb0634ba22baa47079831920a38827", func := "pub-bridleway/laws.FnEchoFind", spec := "fnEchoFind", unfollowed := true, recurses := true, named := ["bytes.ErrTooLarge"], apart := false, laid := [("bytes.ErrTooLarge", laid_bytes_ErrTooLarge)] }
def FnEchoFindSaid : Prop := fnEchoFindRow.holds Tryd.pinned (OpenSpec.ofChange fnEchoFindSpec)

/-- ITS FALSE NEIGHBOUR: 'it returns false'. Refute it at one input. -/
def fnEchoFindWrong : ChangeSpec := { name := "fnEchoFind", fn := fun _ => fun
  | [d1, d2] => { results := [.lit (.bool false)], args := [d1, d2] }
  | _ => none }
def FnEchoFindWrongFalsely : Prop := fnEchoFindRow.holds Tryd.pinned (OpenSpec.ofChange fnEchoFindWrong)

/-- 'laws.FnEchoText': WHATEVER THE INPUT: true; the input reads as it did. -/
def fnEchoTextSpec : ChangeSpec := { name := "fnEchoText", fn := fun _ => fun
  | [d1, d2] => { results := [.lit (.bool true)], args := [d1, d2] }
  | _ => none }
def fnEchoTextRow : OpenClaim := { program := "ytekclaobeccbdaadoor", sum := "f6770e1b336169eeb6e997390ec39b7383cb0634ba22baa47079831920a38827", func := "pub-bridleway/laws.FnEchoText", spec := "fnEchoText", unfollowed := true, recurses := true, named := ["bytes.ErrTooLarge"], apart := false, laid := [("bytes.ErrTooLarge", laid_bytes_ErrTooLarge)] }
def FnEchoTextSaid : Prop := fnEchoTextRow.holds Tryd.pinned (OpenSpec.ofChange fnEchoTextSpec)

/-- ITS FALSE NEIGHBOUR: 'it returns false'. Refute it at one input. -/
def fnEchoTextWrong : ChangeSpec := { name := "fnEchoText", fn := fun _ => fun
  | [d1, d2] => { results := [.lit (.bool false)], args := [d1, d2] }
  | _ => none }
def FnEchoTextWrongFalsely : Prop := fnEchoTextRow.holds Tryd.pinned (OpenSpec.ofChange fnEchoTextWrong)

/-- 'laws.FnEchoRoutes': WHATEVER THE INPUT: true; the input reads as it did. -/
def fnEchoRoutesSpec : ChangeSpec := { name := "fnEchoRoutes", fn := fun _ => fun
  | [d] => { results := [.lit (.bool true)], args := [d] }
  | _ => none }
def fnEchoRoutesRow : OpenClaim := { program := "ytekclaobeccbdaadoor", sum := "f6770e1b336169eeb6e997390ec39b7383cb0634ba22baa47079831920a38827", func := "pub-bridleway/laws.FnEchoRoutes", spec := "fnEchoRoutes", inPlace := ["internal/bytealg.abigen_runtime_cmpstring", "internal/reflectlite.ValueOf", "internal/reflectlite.Swapper", "(internal/reflectlite.Value).Len"], unfollowed := true, recurses := true, named := ["bytes.ErrTooLarge"], apart := false, laid := [("bytes.ErrTooLarge", laid_bytes_ErrTooLarge)] }
def FnEchoRoutesSaid : Prop := fnEchoRoutesRow.holds Tryd.pinned (OpenSpec.ofChange fnEchoRoutesSpec)

/-- ITS FALSE NEIGHBOUR: 'it returns false'. Refute it at one input. -/
def fnEchoRoutesWrong : ChangeSpec := { name := "fnEchoRoutes", fn := fun _ => fun
  | [d] => { results := [.lit (.bool false)], args := [d] }
  | _ => none }
def FnEchoRoutesWrongFalsely : Prop := fnEchoRoutesRow.holds Tryd.pinned (OpenSpec.ofChange fnEchoRoutesWrong)

/-- 'laws.FnEchoReverse': WHATEVER THE INPUT: true; the input reads as it did. -/
def fnEchoReverseSpec : ChangeSpec := { name := "fnEchoReverse", fn := fun _ => fun
  | [d1, d2, d3] => { results := [.lit (.bool true)], args := [d1, d2, d3] }
  | _ => none }
def fnEchoReverseRow : OpenClaim := { program := "ytekclaobeccbdaadoor", sum := "f6770e1b336169eeb6e997390ec39b7383cb0634ba22baa47079831920a38827", func := "pub-bridleway/laws.FnEchoReverse", spec := "fnEchoReverse", unfollowed := true, recurses := true, named := ["bytes.ErrTooLarge"], apart := false, laid := [("bytes.ErrTooLarge", laid_bytes_ErrTooLarge)] }
def FnEchoReverseSaid : Prop := fnEchoReverseRow.holds Tryd.pinned (OpenSpec.ofChange fnEchoReverseSpec)

/-- ITS FALSE NEIGHBOUR: 'it returns false'. Refute it at one input. -/
def fnEchoReverseWrong : ChangeSpec := { name := "fnEchoReverse", fn := fun _ => fun
  | [d1, d2, d3] => { results := [.lit (.bool false)], args := [d1, d2, d3] }
  | _ => none }
def FnEchoReverseWrongFalsely : Prop := fnEchoReverseRow.holds Tryd.pinned (OpenSpec.ofChange fnEchoReverseWrong)

/-- 'laws.FnEchoMethods': WHATEVER THE INPUT: true; the input reads as it did. -/
def fnEchoMethodsSpec : ChangeSpec := { name := "fnEchoMethods", fn := fun _ => fun
  | [d1, d2, d3] => { results := [.lit (.bool true)], args := [d1, d2, d3] }
  | _ => none }
def fnEchoMethodsRow : OpenClaim := { program := "ytekclaobeccbdaadoor", sum := "f6770e1b336169eeb6e997390ec39b7383cb0634ba22baa47079831920a38827", func := "pub-bridleway/laws.FnEchoMethods", spec := "fnEchoMethods", unfollowed := true, recurses := true, named := ["bytes.ErrTooLarge"], apart := false, laid := [("bytes.ErrTooLarge", laid_bytes_ErrTooLarge)] }
def FnEchoMethodsSaid : Prop := fnEchoMethodsRow.holds Tryd.pinned (OpenSpec.ofChange fnEchoMethodsSpec)

/-- ITS FALSE NEIGHBOUR: 'it returns false'. Refute it at one input. -/
def fnEchoMethodsWrong : ChangeSpec := { name := "fnEchoMethods", fn := fun _ => fun
  | [d1, d2, d3] => { results := [.lit (.bool false)], args := [d1, d2, d3] }
  | _ => none }
def FnEchoMethodsWrongFalsely : Prop := fnEchoMethodsRow.holds Tryd.pinned (OpenSpec.ofChange fnEchoMethodsWrong)

/-- 'laws.FnEchoRenamed': WHATEVER THE INPUT: true; the input reads as it did. -/
def fnEchoRenamedSpec : ChangeSpec := { name := "fnEchoRenamed", fn := fun _ => fun
  | [d1, d2, d3, d4] => { results := [.lit (.bool true)], args := [d1, d2, d3, d4] }
  | _ => none }
def fnEchoRenamedRow : OpenClaim := { program := "ytekclaobeccbdaadoor", sum := "f6770e1b336169eeb6e997390ec39b7383cb0634ba22baa47079831920a38827", func := "pub-bridleway/laws.FnEchoRenamed", spec := "fnEchoRenamed", unfollowed := true, recurses := true, named := ["bytes.ErrTooLarge"], apart := false, laid := [("bytes.ErrTooLarge", laid_bytes_ErrTooLarge)] }
def FnEchoRenamedSaid : Prop := fnEchoRenamedRow.holds Tryd.pinned (OpenSpec.ofChange fnEchoRenamedSpec)

/-- ITS FALSE NEIGHBOUR: 'it returns false'. Refute it at one input. -/
def fnEchoRenamedWrong : ChangeSpec := { name := "fnEchoRenamed", fn := fun _ => fun
  | [d1, d2, d3, d4] => { results := [.lit (.bool false)], args := [d1, d2, d3, d4] }
  | _ => none }
def FnEchoRenamedWrongFalsely : Prop := fnEchoRenamedRow.holds Tryd.pinned (OpenSpec.ofChange fnEchoRenamedWrong)

/-- 'laws.FnEchoOrder': WHATEVER THE INPUT: true; the input reads as it did. -/
def fnEchoOrderSpec : ChangeSpec := { name := "fnEchoOrder", fn := fun _ => fun
  | [d1, d2, d3, d4] => { results := [.lit (.bool true)], args := [d1, d2, d3, d4] }
  | _ => none }
def fnEchoOrderRow : OpenClaim := { program := "ytekclaobeccbdaadoor", sum := "f6770e1b336169eeb6e997390ec39b7383cb0634ba22baa47079831920a38827", func := "pub-bridleway/laws.FnEchoOrder", spec := "fnEchoOrder", unfollowed := true, recurses := true, named := ["bytes.ErrTooLarge"], apart := false, laid := [("bytes.ErrTooLarge", laid_bytes_ErrTooLarge)] }
def FnEchoOrderSaid : Prop := fnEchoOrderRow.holds Tryd.pinned (OpenSpec.ofChange fnEchoOrderSpec)

/-- ITS FALSE NEIGHBOUR: 'it returns false'. Refute it at one input. -/
def fnEchoOrderWrong : ChangeSpec := { name := "fnEchoOrder", fn := fun _ => fun
  | [d1, d2, d3, d4] => { results := [.lit (.bool false)], args := [d1, d2, d3, d4] }
  | _ => none }
def FnEchoOrderWrongFalsely : Prop := fnEchoOrderRow.holds Tryd.pinned (OpenSpec.ofChange fnEchoOrderWrong)

/- THE SECOND FORM. 'bulk': how many values and letters a reading holds, each counted each time it is reached (what is shared counts as often as it is met; a slice's spare places count too). A statement '..UptoSaid' is the law's where the arguments, and the package variables that the reading takes, are together of bulk at most 1048576: NARROWER than '..Said'. Prove '..Said' where nothing that the law and all that it calls make is longer than what came in: it says more and counts as full. Else prove '..UptoSaid'. A law counts once. -/
mutual
def uptoBulk {H : Type} : DataW H → Nat
  | .lit (.string bytes) => bytes.length + 1
  | .lit _ => 1
  | .nil => 1
  | .ptr d => uptoBulk d + 1
  | .slice elems spare => uptoBulkAll elems + uptoBulkAll spare + 1
  | .agg parts => uptoBulkAll parts + 1
  | .iface _ d => uptoBulk d + 1
  | .map entries => uptoBulkEntries entries + 1
  | .held _ => 1
def uptoBulkAll {H : Type} : List (DataW H) → Nat
  | [] => 0
  | d :: r => uptoBulk d + uptoBulkAll r
def uptoBulkEntries {H : Type} : List (Lit × DataW H) → Nat
  | [] => 0
  | x :: r => uptoBulkEntry x + uptoBulkEntries r
def uptoBulkEntry {H : Type} : Lit × DataW H → Nat
  | (.string bytes, d) => bytes.length + uptoBulk d + 1
  | (_, d) => uptoBulk d + 1
 end
def uptoSmall : (H : Type) → List (DataW H) → Bool := fun _ ds => decide (uptoBulkAll ds ≤ 1048576)
def OpenSpec.upto (s : _root_.Go.ChangeSpec) : _root_.Go.OpenSpec := { _root_.Go.OpenSpec.ofChange s with cond := some uptoSmall }

/-- 'laws.FnEchoAlone', WHERE WHAT IT READS IS OF BULK AT MOST 1048576: true; the input reads as it did. -/
def fnEchoAloneUptoRow : OpenClaim := { program := "ytekclaobeccbdaadoor", sum := "f6770e1b336169eeb6e997390ec39b7383cb0634ba22baa47079831920a38827", func := "pub-bridleway/laws.FnEchoAlone", spec := "fnEchoAlone", unfollowed := true, recurses := true, named := ["bytes.ErrTooLarge"], apart := false, laid := [("bytes.ErrTooLarge", laid_bytes_ErrTooLarge)], narrowed := true }
def FnEchoAloneUptoSaid : Prop := fnEchoAloneUptoRow.holds Tryd.pinned (OpenSpec.upto fnEchoAloneSpec)

/-- 'laws.FnEchoBack', WHERE WHAT IT READS IS OF BULK AT MOST 1048576: true; the input reads as it did. -/
def fnEchoBackUptoRow : OpenClaim := { program := "ytekclaobeccbdaadoor", sum := "f6770e1b336169eeb6e997390ec39b7383cb0634ba22baa47079831920a38827", func := "pub-bridleway/laws.FnEchoBack", spec := "fnEchoBack", unfollowed := true, recurses := true, named := ["bytes.ErrTooLarge"], apart := false, laid := [("bytes.ErrTooLarge", laid_bytes_ErrTooLarge)], narrowed := true }
def FnEchoBackUptoSaid : Prop := fnEchoBackUptoRow.holds Tryd.pinned (OpenSpec.upto fnEchoBackSpec)

/-- 'laws.FnEchoFind', WHERE WHAT IT READS IS OF BULK AT MOST 1048576: true; the input reads as it did. -/
def fnEchoFindUptoRow : OpenClaim := { program := "ytekclaobeccbdaadoor", sum := "f6770e1b336169eeb6e997390ec39b7383cb0634ba22baa47079831920a38827", func := "pub-bridleway/laws.FnEchoFind", spec := "fnEchoFind", unfollowed := true, recurses := true, named := ["bytes.ErrTooLarge"], apart := false, laid := [("bytes.ErrTooLarge", laid_bytes_ErrTooLarge)], narrowed := true }
def FnEchoFindUptoSaid : Prop := fnEchoFindUptoRow.holds Tryd.pinned (OpenSpec.upto fnEchoFindSpec)

/-- 'laws.FnEchoText', WHERE WHAT IT READS IS OF BULK AT MOST 1048576: true; the input reads as it did. -/
def fnEchoTextUptoRow : OpenClaim := { program := "ytekclaobeccbdaadoor", sum := "f6770e1b336169eeb6e997390ec39b7383cb0634ba22baa47079831920a38827", func := "pub-bridleway/laws.FnEchoText", spec := "fnEchoText", unfollowed := true, recurses := true, named := ["bytes.ErrTooLarge"], apart := false, laid := [("bytes.ErrTooLarge", laid_bytes_ErrTooLarge)], narrowed := true }
def FnEchoTextUptoSaid : Prop := fnEchoTextUptoRow.holds Tryd.pinned (OpenSpec.upto fnEchoTextSpec)

/-- 'laws.FnEchoRoutes', WHERE WHAT IT READS IS OF BULK AT MOST 1048576: true; the input reads as it did. -/
def fnEchoRoutesUptoRow : OpenClaim := { program := "ytekclaobeccbdaadoor", sum := "f6770e1b336169eeb6e997390ec39b7383cb0634ba22baa47079831920a38827", func := "pub-bridleway/laws.FnEchoRoutes", spec := "fnEchoRoutes", inPlace := ["internal/bytealg.abigen_runtime_cmpstring", "internal/reflectlite.ValueOf", "internal/reflectlite.Swapper", "(internal/reflectlite.Value).Len"], unfollowed := true, recurses := true, named := ["bytes.ErrTooLarge"], apart := false, laid := [("bytes.ErrTooLarge", laid_bytes_ErrTooLarge)], narrowed := true }
def FnEchoRoutesUptoSaid : Prop := fnEchoRoutesUptoRow.holds Tryd.pinned (OpenSpec.upto fnEchoRoutesSpec)

/-- 'laws.FnEchoReverse', WHERE WHAT IT READS IS OF BULK AT MOST 1048576: true; the input reads as it did. -/
def fnEchoReverseUptoRow : OpenClaim := { program := "ytekclaobeccbdaadoor", sum := "f6770e1b336169eeb6e997390ec39b7383cb0634ba22baa47079831920a38827", func := "pub-bridleway/laws.FnEchoReverse", spec := "fnEchoReverse", unfollowed := true, recurses := true, named := ["bytes.ErrTooLarge"], apart := false, laid := [("bytes.ErrTooLarge", laid_bytes_ErrTooLarge)], narrowed := true }
def FnEchoReverseUptoSaid : Prop := fnEchoReverseUptoRow.holds Tryd.pinned (OpenSpec.upto fnEchoReverseSpec)

/-- 'laws.FnEchoMethods', WHERE WHAT IT READS IS OF BULK AT MOST 1048576: true; the input reads as it did. -/
def fnEchoMethodsUptoRow : OpenClaim := { program := "ytekclaobeccbdaadoor", sum := "f6770e1b336169eeb6e997390ec39b7383cb0634ba22baa47079831920a38827", func := "pub-bridleway/laws.FnEchoMethods", spec := "fnEchoMethods", unfollowed := true, recurses := true, named := ["bytes.ErrTooLarge"], apart := false, laid := [("bytes.ErrTooLarge", laid_bytes_ErrTooLarge)], narrowed := true }
def FnEchoMethodsUptoSaid : Prop := fnEchoMethodsUptoRow.holds Tryd.pinned (OpenSpec.upto fnEchoMethodsSpec)

/-- 'laws.FnEchoRenamed', WHERE WHAT IT READS IS OF BULK AT MOST 1048576: true; the input reads as it did. -/
def fnEchoRenamedUptoRow : OpenClaim := { program := "ytekclaobeccbdaadoor", sum := "f6770e1b336169eeb6e997390ec39b7383cb0634ba22baa47079831920a38827", func := "pub-bridleway/laws.FnEchoRenamed", spec := "fnEchoRenamed", unfollowed := true, recurses := true, named := ["bytes.ErrTooLarge"], apart := false, laid := [("bytes.ErrTooLarge", laid_bytes_ErrTooLarge)], narrowed := true }
def FnEchoRenamedUptoSaid : Prop := fnEchoRenamedUptoRow.holds Tryd.pinned (OpenSpec.upto fnEchoRenamedSpec)

/-- 'laws.FnEchoOrder', WHERE WHAT IT READS IS OF BULK AT MOST 1048576: true; the input reads as it did. -/
def fnEchoOrderUptoRow : OpenClaim := { program := "ytekclaobeccbdaadoor", sum := "f6770e1b336169eeb6e997390ec39b7383cb0634ba22baa47079831920a38827", func := "pub-bridleway/laws.FnEchoOrder", spec := "fnEchoOrder", unfollowed := true, recurses := true, named := ["bytes.ErrTooLarge"], apart := false, laid := [("bytes.ErrTooLarge", laid_bytes_ErrTooLarge)], narrowed := true }
def FnEchoOrderUptoSaid : Prop := fnEchoOrderUptoRow.holds Tryd.pinned (OpenSpec.upto fnEchoOrderSpec)

end Rows
end Go.Proofs.YtekclaobeccbdaaDoor
