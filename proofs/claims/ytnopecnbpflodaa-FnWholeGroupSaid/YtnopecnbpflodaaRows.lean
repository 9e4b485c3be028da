/-
  No cell of these rows narrows 'for every input' (looked for: loops, veiled, ifaces, maps, wideKeys, modest, calm, conditions, laid).
  DERIVED. THE GIVEN ROWS OF THIS SEAT. 11 by the template 'for every input the law returns true; each argument reads behind the call as it read before'; 0 by the template 'total and deterministic' (their statements: YtnopecnbpflodaaTotals.lean).
  GIVEN WITH THE SEED: the statements are not yours to turn. If you find one false, say at which input.
  Laid BY PROGRAM, IN A SANDBOX (cutbox-rows.mjs): the forced cells as the released guide's own fill.sh prints them over the translation 8bd563439bcde181… (all of the seat's roots in one cut). By AI agents, Wed Nov 11 2026. No macro, syntax, notation, axiom, sorry.
-/
import Derived.Test.YtnopecnbpflodaaChecked
import GoSem.Claim
import GoSem.ClaimJoined
import GoSem.ClaimMapViews
import Derived.JoinedTies
import Derived.KernelRfl
namespace Go.Proofs.Ytnopecnbpflodaa
/- THE CELL 'sum', in the pinned program and in every row, IS THE sha256 OF THE DUMP (.gsa) THAT YtnopecnbpflodaaProg.lean LOADS. Nothing in Lean hashes anything: it is a label: what it is worth is what the hold of that sum in a sandbox is worth. -/
noncomputable def Try.pinned : Pinned := { name := "ytnopecnbpflodaa", sum := "8bd563439bcde181bff1ca1feee90402c7b7bba66e566078ecb2eb87ce9bb5a5", checked := Try.checked }
namespace Rows
def none {H : Type} : Left H := { results := [], args := [] }

/-- 'laws.FnGinUnescaped': WHATEVER THE INPUT: true; the input reads as it did. -/
def fnGinUnescapedSpec : ChangeSpec := { name := "fnGinUnescaped", fn := fun _ => fun
  | [d1, d2] => { results := [.lit (.bool true)], args := [d1, d2] }
  | _ => none }
def fnGinUnescapedRow : OpenClaim := { program := "ytnopecnbpflodaa", sum := "8bd563439bcde181bff1ca1feee90402c7b7bba66e566078ecb2eb87ce9bb5a5", func := "pub-bridleway/laws.FnGinUnescaped", spec := "fnGinUnescaped", unfollowed := true, recurses := true, apart := false }
def FnGinUnescapedSaid : Prop := fnGinUnescapedRow.holds Try.pinned (OpenSpec.ofChange fnGinUnescapedSpec)

/-- ITS FALSE NEIGHBOUR: 'it returns false'. Refute it at one input. -/
def fnGinUnescapedWrong : ChangeSpec := { name := "fnGinUnescaped", fn := fun _ => fun
  | [d1, d2] => { results := [.lit (.bool false)], args := [d1, d2] }
  | _ => none }
def FnGinUnescapedWrongFalsely : Prop := fnGinUnescapedRow.holds Try.pinned (OpenSpec.ofChange fnGinUnescapedWrong)

/-- 'laws.FnGinRefused': WHATEVER THE INPUT: true; the input reads as it did. -/
def fnGinRefusedSpec : ChangeSpec := { name := "fnGinRefused", fn := fun _ => fun
  | [d1, d2] => { results := [.lit (.bool true)], args := [d1, d2] }
  | _ => none }
def fnGinRefusedRow : OpenClaim := { program := "ytnopecnbpflodaa", sum := "8bd563439bcde181bff1ca1feee90402c7b7bba66e566078ecb2eb87ce9bb5a5", func := "pub-bridleway/laws.FnGinRefused", spec := "fnGinRefused", unfollowed := true, recurses := true, apart := false }
def FnGinRefusedSaid : Prop := fnGinRefusedRow.holds Try.pinned (OpenSpec.ofChange fnGinRefusedSpec)

/-- ITS FALSE NEIGHBOUR: 'it returns false'. Refute it at one input. -/
def fnGinRefusedWrong : ChangeSpec := { name := "fnGinRefused", fn := fun _ => fun
  | [d1, d2] => { results := [.lit (.bool false)], args := [d1, d2] }
  | _ => none }
def FnGinRefusedWrongFalsely : Prop := fnGinRefusedRow.holds Try.pinned (OpenSpec.ofChange fnGinRefusedWrong)

/-- 'laws.FnGinAdd': WHATEVER THE INPUT: true; the input reads as it did. -/
def fnGinAddSpec : ChangeSpec := { name := "fnGinAdd", fn := fun _ => fun
  | [d1, d2] => { results := [.lit (.bool true)], args := [d1, d2] }
  | _ => none }
def fnGinAddRow : OpenClaim := { program := "ytnopecnbpflodaa", sum := "8bd563439bcde181bff1ca1feee90402c7b7bba66e566078ecb2eb87ce9bb5a5", func := "pub-bridleway/laws.FnGinAdd", spec := "fnGinAdd", unfollowed := true, recurses := true, apart := false }
def FnGinAddSaid : Prop := fnGinAddRow.holds Try.pinned (OpenSpec.ofChange fnGinAddSpec)

/-- ITS FALSE NEIGHBOUR: 'it returns false'. Refute it at one input. -/
def fnGinAddWrong : ChangeSpec := { name := "fnGinAdd", fn := fun _ => fun
  | [d1, d2] => { results := [.lit (.bool false)], args := [d1, d2] }
  | _ => none }
def FnGinAddWrongFalsely : Prop := fnGinAddRow.holds Try.pinned (OpenSpec.ofChange fnGinAddWrong)

/-- 'laws.FnGinOrder': WHATEVER THE INPUT: true; the input reads as it did. -/
def fnGinOrderSpec : ChangeSpec := { name := "fnGinOrder", fn := fun _ => fun
  | [d1, d2, d3] => { results := [.lit (.bool true)], args := [d1, d2, d3] }
  | _ => none }
def fnGinOrderRow : OpenClaim := { program := "ytnopecnbpflodaa", sum := "8bd563439bcde181bff1ca1feee90402c7b7bba66e566078ecb2eb87ce9bb5a5", func := "pub-bridleway/laws.FnGinOrder", spec := "fnGinOrder", unfollowed := true, recurses := true, apart := false }
def FnGinOrderSaid : Prop := fnGinOrderRow.holds Try.pinned (OpenSpec.ofChange fnGinOrderSpec)

/-- ITS FALSE NEIGHBOUR: 'it returns false'. Refute it at one input. -/
def fnGinOrderWrong : ChangeSpec := { name := "fnGinOrder", fn := fun _ => fun
  | [d1, d2, d3] => { results := [.lit (.bool false)], args := [d1, d2, d3] }
  | _ => none }
def FnGinOrderWrongFalsely : Prop := fnGinOrderRow.holds Try.pinned (OpenSpec.ofChange fnGinOrderWrong)

/-- 'laws.FnGinFilled': WHATEVER THE INPUT: true; the input reads as it did. -/
def fnGinFilledSpec : ChangeSpec := { name := "fnGinFilled", fn := fun _ => fun
  | [d1, d2, d3] => { results := [.lit (.bool true)], args := [d1, d2, d3] }
  | _ => none }
def fnGinFilledRow : OpenClaim := { program := "ytnopecnbpflodaa", sum := "8bd563439bcde181bff1ca1feee90402c7b7bba66e566078ecb2eb87ce9bb5a5", func := "pub-bridleway/laws.FnGinFilled", spec := "fnGinFilled", inPlace := ["internal/bytealg.IndexByteString"], unfollowed := true, recurses := true, apart := false }
def FnGinFilledSaid : Prop := fnGinFilledRow.holds Try.pinned (OpenSpec.ofChange fnGinFilledSpec)

/-- ITS FALSE NEIGHBOUR: 'it returns false'. Refute it at one input. -/
def fnGinFilledWrong : ChangeSpec := { name := "fnGinFilled", fn := fun _ => fun
  | [d1, d2, d3] => { results := [.lit (.bool false)], args := [d1, d2, d3] }
  | _ => none }
def FnGinFilledWrongFalsely : Prop := fnGinFilledRow.holds Try.pinned (OpenSpec.ofChange fnGinFilledWrong)

/-- 'laws.FnGinStatic': WHATEVER THE INPUT: true; the input reads as it did. -/
def fnGinStaticSpec : ChangeSpec := { name := "fnGinStatic", fn := fun _ => fun
  | [d1, d2] => { results := [.lit (.bool true)], args := [d1, d2] }
  | _ => none }
def fnGinStaticRow : OpenClaim := { program := "ytnopecnbpflodaa", sum := "8bd563439bcde181bff1ca1feee90402c7b7bba66e566078ecb2eb87ce9bb5a5", func := "pub-bridleway/laws.FnGinStatic", spec := "fnGinStatic", inPlace := ["internal/bytealg.IndexByteString"], unfollowed := true, recurses := true, apart := false }
def FnGinStaticSaid : Prop := fnGinStaticRow.holds Try.pinned (OpenSpec.ofChange fnGinStaticSpec)

/-- ITS FALSE NEIGHBOUR: 'it returns false'. Refute it at one input. -/
def fnGinStaticWrong : ChangeSpec := { name := "fnGinStatic", fn := fun _ => fun
  | [d1, d2] => { results := [.lit (.bool false)], args := [d1, d2] }
  | _ => none }
def FnGinStaticWrongFalsely : Prop := fnGinStaticRow.holds Try.pinned (OpenSpec.ofChange fnGinStaticWrong)

/-- 'laws.FnGinUnescape': WHATEVER THE INPUT: true; the input reads as it did. -/
def fnGinUnescapeSpec : ChangeSpec := { name := "fnGinUnescape", fn := fun _ => fun
  | [d1, d2] => { results := [.lit (.bool true)], args := [d1, d2] }
  | _ => none }
def fnGinUnescapeRow : OpenClaim := { program := "ytnopecnbpflodaa", sum := "8bd563439bcde181bff1ca1feee90402c7b7bba66e566078ecb2eb87ce9bb5a5", func := "pub-bridleway/laws.FnGinUnescape", spec := "fnGinUnescape", inPlace := ["internal/bytealg.IndexByteString"], unfollowed := true, recurses := true, apart := false }
def FnGinUnescapeSaid : Prop := fnGinUnescapeRow.holds Try.pinned (OpenSpec.ofChange fnGinUnescapeSpec)

/-- ITS FALSE NEIGHBOUR: 'it returns false'. Refute it at one input. -/
def fnGinUnescapeWrong : ChangeSpec := { name := "fnGinUnescape", fn := fun _ => fun
  | [d1, d2] => { results := [.lit (.bool false)], args := [d1, d2] }
  | _ => none }
def FnGinUnescapeWrongFalsely : Prop := fnGinUnescapeRow.holds Try.pinned (OpenSpec.ofChange fnGinUnescapeWrong)

/-- 'laws.FnWholeGroup': WHATEVER THE INPUT: true; the input reads as it did. -/
def fnWholeGroupSpec : ChangeSpec := { name := "fnWholeGroup", fn := fun _ => fun
  | [d1, d2, d3] => { results := [.lit (.bool true)], args := [d1, d2, d3] }
  | _ => none }
def fnWholeGroupRow : OpenClaim := { program := "ytnopecnbpflodaa", sum := "8bd563439bcde181bff1ca1feee90402c7b7bba66e566078ecb2eb87ce9bb5a5", func := "pub-bridleway/laws.FnWholeGroup", spec := "fnWholeGroup", inPlace := ["internal/bytealg.IndexByteString"], unfollowed := true, recurses := true, apart := false }
def FnWholeGroupSaid : Prop := fnWholeGroupRow.holds Try.pinned (OpenSpec.ofChange fnWholeGroupSpec)

/-- ITS FALSE NEIGHBOUR: 'it returns false'. Refute it at one input. -/
def fnWholeGroupWrong : ChangeSpec := { name := "fnWholeGroup", fn := fun _ => fun
  | [d1, d2, d3] => { results := [.lit (.bool false)], args := [d1, d2, d3] }
  | _ => none }
def FnWholeGroupWrongFalsely : Prop := fnWholeGroupRow.holds Try.pinned (OpenSpec.ofChange fnWholeGroupWrong)

/-- 'laws.FnGinFind': WHATEVER THE INPUT: true; the input reads as it did. -/
def fnGinFindSpec : ChangeSpec := { name := "fnGinFind", fn := fun _ => fun
  | [d1, d2] => { results := [.lit (.bool true)], args := [d1, d2] }
  | _ => none }
def fnGinFindRow : OpenClaim := { program := "ytnopecnbpflodaa", sum := "8bd563439bcde181bff1ca1feee90402c7b7bba66e566078ecb2eb87ce9bb5a5", func := "pub-bridleway/laws.FnGinFind", spec := "fnGinFind", inPlace := ["internal/bytealg.IndexByteString"], unfollowed := true, recurses := true, apart := false }
def FnGinFindSaid : Prop := fnGinFindRow.holds Try.pinned (OpenSpec.ofChange fnGinFindSpec)

/-- ITS FALSE NEIGHBOUR: 'it returns false'. Refute it at one input. -/
def fnGinFindWrong : ChangeSpec := { name := "fnGinFind", fn := fun _ => fun
  | [d1, d2] => { results := [.lit (.bool false)], args := [d1, d2] }
  | _ => none }
def FnGinFindWrongFalsely : Prop := fnGinFindRow.holds Try.pinned (OpenSpec.ofChange fnGinFindWrong)

/-- 'laws.FnGinLess': WHATEVER THE INPUT: true; the input reads as it did. -/
def fnGinLessSpec : ChangeSpec := { name := "fnGinLess", fn := fun _ => fun
  | [d1, d2, d3] => { results := [.lit (.bool true)], args := [d1, d2, d3] }
  | _ => none }
def fnGinLessRow : OpenClaim := { program := "ytnopecnbpflodaa", sum := "8bd563439bcde181bff1ca1feee90402c7b7bba66e566078ecb2eb87ce9bb5a5", func := "pub-bridleway/laws.FnGinLess", spec := "fnGinLess", inPlace := ["internal/bytealg.IndexByteString"], unfollowed := true, recurses := true, apart := false }
def FnGinLessSaid : Prop := fnGinLessRow.holds Try.pinned (OpenSpec.ofChange fnGinLessSpec)

/-- ITS FALSE NEIGHBOUR: 'it returns false'. Refute it at one input. -/
def fnGinLessWrong : ChangeSpec := { name := "fnGinLess", fn := fun _ => fun
  | [d1, d2, d3] => { results := [.lit (.bool false)], args := [d1, d2, d3] }
  | _ => none }
def FnGinLessWrongFalsely : Prop := fnGinLessRow.holds Try.pinned (OpenSpec.ofChange fnGinLessWrong)

/-- 'laws.FnGinMany': WHATEVER THE INPUT: true; the input reads as it did. -/
def fnGinManySpec : ChangeSpec := { name := "fnGinMany", fn := fun _ => fun
  | [d1, d2] => { results := [.lit (.bool true)], args := [d1, d2] }
  | _ => none }
def fnGinManyRow : OpenClaim := { program := "ytnopecnbpflodaa", sum := "8bd563439bcde181bff1ca1feee90402c7b7bba66e566078ecb2eb87ce9bb5a5", func := "pub-bridleway/laws.FnGinMany", spec := "fnGinMany", inPlace := ["internal/bytealg.IndexByteString"], unfollowed := true, recurses := true, apart := false }
def FnGinManySaid : Prop := fnGinManyRow.holds Try.pinned (OpenSpec.ofChange fnGinManySpec)

/-- ITS FALSE NEIGHBOUR: 'it returns false'. Refute it at one input. -/
def fnGinManyWrong : ChangeSpec := { name := "fnGinMany", fn := fun _ => fun
  | [d1, d2] => { results := [.lit (.bool false)], args := [d1, d2] }
  | _ => none }
def FnGinManyWrongFalsely : Prop := fnGinManyRow.holds Try.pinned (OpenSpec.ofChange fnGinManyWrong)

/- THE SECOND FORM. 'bulk': how many values and letters a reading holds, each counted each time it is reached (what is shared counts as often as it is met; a slice's spare places count too). A statement '..UptoSaid' is the law's where the arguments, and the package variables that the reading takes, are together of bulk at most 1048576: NARROWER than '..Said'. Prove '..Said' where nothing that the law and all that it calls make is longer than what came in: it says more and counts as full. Else prove '..UptoSaid'. A law counts once. -/
mutual
def uptoBulk {H : Type} : DataW H → Nat
  | .lit (.string bytes) => bytes.length + 1
  | .lit _ => 1
  | .nil => 1
  | .ptr d => uptoBulk d + 1
  | .slice elems spare => uptoBulkAll elems + uptoBulkAll spare + 1
  | .agg parts => uptoBulkAll parts + 1
  | .iface _ d => uptoBulk d + 1
  | .map entries => uptoBulkEntries entries + 1
  | .held _ => 1
def uptoBulkAll {H : Type} : List (DataW H) → Nat
  | [] => 0
  | d :: r => uptoBulk d + uptoBulkAll r
def uptoBulkEntries {H : Type} : List (Lit × DataW H) → Nat
  | [] => 0
  | x :: r => uptoBulkEntry x + uptoBulkEntries r
def uptoBulkEntry {H : Type} : Lit × DataW H → Nat
  | (.string bytes, d) => bytes.length + uptoBulk d + 1
  | (_, d) => uptoBulk d + 1
 end
def uptoSmall : (H : Type) → List (DataW H) → Bool := fun _ ds => decide (uptoBulkAll ds ≤ 1048576)
def OpenSpec.upto (s : _root_.Go.ChangeSpec) : _root_.Go.OpenSpec := { _root_.Go.OpenSpec.ofChange s with cond := some uptoSmall }

/-- 'laws.FnGinUnescaped', WHERE WHAT IT READS IS OF BULK AT MOST 1048576: true; the input reads as it did. -/
def fnGinUnescapedUptoRow : OpenClaim := { program := "ytnopecnbpflodaa", sum := "8bd563439bcde181bff1ca1feee90402c7b7bba66e566078ecb2eb87ce9bb5a5", func := "pub-bridleway/laws.FnGinUnescaped", spec := "fnGinUnescaped", unfollowed := true, recurses := true, apart := false, narrowed := true }
def FnGinUnescapedUptoSaid : Prop := fnGinUnescapedUptoRow.holds Try.pinned (OpenSpec.upto fnGinUnescapedSpec)

/-- 'laws.FnGinRefused', WHERE WHAT IT READS IS OF BULK AT MOST 1048576: true; the input reads as it did. -/
def fnGinRefusedUptoRow : OpenClaim := { program := "ytnopecnbpflodaa", sum := "8bd563439bcde181bff1ca1feee90402c7b7bba66e566078ecb2eb87ce9bb5a5", func := "pub-bridleway/laws.FnGinRefused", spec := "fnGinRefused", unfollowed := true, recurses := true, apart := false, narrowed := true }
def FnGinRefusedUptoSaid : Prop := fnGinRefusedUptoRow.holds Try.pinned (OpenSpec.upto fnGinRefusedSpec)

/-- 'laws.FnGinAdd', WHERE WHAT IT READS IS OF BULK AT MOST 1048576: true; the input reads as it did. -/
def fnGinAddUptoRow : OpenClaim := { program := "ytnopecnbpflodaa", sum := "8bd563439bcde181bff1ca1feee90402c7b7bba66e566078ecb2eb87ce9bb5a5", func := "pub-bridleway/laws.FnGinAdd", spec := "fnGinAdd", unfollowed := true, recurses := true, apart := false, narrowed := true }
def FnGinAddUptoSaid : Prop := fnGinAddUptoRow.holds Try.pinned (OpenSpec.upto fnGinAddSpec)

/-- 'laws.FnGinOrder', WHERE WHAT IT READS IS OF BULK AT MOST 1048576: true; the input reads as it did. -/
def fnGinOrderUptoRow : OpenClaim := { program := "ytnopecnbpflodaa", sum := "8bd563439bcde181bff1ca1feee90402c7b7bba66e566078ecb2eb87ce9bb5a5", func := "pub-bridleway/laws.FnGinOrder", spec := "fnGinOrder", unfollowed := true, recurses := true, apart := false, narrowed := true }
def FnGinOrderUptoSaid : Prop := fnGinOrderUptoRow.holds Try.pinned (OpenSpec.upto fnGinOrderSpec)

/-- 'laws.FnGinFilled', WHERE WHAT IT READS IS OF BULK AT MOST 1048576: true; the input reads as it did. -/
def fnGinFilledUptoRow : OpenClaim := { program := "ytnopecnbpflodaa", sum := "8bd563439bcde181bff1ca1feee90402c7b7bba66e566078ecb2eb87ce9bb5a5", func := "pub-bridleway/laws.FnGinFilled", spec := "fnGinFilled", inPlace := ["internal/bytealg.IndexByteString"], unfollowed := true, recurses := true, apart := false, narrowed := true }
def FnGinFilledUptoSaid : Prop := fnGinFilledUptoRow.holds Try.pinned (OpenSpec.upto fnGinFilledSpec)

/-- 'laws.FnGinStatic', WHERE WHAT IT READS IS OF BULK AT MOST 1048576: true; the input reads as it did. -/
def fnGinStaticUptoRow : OpenClaim := { program := "ytnopecnbpflodaa", sum := "8bd563439bcde181bff1ca1feee90402c7b7bba66e566078ecb2eb87ce9bb5a5", func := "pub-bridleway/laws.FnGinStatic", spec := "fnGinStatic", inPlace := ["internal/bytealg.IndexByteString"], unfollowed := true, recurses := true, apart := false, narrowed := true }
def FnGinStaticUptoSaid : Prop := fnGinStaticUptoRow.holds Try.pinned (OpenSpec.upto fnGinStaticSpec)

/-- 'laws.FnGinUnescape', WHERE WHAT IT READS IS OF BULK AT MOST 1048576: true; the input reads as it did. -/
def fnGinUnescapeUptoRow : OpenClaim := { program := "ytnopecnbpflodaa", sum := "8bd563439bcde181bff1ca1feee90402c7b7bba66e566078ecb2eb87ce9bb5a5", func := "pub-bridleway/laws.FnGinUnescape", spec := "fnGinUnescape", inPlace := ["internal/bytealg.IndexByteString"], unfollowed := true, recurses := true, apart := false, narrowed := true }
def FnGinUnescapeUptoSaid : Prop := fnGinUnescapeUptoRow.holds Try.pinned (OpenSpec.upto fnGinUnescapeSpec)

/-- 'laws.FnWholeGroup', WHERE WHAT IT READS IS OF BULK AT MOST 1048576: true; the input reads as it did. -/
def fnWholeGroupUptoRow : OpenClaim := { program := "ytnopecnbpflodaa", sum := "8bd563439bcde181bff1ca1feee90402c7b7bba66e566078ecb2eb87ce9bb5a5", func := "pub-bridleway/laws.FnWholeGroup", spec := "fnWholeGroup", inPlace := ["internal/bytealg.IndexByteString"], unfollowed := true, recurses := true, apart := false, narrowed := true }
def FnWholeGroupUptoSaid : Prop := fnWholeGroupUptoRow.holds Try.pinned (OpenSpec.upto fnWholeGroupSpec)

/-- 'laws.FnGinFind', WHERE WHAT IT READS IS OF BULK AT MOST 1048576: true; the input reads as it did. -/
def fnGinFindUptoRow : OpenClaim := { program := "ytnopecnbpflodaa", sum := "8bd563439bcde181bff1ca1feee90402c7b7bba66e566078ecb2eb87ce9bb5a5", func := "pub-bridleway/laws.FnGinFind", spec := "fnGinFind", inPlace := ["internal/bytealg.IndexByteString"], unfollowed := true, recurses := true, apart := false, narrowed := true }
def FnGinFindUptoSaid : Prop := fnGinFindUptoRow.holds Try.pinned (OpenSpec.upto fnGinFindSpec)

/-- 'laws.FnGinLess', WHERE WHAT IT READS IS OF BULK AT MOST 1048576: true; the input reads as it did. -/
def fnGinLessUptoRow : OpenClaim := { program := "ytnopecnbpflodaa", sum := "8bd563439bcde181bff1ca1feee90402c7b7bba66e566078ecb2eb87ce9bb5a5", func := "pub-bridleway/laws.FnGinLess", spec := "fnGinLess", inPlace := ["internal/bytealg.IndexByteString"], unfollowed := true, recurses := true, apart := false, narrowed := true }
def FnGinLessUptoSaid : Prop := fnGinLessUptoRow.holds Try.pinned (OpenSpec.upto fnGinLessSpec)

/-- 'laws.FnGinMany', WHERE WHAT IT READS IS OF BULK AT MOST 1048576: true; the input reads as it did. -/
def fnGinManyUptoRow : OpenClaim := { program := "ytnopecnbpflodaa", sum := "8bd563439bcde181bff1ca1feee90402c7b7bba66e566078ecb2eb87ce9bb5a5", func := "pub-bridleway/laws.FnGinMany", spec := "fnGinMany", inPlace := ["internal/bytealg.IndexByteString"], unfollowed := true, recurses := true, apart := false, narrowed := true }
def FnGinManyUptoSaid : Prop := fnGinManyUptoRow.holds Try.pinned (OpenSpec.upto fnGinManySpec)

end Rows
end Go.Proofs.Ytnopecnbpflodaa
