/-
  DERIVED: THE SHELF's CONTRACTS AT THIS DUMP, IN PLAIN WORDS (tools/lay-plain.mjs out of 'TrydShelf.lean', which tools/lay-shelf.mjs wrote): THE SAME DECLARATIONS UNDER THE SAME NAMES: 'import', 'namespace', 'open', 'def', 'theorem' AND NOTHING ELSE: no command of the shelf's: FOR A HAND-IN. Each laying: the table of numbers ('.._ren') and one theorem, a field a fact of the dump's own or the kernel's comparison; each contract: ONE APPLICATION.
-/
import Derived.Shelf.Small.Bits
import Derived.Shelf.Small.Strs
import Derived.Shelf.Strconv.Itoa0
import Derived.Shelf.LaysM
import Derived.Shelf.Bytes.Len
import Derived.Shelf.Bytes.TryGrow
import Derived.Shelf.Bytes.GrowSliceCatch
import Derived.Shelf.Bytes.GrowSlice
import Derived.Shelf.Bytes.String
import Derived.Shelf.Bytes.GrowRow0Kept
import Derived.Shelf.Bytes.GrowRowKept
import Derived.Shelf.Bytes.GrowNilKept
import Derived.Shelf.Bytes.GrowKept
import Derived.Shelf.Bytes.WriteByteKept
import Derived.Shelf.Bytes.WriteStringKept
import Derived.Shelf.Sort.Plain
import Derived.Shelf.Bytes.ResetKept
import Derived.Shelf.Bytes.BufferK
import Derived.Ground.GgsProg
import Derived.Shelf.GgSortFunc.Insertion
import Derived.Shelf.GgSortFunc.Small
import Derived.Shelf.GgSortFunc.InsertionK
import Derived.Shelf.GgSortFunc.SmallK
import Derived.Shelf.GgSortFunc.Compose
import Derived.Shelf.GgSortFunc.LotD
import Derived.Shelf.Bytes.LenAt
import Derived.Shelf.Bytes.StringAt
import Derived.Shelf.Bytes.TryGrowAt
import Derived.Shelf.Bytes.GrowRow0At
import Derived.Shelf.Bytes.GrowRowAt
import Derived.Shelf.Bytes.GrowNilAt
import Derived.Shelf.Bytes.GrowAt
import Derived.Shelf.Bytes.WriteByteAt
import Derived.Shelf.Bytes.WriteStringAt
import Derived.Shelf.Slices.Equal
import Derived.Ground.Names2Prog
import Derived.Shelf.Slices.Clone
import Derived.Shelf.Slices.Delete
import Derived.Shelf.Slices.Cells
import Derived.Shelf.Slices.In.SortNone
import Derived.Shelf.Slices.Empties
import Derived.Shelf.Slices.Empties2
import Derived.Shelf.SlSortFunc.Xorshift
import Derived.Shelf.SlSortFuncK.ComposeK
import Derived.Shelf.SlSortFuncK.SiftDownK
import Derived.Shelf.SlSortFuncK.HeapSortK
import Derived.Shelf.SlSortFuncK.PartialInsertionK
import Derived.Shelf.SlSortFuncK.LotDK
import Derived.Shelf.SlSortFuncK.PivotK
import Derived.Shelf.SlSortFuncK.PartitionK
import Derived.Shelf.SlSortFuncK.PdqK
import Derived.Shelf.SlSortFuncK.WholeK
import Derived.Test.YtekclaobeccbdaaDoorProg
namespace Go.Proofs
open Go.Shelf
def Tryd.lays128_ren : Go.Shelf.Ren := ⟨fun | 128 => 71 | n => n, fun | 51 => 112 | 3 => 3 | 4 => 4 | 46 => 77 | 5 => 5 | 9 => 9 | n => n, fun | n => n⟩
theorem Tryd.lays128 : Go.Proofs.Lays.n128 Tryd.prog Tryd.lays128_ren := {
  mixed := by kernel_rfl
  f128 := Tryd.func71.trans (congrArg some (by kernel_rfl))
  t3 := Tryd.underlying3
  a3 := Tryd.isAgg3
  z3 := Tryd.sizeOf3
  v3 := Tryd.zeroValue3
  t4 := Tryd.underlying4
  a4 := Tryd.isAgg4
  z4 := Tryd.sizeOf4
  v4 := Tryd.zeroValue4
  t5 := Tryd.underlying5
  a5 := Tryd.isAgg5
  z5 := Tryd.sizeOf5
  v5 := Tryd.zeroValue5
  t9 := Tryd.underlying9
  a9 := Tryd.isAgg9
  z9 := Tryd.sizeOf9
  v9 := Tryd.zeroValue9
  t46 := Tryd.underlying77
  a46 := Tryd.isAgg77
  z46 := Tryd.sizeOf77
  v46 := Tryd.zeroValue77
  t51 := Tryd.underlying112
  a51 := Tryd.isAgg112
  z51 := Tryd.sizeOf112
  v51 := Tryd.zeroValue112 }
/-- bits.Len32: "Len32 returns the minimum number of bits required to represent x; the result is 0 for x == 0.": IT RETURNS 'Lib.bitLen x'; the world is as it was. ('h0', 'h1': x is a uint32.) (LAID: no walk: one application.) -/
theorem Tryd.bits_Len32 (x : Int) (w : World) (h0 : 0 ≤ x) (h1 : x ≤ 4294967295) :
    Calls Tryd.prog 71 #[.int .u32 x] w fun e w' => e = .returned (.int .i64 (Lib.bitLen x.toNat)) ∧ w' = w := Any.bits_Len32 Tryd.lays128 x w h0 h1
def Tryd.lays125_ren : Go.Shelf.Ren := ⟨fun | 125 => 47 | 128 => 71 | 129 => 72 | n => n, fun | 46 => 77 | 3 => 3 | 51 => 112 | 53 => 114 | 4 => 4 | 5 => 5 | 9 => 9 | n => n, fun | n => n⟩
theorem Tryd.lays125 : Go.Proofs.Lays.n125 Tryd.prog Tryd.lays125_ren := {
  mixed := by kernel_rfl
  f125 := Tryd.func47.trans (congrArg some (by kernel_rfl))
  f128 := Tryd.func71.trans (congrArg some (by kernel_rfl))
  f129 := Tryd.func72.trans (congrArg some (by kernel_rfl))
  t3 := Tryd.underlying3
  a3 := Tryd.isAgg3
  z3 := Tryd.sizeOf3
  v3 := Tryd.zeroValue3
  t4 := Tryd.underlying4
  a4 := Tryd.isAgg4
  z4 := Tryd.sizeOf4
  v4 := Tryd.zeroValue4
  t5 := Tryd.underlying5
  a5 := Tryd.isAgg5
  z5 := Tryd.sizeOf5
  v5 := Tryd.zeroValue5
  t9 := Tryd.underlying9
  a9 := Tryd.isAgg9
  z9 := Tryd.sizeOf9
  v9 := Tryd.zeroValue9
  t46 := Tryd.underlying77
  a46 := Tryd.isAgg77
  z46 := Tryd.sizeOf77
  v46 := Tryd.zeroValue77
  t51 := Tryd.underlying112
  a51 := Tryd.isAgg112
  z51 := Tryd.sizeOf112
  v51 := Tryd.zeroValue112
  t53 := Tryd.underlying114
  a53 := Tryd.isAgg114
  z53 := Tryd.sizeOf114
  v53 := Tryd.zeroValue114 }
/-- bits.Len: "Len returns the minimum number of bits required to represent x; the result is 0 for x == 0.": IT RETURNS 'Lib.bitLen x'; the world is as it was. (A uint has 64 bits in the model.) ITS CALLEE bits.Len64 IS MET BY ITS OWN CONTRACT OFF THE SHELF (lay that first). (LAID: no walk: one application.) -/
theorem Tryd.bits_Len (x : Int) (w : World) (h0 : 0 ≤ x) (h1 : x ≤ 18446744073709551615) :
    Calls Tryd.prog 47 #[.int .u64 x] w fun e w' => e = .returned (.int .i64 (Lib.bitLen x.toNat)) ∧ w' = w := Any.bits_Len Tryd.lays125 x w h0 h1
def Tryd.lays213_ren : Go.Shelf.Ren := ⟨fun | 213 => 48 | 265 => 73 | n => n, fun | 9 => 9 | 3 => 3 | n => n, fun | n => n⟩
theorem Tryd.lays213 : Go.Proofs.Lays.n213 Tryd.prog Tryd.lays213_ren := {
  mixed := by kernel_rfl
  f213 := Tryd.func48.trans (congrArg some (by kernel_rfl))
  f265 := Tryd.func73.trans (congrArg some (by kernel_rfl))
  t3 := Tryd.underlying3
  a3 := Tryd.isAgg3
  z3 := Tryd.sizeOf3
  v3 := Tryd.zeroValue3
  t9 := Tryd.underlying9
  a9 := Tryd.isAgg9
  z9 := Tryd.sizeOf9
  v9 := Tryd.zeroValue9 }
open Go.RowKit in
/-- internal/bytealg.CompareString (what strings.Compare calls): IT RETURNS 'Lib.compareBytes a b'; the world is as it was. (LAID: no walk: one application.) -/
theorem Tryd.bytealg_CompareString (a b : ByteArray) (w : World) :
    Calls Tryd.prog 48 #[.string a, .string b] w fun e w' => e = .returned (.int .i64 (Lib.compareBytes a.data.toList b.data.toList)) ∧ w' = w := Any.bytealg_CompareString Tryd.lays213 a b w
def Tryd.lays106_ren : Go.Shelf.Ren := ⟨fun | 106 => 31 | 213 => 48 | 265 => 73 | n => n, fun | 9 => 9 | 3 => 3 | n => n, fun | n => n⟩
theorem Tryd.lays106 : Go.Proofs.Lays.n106 Tryd.prog Tryd.lays106_ren := {
  mixed := by kernel_rfl
  f106 := Tryd.func31.trans (congrArg some (by kernel_rfl))
  f213 := Tryd.func48.trans (congrArg some (by kernel_rfl))
  f265 := Tryd.func73.trans (congrArg some (by kernel_rfl))
  t3 := Tryd.underlying3
  a3 := Tryd.isAgg3
  z3 := Tryd.sizeOf3
  v3 := Tryd.zeroValue3
  t9 := Tryd.underlying9
  a9 := Tryd.isAgg9
  z9 := Tryd.sizeOf9
  v9 := Tryd.zeroValue9 }
open Go.RowKit in
/-- strings.Compare: "Compare returns an integer comparing two strings lexicographically. The result will be 0 if a == b, -1 if a < b, and +1 if a > b.": IT RETURNS 'Lib.compareBytes a b'; the world is as it was. (LAID: no walk: one application.) -/
theorem Tryd.strings_Compare (a b : ByteArray) (w : World) :
    Calls Tryd.prog 31 #[.string a, .string b] w fun e w' => e = .returned (.int .i64 (Lib.compareBytes a.data.toList b.data.toList)) ∧ w' = w := Any.strings_Compare Tryd.lays106 a b w
def Tryd.lays129_ren : Go.Shelf.Ren := ⟨fun | 129 => 72 | n => n, fun | 53 => 114 | 3 => 3 | 4 => 4 | 46 => 77 | 5 => 5 | 9 => 9 | n => n, fun | n => n⟩
theorem Tryd.lays129 : Go.Proofs.Lays.n129 Tryd.prog Tryd.lays129_ren := {
  mixed := by kernel_rfl
  f129 := Tryd.func72.trans (congrArg some (by kernel_rfl))
  t3 := Tryd.underlying3
  a3 := Tryd.isAgg3
  z3 := Tryd.sizeOf3
  v3 := Tryd.zeroValue3
  t4 := Tryd.underlying4
  a4 := Tryd.isAgg4
  z4 := Tryd.sizeOf4
  v4 := Tryd.zeroValue4
  t5 := Tryd.underlying5
  a5 := Tryd.isAgg5
  z5 := Tryd.sizeOf5
  v5 := Tryd.zeroValue5
  t9 := Tryd.underlying9
  a9 := Tryd.isAgg9
  z9 := Tryd.sizeOf9
  v9 := Tryd.zeroValue9
  t46 := Tryd.underlying77
  a46 := Tryd.isAgg77
  z46 := Tryd.sizeOf77
  v46 := Tryd.zeroValue77
  t53 := Tryd.underlying114
  a53 := Tryd.isAgg114
  z53 := Tryd.sizeOf114
  v53 := Tryd.zeroValue114 }
/-- bits.Len64: "Len64 returns the minimum number of bits required to represent x; the result is 0 for x == 0.": IT RETURNS 'Lib.bitLen x'; the world is as it was. ('h0', 'h1': x is a uint64.) (LAID: no walk: one application.) -/
theorem Tryd.bits_Len64 (x : Int) (w : World) (h0 : 0 ≤ x) (h1 : x ≤ 18446744073709551615) :
    Calls Tryd.prog 72 #[.int .u64 x] w fun e w' => e = .returned (.int .i64 (Lib.bitLen x.toNat)) ∧ w' = w := Any.bits_Len64 Tryd.lays129 x w h0 h1
def Tryd.laysM181_ren : Go.Shelf.Ren := ⟨fun | 181 => 136 | n => n, fun | 130 => 171 | 3 => 3 | 0 => 0 | 93 => 175 | 37 => 58 | 91 => 173 | 5 => 5 | n => n, fun | n => n⟩
theorem Tryd.laysM181 : Go.Proofs.LaysM.n181 Tryd.prog Tryd.laysM181_ren := {
  mixed := by kernel_rfl
  f181 := Tryd.func136.trans (congrArg some (by kernel_rfl))
  t0 := Tryd.underlying0
  a0 := Tryd.isAgg0
  z0 := Tryd.sizeOf0
  v0 := Tryd.zeroValue0
  t3 := Tryd.underlying3
  a3 := Tryd.isAgg3
  z3 := Tryd.sizeOf3
  v3 := Tryd.zeroValue3
  t37 := Tryd.underlying58
  a37 := Tryd.isAgg58
  z37 := Tryd.sizeOf58
  v37 := Tryd.zeroValue58
  t93 := Tryd.underlying175
  a93 := Tryd.isAgg175
  z93 := Tryd.sizeOf175
  v93 := Tryd.zeroValue175
  t130 := Tryd.underlying171
  a130 := Tryd.isAgg171
  z130 := Tryd.sizeOf171
  v130 := Tryd.zeroValue171
  t5 := Tryd.underlying5
  a5 := Tryd.isAgg5
  z5 := Tryd.sizeOf5
  v5 := Tryd.zeroValue5
  t91 := Tryd.underlying173
  a91 := Tryd.isAgg173
  z91 := Tryd.sizeOf173
  v91 := Tryd.zeroValue173
  i0 := by kernel_rfl
  i3 := by kernel_rfl
  i5 := by kernel_rfl
  i37 := by kernel_rfl
  i91 := by kernel_rfl
  i93 := by kernel_rfl
  i130 := by kernel_rfl }
open Go.RowKit in
/-- (*bytes.Buffer).Len: "Len returns the number of bytes of the unread portion of the buffer; b.Len() == len(b.Bytes()).": the world is as it was but for the count of draws (the statement has two reads: its order is drawn). (LAID: no walk: one application.) -/
theorem Tryd.Buffer_Len (B b : Nat) (bs : List Value) (w : World) (h : Lib.IsBuffer 175 5 B b bs w) :
    Calls Tryd.prog 136 #[.pointer (some ⟨b, 0, none⟩)] w fun e w' => e = .returned (.int .i64 bs.length) ∧ ∃ n, w' = w.drewN n := Any.Buffer_Len Tryd.laysM181 B b bs w h
def Tryd.laysM251_ren : Go.Shelf.Ren := ⟨fun | 251 => 131 | n => n, fun | 130 => 171 | 3 => 3 | 4 => 4 | 0 => 0 | 93 => 175 | 37 => 58 | 91 => 173 | 5 => 5 | n => n, fun | n => n⟩
theorem Tryd.laysM251 : Go.Proofs.LaysM.n251 Tryd.prog Tryd.laysM251_ren := {
  mixed := by kernel_rfl
  f251 := Tryd.func131.trans (congrArg some (by kernel_rfl))
  t0 := Tryd.underlying0
  a0 := Tryd.isAgg0
  z0 := Tryd.sizeOf0
  v0 := Tryd.zeroValue0
  t3 := Tryd.underlying3
  a3 := Tryd.isAgg3
  z3 := Tryd.sizeOf3
  v3 := Tryd.zeroValue3
  t4 := Tryd.underlying4
  a4 := Tryd.isAgg4
  z4 := Tryd.sizeOf4
  v4 := Tryd.zeroValue4
  t37 := Tryd.underlying58
  a37 := Tryd.isAgg58
  z37 := Tryd.sizeOf58
  v37 := Tryd.zeroValue58
  t93 := Tryd.underlying175
  a93 := Tryd.isAgg175
  z93 := Tryd.sizeOf175
  v93 := Tryd.zeroValue175
  t130 := Tryd.underlying171
  a130 := Tryd.isAgg171
  z130 := Tryd.sizeOf171
  v130 := Tryd.zeroValue171
  t5 := Tryd.underlying5
  a5 := Tryd.isAgg5
  z5 := Tryd.sizeOf5
  v5 := Tryd.zeroValue5
  t91 := Tryd.underlying173
  a91 := Tryd.isAgg173
  z91 := Tryd.sizeOf173
  v91 := Tryd.zeroValue173
  i0 := by kernel_rfl
  i3 := by kernel_rfl
  i4 := by kernel_rfl
  i5 := by kernel_rfl
  i37 := by kernel_rfl
  i91 := by kernel_rfl
  i93 := by kernel_rfl
  i130 := by kernel_rfl }
open Go.RowKit in
/-- (*bytes.Buffer).tryGrowByReslice: "tryGrowByReslice is an inlineable version of grow for the fast-case where the internal buffer only needs to be resliced. It returns the index where bytes should be written and whether it succeeded.": THERE IS ROOM: 'buf' is resliced to l + n. (LAID: no walk: one application.) -/
theorem Tryd.Buffer_tryGrow_room (b : Nat) (ao : Option Addr) (l cap n : Nat) (w : World) (c0 : w.cell? ⟨b, 0, none⟩ = some (.slice ao l cap)) (f0 : w.frozen? ⟨b, 0, none⟩ = false) (hlc : l ≤ cap) (hcap : cap ≤ maxLen) (hn : n ≤ cap - l) :
    Calls Tryd.prog 131 #[.pointer (some ⟨b, 0, none⟩), .int .i64 n] w fun e w' => e = .returned (.tuple #[.int .i64 l, .bool true]) ∧ w' = w.setCell ⟨b, 0, none⟩ (.slice ao (l + n) cap) := Any.Buffer_tryGrow_room Tryd.laysM251 b ao l cap n w c0 f0 hlc hcap hn
open Go.RowKit in
/-- .. THERE IS NONE: nothing turns. (LAID: no walk: one application.) -/
theorem Tryd.Buffer_tryGrow_none (b : Nat) (ao : Option Addr) (l cap n : Nat) (w : World) (c0 : w.cell? ⟨b, 0, none⟩ = some (.slice ao l cap)) (hlc : l ≤ cap) (hcap : cap ≤ maxLen) (hn : cap - l < n) :
    Calls Tryd.prog 131 #[.pointer (some ⟨b, 0, none⟩), .int .i64 n] w fun e w' => e = .returned (.tuple #[.int .i64 0, .bool false]) ∧ w' = w := Any.Buffer_tryGrow_none Tryd.laysM251 b ao l cap n w c0 hlc hcap hn
def Tryd.laysM324_ren : Go.Shelf.Ren := ⟨fun | 324 => 143 | n => n, fun | 20 => 20 | 4 => 4 | 75 => 177 | 0 => 0 | 80 => 181 | 9 => 9 | n => n, fun | 14 => 1 | n => n⟩
theorem Tryd.laysM324 : Go.Proofs.LaysM.n324 Tryd.prog Tryd.laysM324_ren := {
  mixed := by kernel_rfl
  f324 := Tryd.func143.trans (congrArg some (by kernel_rfl))
  t0 := Tryd.underlying0
  a0 := Tryd.isAgg0
  z0 := Tryd.sizeOf0
  v0 := Tryd.zeroValue0
  t4 := Tryd.underlying4
  a4 := Tryd.isAgg4
  z4 := Tryd.sizeOf4
  v4 := Tryd.zeroValue4
  t20 := Tryd.underlying20
  a20 := Tryd.isAgg20
  z20 := Tryd.sizeOf20
  v20 := Tryd.zeroValue20
  t75 := Tryd.underlying177
  a75 := Tryd.isAgg177
  z75 := Tryd.sizeOf177
  v75 := Tryd.zeroValue177
  g14 := by kernel_rfl
  t9 := Tryd.underlying9
  a9 := Tryd.isAgg9
  z9 := Tryd.sizeOf9
  v9 := Tryd.zeroValue9
  t80 := Tryd.underlying181
  a80 := Tryd.isAgg181
  z80 := Tryd.sizeOf181
  v80 := Tryd.zeroValue181
  i0 := by kernel_rfl
  i4 := by kernel_rfl
  i9 := by kernel_rfl
  i20 := by kernel_rfl
  i75 := by kernel_rfl
  i80 := by kernel_rfl
  m14 := by kernel_rfl }
theorem Tryd.growSlice_catch_idle (w : World) :
    CallsD Tryd.prog 143 #[] .returning w fun e u' w' => e = .returned (.tuple #[]) ∧ u' = .returning ∧ w' = w := Any.growSlice_catch_idle Tryd.laysM324 w
def Tryd.laysM290_ren : Go.Shelf.Ren := ⟨fun | 290 => 138 | 324 => 143 | n => n, fun | 37 => 58 | 3 => 3 | 0 => 0 | 4 => 4 | 20 => 20 | 75 => 177 | 5 => 5 | 80 => 181 | 9 => 9 | n => n, fun | 14 => 1 | n => n⟩
theorem Tryd.laysM290 : Go.Proofs.LaysM.n290 Tryd.prog Tryd.laysM290_ren := {
  mixed := by kernel_rfl
  f290 := Tryd.func138.trans (congrArg some (by kernel_rfl))
  f324 := Tryd.func143.trans (congrArg some (by kernel_rfl))
  t0 := Tryd.underlying0
  a0 := Tryd.isAgg0
  z0 := Tryd.sizeOf0
  v0 := Tryd.zeroValue0
  t3 := Tryd.underlying3
  a3 := Tryd.isAgg3
  z3 := Tryd.sizeOf3
  v3 := Tryd.zeroValue3
  t4 := Tryd.underlying4
  a4 := Tryd.isAgg4
  z4 := Tryd.sizeOf4
  v4 := Tryd.zeroValue4
  t20 := Tryd.underlying20
  a20 := Tryd.isAgg20
  z20 := Tryd.sizeOf20
  v20 := Tryd.zeroValue20
  t37 := Tryd.underlying58
  a37 := Tryd.isAgg58
  z37 := Tryd.sizeOf58
  v37 := Tryd.zeroValue58
  t75 := Tryd.underlying177
  a75 := Tryd.isAgg177
  z75 := Tryd.sizeOf177
  v75 := Tryd.zeroValue177
  g14 := by kernel_rfl
  t5 := Tryd.underlying5
  a5 := Tryd.isAgg5
  z5 := Tryd.sizeOf5
  v5 := Tryd.zeroValue5
  t9 := Tryd.underlying9
  a9 := Tryd.isAgg9
  z9 := Tryd.sizeOf9
  v9 := Tryd.zeroValue9
  t80 := Tryd.underlying181
  a80 := Tryd.isAgg181
  z80 := Tryd.sizeOf181
  v80 := Tryd.zeroValue181
  i0 := by kernel_rfl
  i3 := by kernel_rfl
  i4 := by kernel_rfl
  i5 := by kernel_rfl
  i9 := by kernel_rfl
  i20 := by kernel_rfl
  i37 := by kernel_rfl
  i75 := by kernel_rfl
  i80 := by kernel_rfl
  m14 := by kernel_rfl }
open Go.RowKit in
/-- bytes.growSlice: "growSlice grows b by n, preserving the original content of b.": OF A SLICE THAT LIES AT THE HEAD OF A ROW: a new row, number 'w.heap.size': it begins with b's l cells; its capacity has room for n more; whatever lay below is as it was. (LAID: no walk: one application.) -/
theorem Tryd.bytes_growSlice_row (g l c n : Nat) (cur : Array Value) (w : World) (hg : w.heap[g]? = some (.cells cur 5 (0, 0))) (hcs : cur.size = c) (hlc : l ≤ c) (hn : 1 ≤ n) (hlim : l + n ≤ 140737488355328) (hc2 : c ≤ 140737488355328) (h1 : ∀ v ∈ cur.toList.take l, v.oneCell' = true) :
    Calls Tryd.prog 138 #[.slice (some ⟨g, 0, none⟩) l c, .int .i64 n] w fun e w' => ∃ cap2 cells, e = .returned (.slice (some ⟨w.heap.size, 0, none⟩) l cap2) ∧ w'.heap[w.heap.size]? = some (.cells cells 5 (0, 0)) ∧
      cells.size = cap2 ∧ cells.toList.take l = cur.toList.take l ∧ l + n ≤ cap2 ∧ cap2 ≤ maxLen ∧ Below w.heap.size w w' := Any.bytes_growSlice_row Tryd.laysM290 g l c n cur w hg hcs hlc hn hlim hc2 h1
open Go.RowKit in
/-- .. OF THE NIL SLICE: a new row with room for n. (LAID: no walk: one application.) -/
theorem Tryd.bytes_growSlice_nil (n : Nat) (w : World) (hn : 1 ≤ n) (hlim : n ≤ 140737488355328) :
    Calls Tryd.prog 138 #[.slice none 0 0, .int .i64 n] w fun e w' => ∃ cap2 cells, e = .returned (.slice (some ⟨w.heap.size, 0, none⟩) 0 cap2) ∧ w'.heap[w.heap.size]? = some (.cells cells 5 (0, 0)) ∧
      cells.size = cap2 ∧ n ≤ cap2 ∧ cap2 ≤ maxLen ∧ Below w.heap.size w w' := Any.bytes_growSlice_nil Tryd.laysM290 n w hn hlim
def Tryd.laysM182_ren : Go.Shelf.Ren := ⟨fun | 182 => 118 | n => n, fun | 130 => 171 | 9 => 9 | 4 => 4 | 0 => 0 | 93 => 175 | 37 => 58 | 3 => 3 | 91 => 173 | 5 => 5 | n => n, fun | n => n⟩
theorem Tryd.laysM182 : Go.Proofs.LaysM.n182 Tryd.prog Tryd.laysM182_ren := {
  mixed := by kernel_rfl
  f182 := Tryd.func118.trans (congrArg some (by kernel_rfl))
  t0 := Tryd.underlying0
  a0 := Tryd.isAgg0
  z0 := Tryd.sizeOf0
  v0 := Tryd.zeroValue0
  t3 := Tryd.underlying3
  a3 := Tryd.isAgg3
  z3 := Tryd.sizeOf3
  v3 := Tryd.zeroValue3
  t4 := Tryd.underlying4
  a4 := Tryd.isAgg4
  z4 := Tryd.sizeOf4
  v4 := Tryd.zeroValue4
  t9 := Tryd.underlying9
  a9 := Tryd.isAgg9
  z9 := Tryd.sizeOf9
  v9 := Tryd.zeroValue9
  t37 := Tryd.underlying58
  a37 := Tryd.isAgg58
  z37 := Tryd.sizeOf58
  v37 := Tryd.zeroValue58
  t93 := Tryd.underlying175
  a93 := Tryd.isAgg175
  z93 := Tryd.sizeOf175
  v93 := Tryd.zeroValue175
  t130 := Tryd.underlying171
  a130 := Tryd.isAgg171
  z130 := Tryd.sizeOf171
  v130 := Tryd.zeroValue171
  t5 := Tryd.underlying5
  a5 := Tryd.isAgg5
  z5 := Tryd.sizeOf5
  v5 := Tryd.zeroValue5
  t91 := Tryd.underlying173
  a91 := Tryd.isAgg173
  z91 := Tryd.sizeOf173
  v91 := Tryd.zeroValue173
  i0 := by kernel_rfl
  i3 := by kernel_rfl
  i4 := by kernel_rfl
  i5 := by kernel_rfl
  i9 := by kernel_rfl
  i37 := by kernel_rfl
  i91 := by kernel_rfl
  i93 := by kernel_rfl
  i130 := by kernel_rfl }
open Go.RowKit in
/-- (*bytes.Buffer).String: "String returns the contents of the unread portion of the buffer as a string.": THE BYTES THAT WERE WRITTEN. The world is as it was but for the count of draws (the statement has two reads: its order is drawn). (LAID: no walk: one application.) -/
theorem Tryd.Buffer_String (B b : Nat) (l : List UInt8) (w : World) (h : Lib.IsBuffer 175 5 B b (Lib.byteCells l) w) :
    Calls Tryd.prog 118 #[.pointer (some ⟨b, 0, none⟩)] w fun e w' => e = .returned (.string ⟨l.toArray⟩) ∧ ∃ n, w' = w.drewN n := Any.Buffer_String Tryd.laysM182 B b l w h
def Tryd.laysM252_ren : Go.Shelf.Ren := ⟨fun | 252 => 132 | 181 => 136 | 184 => 137 | 251 => 131 | 290 => 138 | 324 => 143 | n => n, fun | 130 => 171 | 3 => 3 | 4 => 4 | 0 => 0 | 93 => 175 | 131 => 109 | 37 => 58 | 75 => 177 | 91 => 173 | 20 => 20 | 5 => 5 | 80 => 181 | 9 => 9 | n => n, fun | 14 => 1 | n => n⟩
theorem Tryd.laysM252 : Go.Proofs.LaysM.n252 Tryd.prog Tryd.laysM252_ren := {
  mixed := by kernel_rfl
  f181 := Tryd.func136.trans (congrArg some (by kernel_rfl))
  f184 := Tryd.func137.trans (congrArg some (by kernel_rfl))
  f251 := Tryd.func131.trans (congrArg some (by kernel_rfl))
  f252 := Tryd.func132.trans (congrArg some (by kernel_rfl))
  f290 := Tryd.func138.trans (congrArg some (by kernel_rfl))
  f324 := Tryd.func143.trans (congrArg some (by kernel_rfl))
  t0 := Tryd.underlying0
  a0 := Tryd.isAgg0
  z0 := Tryd.sizeOf0
  v0 := Tryd.zeroValue0
  t3 := Tryd.underlying3
  a3 := Tryd.isAgg3
  z3 := Tryd.sizeOf3
  v3 := Tryd.zeroValue3
  t4 := Tryd.underlying4
  a4 := Tryd.isAgg4
  z4 := Tryd.sizeOf4
  v4 := Tryd.zeroValue4
  t20 := Tryd.underlying20
  a20 := Tryd.isAgg20
  z20 := Tryd.sizeOf20
  v20 := Tryd.zeroValue20
  t37 := Tryd.underlying58
  a37 := Tryd.isAgg58
  z37 := Tryd.sizeOf58
  v37 := Tryd.zeroValue58
  t75 := Tryd.underlying177
  a75 := Tryd.isAgg177
  z75 := Tryd.sizeOf177
  v75 := Tryd.zeroValue177
  t91 := Tryd.underlying173
  a91 := Tryd.isAgg173
  z91 := Tryd.sizeOf173
  v91 := Tryd.zeroValue173
  t93 := Tryd.underlying175
  a93 := Tryd.isAgg175
  z93 := Tryd.sizeOf175
  v93 := Tryd.zeroValue175
  t130 := Tryd.underlying171
  a130 := Tryd.isAgg171
  z130 := Tryd.sizeOf171
  v130 := Tryd.zeroValue171
  t131 := Tryd.underlying109
  a131 := Tryd.isAgg109
  z131 := Tryd.sizeOf109
  v131 := Tryd.zeroValue109
  g14 := by kernel_rfl
  t5 := Tryd.underlying5
  a5 := Tryd.isAgg5
  z5 := Tryd.sizeOf5
  v5 := Tryd.zeroValue5
  t9 := Tryd.underlying9
  a9 := Tryd.isAgg9
  z9 := Tryd.sizeOf9
  v9 := Tryd.zeroValue9
  t80 := Tryd.underlying181
  a80 := Tryd.isAgg181
  z80 := Tryd.sizeOf181
  v80 := Tryd.zeroValue181
  i0 := by kernel_rfl
  i3 := by kernel_rfl
  i4 := by kernel_rfl
  i5 := by kernel_rfl
  i9 := by kernel_rfl
  i20 := by kernel_rfl
  i37 := by kernel_rfl
  i75 := by kernel_rfl
  i80 := by kernel_rfl
  i91 := by kernel_rfl
  i93 := by kernel_rfl
  i130 := by kernel_rfl
  i131 := by kernel_rfl
  m14 := by kernel_rfl }
open Go.RowKit in
/-- grow, WHERE THE BUFFER HOLDS A ROW, NO BYTE IN IT (behind a Reset), AND THE ROW HAS NO ROOM: growSlice. (THE TEXT OF 'Buffer_grow_row' WITH 0 FOR l, BY PROGRAM: the walk parts on 'm == 0' and writes 0 for l throughout the goal: facts that still say l then do not strike: so l is laid in ahead of the walk.) (LAID: no walk: one application.) -/
theorem Tryd.Buffer_grow_row0_kept (B b g cap n : Nat) (lr : Int) (cur : Array Value) (bs : List Value) (w : World) (hB : B ≤ b) (hBw : B ≤ w.heap.size) (hbk : w.heap[b]? = some (.cells #[.slice (some ⟨g, 0, none⟩) 0 cap, .int .i64 0, .int .i8 lr] 175 (0, 0))) (hl : bs.length = 0) (hBg : B ≤ g) (hg : w.heap[g]? = some (.cells cur 5 (0, 0))) (hlc : 0 ≤ cap) (hcm : cap ≤ maxLen) (hcs : cur.size = cap) (htake : cur.toList.take 0 = bs) (hgb : g ≠ b) (h1 : ∀ v ∈ bs, v.oneCell' = true) (hn : 1 ≤ n) (hroom : cap - 0 < n) (hlim : 0 + n ≤ 140737488355328) :
    Calls Tryd.prog 132 #[.pointer (some ⟨b, 0, none⟩), .int .i64 n] w fun e w' => e = .returned (.int .i64 0) ∧ ∃ xs, xs.length = n ∧ Lib.IsBuffer 175 5 B b (bs ++ xs) w' ∧ Below B w w' ∧ Lib.OthersKept 5 (some b) w w' := Any.Buffer_grow_row0_kept Tryd.laysM252 B b g cap n lr cur bs w hB hBw hbk hl hBg hg hlc hcm hcs htake hgb h1 hn hroom hlim
open Go.RowKit in
/-- grow, WHERE THE BUFFER HOLDS A ROW THAT HAS NO ROOM: growSlice. (LAID: no walk: one application.) -/
theorem Tryd.Buffer_grow_row_kept (B b g l cap n : Nat) (lr : Int) (cur : Array Value) (bs : List Value) (w : World) (hB : B ≤ b) (hBw : B ≤ w.heap.size) (hbk : w.heap[b]? = some (.cells #[.slice (some ⟨g, 0, none⟩) l cap, .int .i64 0, .int .i8 lr] 175 (0, 0))) (hl : bs.length = l) (hBg : B ≤ g) (hg : w.heap[g]? = some (.cells cur 5 (0, 0))) (hlc : l ≤ cap) (hcm : cap ≤ maxLen) (hcs : cur.size = cap) (htake : cur.toList.take l = bs) (hgb : g ≠ b) (h1 : ∀ v ∈ bs, v.oneCell' = true) (hn : 1 ≤ n) (hroom : cap - l < n) (hlim : l + n ≤ 140737488355328) :
    Calls Tryd.prog 132 #[.pointer (some ⟨b, 0, none⟩), .int .i64 n] w fun e w' => e = .returned (.int .i64 l) ∧ ∃ xs, xs.length = n ∧ Lib.IsBuffer 175 5 B b (bs ++ xs) w' ∧ Below B w w' ∧ Lib.OthersKept 5 (some b) w w' := Any.Buffer_grow_row_kept Tryd.laysM252 B b g l cap n lr cur bs w hB hBw hbk hl hBg hg hlc hcm hcs htake hgb h1 hn hroom hlim
open Go.RowKit in
/-- grow, 'buf' nil, n AT MOST 64: 'b.buf = make([]byte, n, smallBufferSize)'. (LAID: no walk: one application.) -/
theorem Tryd.Buffer_grow_nil_small_kept (B b n : Nat) (lr : Int) (w : World) (hB : B ≤ b) (hBw : B ≤ w.heap.size) (hbk : w.heap[b]? = some (.cells #[.slice none 0 0, .int .i64 0, .int .i8 lr] 175 (0, 0))) (hn : 1 ≤ n) (h64 : n ≤ 64) :
    Calls Tryd.prog 132 #[.pointer (some ⟨b, 0, none⟩), .int .i64 n] w fun e w' => e = .returned (.int .i64 0) ∧ ∃ xs, xs.length = n ∧ Lib.IsBuffer 175 5 B b xs w' ∧ Below B w w' ∧ Lib.OthersKept 5 (some b) w w' := Any.Buffer_grow_nil_small_kept Tryd.laysM252 B b n lr w hB hBw hbk hn h64
open Go.RowKit in
/-- grow, 'buf' nil, n ABOVE 64: growSlice of the nil slice. (LAID: no walk: one application.) -/
theorem Tryd.Buffer_grow_nil_big_kept (B b n : Nat) (lr : Int) (w : World) (hB : B ≤ b) (hBw : B ≤ w.heap.size) (hbk : w.heap[b]? = some (.cells #[.slice none 0 0, .int .i64 0, .int .i8 lr] 175 (0, 0))) (h64 : 64 < n) (hlim : n ≤ 140737488355328) :
    Calls Tryd.prog 132 #[.pointer (some ⟨b, 0, none⟩), .int .i64 n] w fun e w' => e = .returned (.int .i64 0) ∧ ∃ xs, xs.length = n ∧ Lib.IsBuffer 175 5 B b xs w' ∧ Below B w w' ∧ Lib.OthersKept 5 (some b) w w' := Any.Buffer_grow_nil_big_kept Tryd.laysM252 B b n lr w hB hBw hbk h64 hlim
open Go.RowKit in
/-- tryGrowByReslice: EITHER there is room: the place to write at is the old length, and the buffer holds the old bytes and n more of whatever lay there; OR there is none: nothing turns, and 'Lib.NoRoom' is what grow asks. (LAID: no walk: one application.) -/
theorem Tryd.Buffer_tryGrow_kept (B b n : Nat) (bs : List Value) (w : World) (h : Lib.IsBuffer 175 5 B b bs w) :
    Calls Tryd.prog 131 #[.pointer (some ⟨b, 0, none⟩), .int .i64 n] w fun e w' =>
      (e = .returned (.tuple #[.int .i64 bs.length, .bool true]) ∧ ∃ xs, xs.length = n ∧ Lib.IsBuffer 175 5 B b (bs ++ xs) w' ∧ Below B w w' ∧ Lib.OthersKept 5 (some b) w w') ∨
      (e = .returned (.tuple #[.int .i64 0, .bool false]) ∧ w' = w ∧ Lib.NoRoom b n w) := Any.Buffer_tryGrow_kept Tryd.laysM251 B b n bs w h
open Go.RowKit in
/-- (*bytes.Buffer).grow: "grow grows the buffer to guarantee space for n more bytes. It returns the index where bytes should be written.": WHERE THERE IS NO ROOM; UNDER Go's OWN LIMIT (the new length takes at most 2^47 bytes): the old length; the buffer holds the old bytes and n more of whatever. (LAID: no walk: one application.) -/
theorem Tryd.Buffer_grow_kept (B b n : Nat) (bs : List Value) (w : World) (h : Lib.IsBuffer 175 5 B b bs w) (hnr : Lib.NoRoom b n w) (hBw : B ≤ w.heap.size) (h1 : ∀ v ∈ bs, v.oneCell' = true) (hlim : bs.length + n ≤ 140737488355328) :
    Calls Tryd.prog 132 #[.pointer (some ⟨b, 0, none⟩), .int .i64 n] w fun e w' => e = .returned (.int .i64 bs.length) ∧ ∃ xs, xs.length = n ∧ Lib.IsBuffer 175 5 B b (bs ++ xs) w' ∧ Below B w w' ∧ Lib.OthersKept 5 (some b) w w' := Any.Buffer_grow_kept Tryd.laysM252 B b n bs w h hnr hBw h1 hlim
def Tryd.laysM179_ren : Go.Shelf.Ren := ⟨fun | 179 => 117 | 251 => 131 | 252 => 132 | 181 => 136 | 184 => 137 | 290 => 138 | 324 => 143 | n => n, fun | 130 => 171 | 5 => 5 | 75 => 177 | 0 => 0 | 93 => 175 | 91 => 173 | 3 => 3 | 131 => 109 | 4 => 4 | 37 => 58 | 20 => 20 | 80 => 181 | 9 => 9 | n => n, fun | 14 => 1 | n => n⟩
theorem Tryd.laysM179 : Go.Proofs.LaysM.n179 Tryd.prog Tryd.laysM179_ren := {
  mixed := by kernel_rfl
  f179 := Tryd.func117.trans (congrArg some (by kernel_rfl))
  f181 := Tryd.func136.trans (congrArg some (by kernel_rfl))
  f184 := Tryd.func137.trans (congrArg some (by kernel_rfl))
  f251 := Tryd.func131.trans (congrArg some (by kernel_rfl))
  f252 := Tryd.func132.trans (congrArg some (by kernel_rfl))
  f290 := Tryd.func138.trans (congrArg some (by kernel_rfl))
  f324 := Tryd.func143.trans (congrArg some (by kernel_rfl))
  t0 := Tryd.underlying0
  a0 := Tryd.isAgg0
  z0 := Tryd.sizeOf0
  v0 := Tryd.zeroValue0
  t3 := Tryd.underlying3
  a3 := Tryd.isAgg3
  z3 := Tryd.sizeOf3
  v3 := Tryd.zeroValue3
  t4 := Tryd.underlying4
  a4 := Tryd.isAgg4
  z4 := Tryd.sizeOf4
  v4 := Tryd.zeroValue4
  t5 := Tryd.underlying5
  a5 := Tryd.isAgg5
  z5 := Tryd.sizeOf5
  v5 := Tryd.zeroValue5
  t20 := Tryd.underlying20
  a20 := Tryd.isAgg20
  z20 := Tryd.sizeOf20
  v20 := Tryd.zeroValue20
  t37 := Tryd.underlying58
  a37 := Tryd.isAgg58
  z37 := Tryd.sizeOf58
  v37 := Tryd.zeroValue58
  t75 := Tryd.underlying177
  a75 := Tryd.isAgg177
  z75 := Tryd.sizeOf177
  v75 := Tryd.zeroValue177
  t91 := Tryd.underlying173
  a91 := Tryd.isAgg173
  z91 := Tryd.sizeOf173
  v91 := Tryd.zeroValue173
  t93 := Tryd.underlying175
  a93 := Tryd.isAgg175
  z93 := Tryd.sizeOf175
  v93 := Tryd.zeroValue175
  t130 := Tryd.underlying171
  a130 := Tryd.isAgg171
  z130 := Tryd.sizeOf171
  v130 := Tryd.zeroValue171
  t131 := Tryd.underlying109
  a131 := Tryd.isAgg109
  z131 := Tryd.sizeOf109
  v131 := Tryd.zeroValue109
  g14 := by kernel_rfl
  t9 := Tryd.underlying9
  a9 := Tryd.isAgg9
  z9 := Tryd.sizeOf9
  v9 := Tryd.zeroValue9
  t80 := Tryd.underlying181
  a80 := Tryd.isAgg181
  z80 := Tryd.sizeOf181
  v80 := Tryd.zeroValue181
  i0 := by kernel_rfl
  i3 := by kernel_rfl
  i4 := by kernel_rfl
  i5 := by kernel_rfl
  i9 := by kernel_rfl
  i20 := by kernel_rfl
  i37 := by kernel_rfl
  i75 := by kernel_rfl
  i80 := by kernel_rfl
  i91 := by kernel_rfl
  i93 := by kernel_rfl
  i130 := by kernel_rfl
  i131 := by kernel_rfl
  m14 := by kernel_rfl }
open Go.RowKit in
/-- (*bytes.Buffer).WriteByte: "WriteByte appends the byte c to the buffer, growing the buffer as needed. The returned error is always nil". (LAID: no walk: one application.) -/
theorem Tryd.Buffer_WriteByte_kept (B b : Nat) (bs : List Value) (c : Int) (w : World) (h : Lib.IsBuffer 175 5 B b bs w) (hBw : B ≤ w.heap.size) (h1 : ∀ v ∈ bs, v.oneCell' = true) (hlim : bs.length + 1 ≤ 140737488355328) :
    Calls Tryd.prog 117 #[.pointer (some ⟨b, 0, none⟩), .int .u8 c] w fun e w' => e = .returned .nilIface ∧ Lib.IsBuffer 175 5 B b (bs ++ [.int .u8 c]) w' ∧ Below B w w' ∧ Lib.OthersKept 5 (some b) w w' := Any.Buffer_WriteByte_kept Tryd.laysM179 B b bs c w h hBw h1 hlim
def Tryd.laysM178_ren : Go.Shelf.Ren := ⟨fun | 178 => 116 | 251 => 131 | 252 => 132 | 181 => 136 | 184 => 137 | 290 => 138 | 324 => 143 | n => n, fun | 130 => 171 | 9 => 9 | 3 => 3 | 75 => 177 | 0 => 0 | 93 => 175 | 91 => 173 | 131 => 109 | 4 => 4 | 37 => 58 | 20 => 20 | 80 => 181 | 5 => 5 | n => n, fun | 14 => 1 | n => n⟩
theorem Tryd.laysM178 : Go.Proofs.LaysM.n178 Tryd.prog Tryd.laysM178_ren := {
  mixed := by kernel_rfl
  f178 := Tryd.func116.trans (congrArg some (by kernel_rfl))
  f181 := Tryd.func136.trans (congrArg some (by kernel_rfl))
  f184 := Tryd.func137.trans (congrArg some (by kernel_rfl))
  f251 := Tryd.func131.trans (congrArg some (by kernel_rfl))
  f252 := Tryd.func132.trans (congrArg some (by kernel_rfl))
  f290 := Tryd.func138.trans (congrArg some (by kernel_rfl))
  f324 := Tryd.func143.trans (congrArg some (by kernel_rfl))
  t0 := Tryd.underlying0
  a0 := Tryd.isAgg0
  z0 := Tryd.sizeOf0
  v0 := Tryd.zeroValue0
  t3 := Tryd.underlying3
  a3 := Tryd.isAgg3
  z3 := Tryd.sizeOf3
  v3 := Tryd.zeroValue3
  t4 := Tryd.underlying4
  a4 := Tryd.isAgg4
  z4 := Tryd.sizeOf4
  v4 := Tryd.zeroValue4
  t9 := Tryd.underlying9
  a9 := Tryd.isAgg9
  z9 := Tryd.sizeOf9
  v9 := Tryd.zeroValue9
  t20 := Tryd.underlying20
  a20 := Tryd.isAgg20
  z20 := Tryd.sizeOf20
  v20 := Tryd.zeroValue20
  t37 := Tryd.underlying58
  a37 := Tryd.isAgg58
  z37 := Tryd.sizeOf58
  v37 := Tryd.zeroValue58
  t75 := Tryd.underlying177
  a75 := Tryd.isAgg177
  z75 := Tryd.sizeOf177
  v75 := Tryd.zeroValue177
  t91 := Tryd.underlying173
  a91 := Tryd.isAgg173
  z91 := Tryd.sizeOf173
  v91 := Tryd.zeroValue173
  t93 := Tryd.underlying175
  a93 := Tryd.isAgg175
  z93 := Tryd.sizeOf175
  v93 := Tryd.zeroValue175
  t130 := Tryd.underlying171
  a130 := Tryd.isAgg171
  z130 := Tryd.sizeOf171
  v130 := Tryd.zeroValue171
  t131 := Tryd.underlying109
  a131 := Tryd.isAgg109
  z131 := Tryd.sizeOf109
  v131 := Tryd.zeroValue109
  g14 := by kernel_rfl
  t5 := Tryd.underlying5
  a5 := Tryd.isAgg5
  z5 := Tryd.sizeOf5
  v5 := Tryd.zeroValue5
  t80 := Tryd.underlying181
  a80 := Tryd.isAgg181
  z80 := Tryd.sizeOf181
  v80 := Tryd.zeroValue181
  i0 := by kernel_rfl
  i3 := by kernel_rfl
  i4 := by kernel_rfl
  i5 := by kernel_rfl
  i9 := by kernel_rfl
  i20 := by kernel_rfl
  i37 := by kernel_rfl
  i75 := by kernel_rfl
  i80 := by kernel_rfl
  i91 := by kernel_rfl
  i93 := by kernel_rfl
  i130 := by kernel_rfl
  i131 := by kernel_rfl
  m14 := by kernel_rfl }
open Go.RowKit in
/-- (*bytes.Buffer).WriteString: "WriteString appends the contents of s to the buffer, growing the buffer as needed. The return value n is the length of s; err is always nil." (LAID: no walk: one application.) -/
theorem Tryd.Buffer_WriteString_kept (B b : Nat) (bs : List Value) (s : ByteArray) (w : World) (h : Lib.IsBuffer 175 5 B b bs w) (hBw : B ≤ w.heap.size) (h1 : ∀ v ∈ bs, v.oneCell' = true) (hlim : bs.length + s.size ≤ 140737488355328) :
    Calls Tryd.prog 116 #[.pointer (some ⟨b, 0, none⟩), .string s] w fun e w' => e = .returned (.tuple #[.int .i64 s.size, .nilIface]) ∧ Lib.IsBuffer 175 5 B b (bs ++ Lib.byteCells s.data.toList) w' ∧ Below B w w' ∧ Lib.OthersKept 5 (some b) w w' := Any.Buffer_WriteString_kept Tryd.laysM178 B b bs s w h hBw h1 hlim
def Tryd.lays190_ren : Go.Shelf.Ren := ⟨fun | 190 => 34 | 125 => 47 | 258 => 53 | 128 => 71 | 129 => 72 | 302 => 80 | 303 => 81 | 304 => 82 | 305 => 83 | 306 => 84 | 307 => 85 | 308 => 86 | 309 => 87 | 310 => 88 | 333 => 119 | 329 => 95 | 330 => 96 | 334 => 120 | 335 => 121 | 336 => 122 | 344 => 133 | n => n, fun | 31 => 24 | 9 => 9 | 3 => 3 | 46 => 77 | 0 => 0 | 51 => 112 | 53 => 114 | 4 => 4 | 183 => 105 | 182 => 104 | 131 => 109 | 5 => 5 | 218 => 156 | 222 => 94 | 228 => 185 | 229 => 186 | n => n, fun | n => n⟩
theorem Tryd.lays190 : Go.Proofs.Lays.n190 Tryd.prog Tryd.lays190_ren := {
  mixed := by kernel_rfl
  f125 := Tryd.func47.trans (congrArg some (by kernel_rfl))
  f128 := Tryd.func71.trans (congrArg some (by kernel_rfl))
  f129 := Tryd.func72.trans (congrArg some (by kernel_rfl))
  f190 := Tryd.func34.trans (congrArg some (by kernel_rfl))
  f258 := Tryd.func53.trans (congrArg some (by kernel_rfl))
  f302 := Tryd.func80.trans (congrArg some (by kernel_rfl))
  f303 := Tryd.func81.trans (congrArg some (by kernel_rfl))
  f304 := Tryd.func82.trans (congrArg some (by kernel_rfl))
  f305 := Tryd.func83.trans (congrArg some (by kernel_rfl))
  f306 := Tryd.func84.trans (congrArg some (by kernel_rfl))
  f307 := Tryd.func85.trans (congrArg some (by kernel_rfl))
  f308 := Tryd.func86.trans (congrArg some (by kernel_rfl))
  f309 := Tryd.func87.trans (congrArg some (by kernel_rfl))
  f310 := Tryd.func88.trans (congrArg some (by kernel_rfl))
  f329 := Tryd.func95.trans (congrArg some (by kernel_rfl))
  f330 := Tryd.func96.trans (congrArg some (by kernel_rfl))
  f333 := Tryd.func119.trans (congrArg some (by kernel_rfl))
  f334 := Tryd.func120.trans (congrArg some (by kernel_rfl))
  f335 := Tryd.func121.trans (congrArg some (by kernel_rfl))
  f336 := Tryd.func122.trans (congrArg some (by kernel_rfl))
  f344 := Tryd.func133.trans (congrArg some (by kernel_rfl))
  t0 := Tryd.underlying0
  a0 := Tryd.isAgg0
  z0 := Tryd.sizeOf0
  v0 := Tryd.zeroValue0
  t3 := Tryd.underlying3
  a3 := Tryd.isAgg3
  z3 := Tryd.sizeOf3
  v3 := Tryd.zeroValue3
  t4 := Tryd.underlying4
  a4 := Tryd.isAgg4
  z4 := Tryd.sizeOf4
  v4 := Tryd.zeroValue4
  t5 := Tryd.underlying5
  a5 := Tryd.isAgg5
  z5 := Tryd.sizeOf5
  v5 := Tryd.zeroValue5
  t9 := Tryd.underlying9
  a9 := Tryd.isAgg9
  z9 := Tryd.sizeOf9
  v9 := Tryd.zeroValue9
  t31 := Tryd.underlying24
  a31 := Tryd.isAgg24
  z31 := Tryd.sizeOf24
  v31 := Tryd.zeroValue24
  t46 := Tryd.underlying77
  a46 := Tryd.isAgg77
  z46 := Tryd.sizeOf77
  v46 := Tryd.zeroValue77
  t51 := Tryd.underlying112
  a51 := Tryd.isAgg112
  z51 := Tryd.sizeOf112
  v51 := Tryd.zeroValue112
  t53 := Tryd.underlying114
  a53 := Tryd.isAgg114
  z53 := Tryd.sizeOf114
  v53 := Tryd.zeroValue114
  t131 := Tryd.underlying109
  a131 := Tryd.isAgg109
  z131 := Tryd.sizeOf109
  v131 := Tryd.zeroValue109
  t182 := Tryd.underlying104
  a182 := Tryd.isAgg104
  z182 := Tryd.sizeOf104
  v182 := Tryd.zeroValue104
  t183 := Tryd.underlying105
  a183 := Tryd.isAgg105
  z183 := Tryd.sizeOf105
  v183 := Tryd.zeroValue105
  t218 := Tryd.underlying156
  a218 := Tryd.isAgg156
  z218 := Tryd.sizeOf156
  v218 := Tryd.zeroValue156
  t222 := Tryd.underlying94
  a222 := Tryd.isAgg94
  z222 := Tryd.sizeOf94
  v222 := Tryd.zeroValue94
  t228 := Tryd.underlying185
  a228 := Tryd.isAgg185
  z228 := Tryd.sizeOf185
  v228 := Tryd.zeroValue185
  t229 := Tryd.underlying186
  a229 := Tryd.isAgg186
  z229 := Tryd.sizeOf186
  v229 := Tryd.zeroValue186 }
open Go.Sort Go.RowKit in
theorem Tryd.slices_Sort_string (blk off cap : Nat) (ss : List (List UInt8)) (w : World) (hH : Holds encStr w blk off ss.toArray) (hblk : blk < w.heap.size) (hsz : ss.length < 4611686018427387904) :
    Calls Tryd.prog 34 #[.slice (some ⟨blk, off, none⟩) ss.length cap] w fun e w' =>
      e = .returned (.tuple #[]) ∧ ∃ n os, w' = grow (putRow encStr (Sort.ahead w n) blk off (ss.mergeSort fun x y => decide (x ≤ y)).toArray) os := Any.slices_Sort_string Tryd.lays190 blk off cap ss w hH hblk hsz
def Tryd.laysM184_ren : Go.Shelf.Ren := ⟨fun | 184 => 137 | n => n, fun | 130 => 171 | 0 => 0 | 93 => 175 | 37 => 58 | 3 => 3 | 91 => 173 | 5 => 5 | n => n, fun | n => n⟩
theorem Tryd.laysM184 : Go.Proofs.LaysM.n184 Tryd.prog Tryd.laysM184_ren := {
  mixed := by kernel_rfl
  f184 := Tryd.func137.trans (congrArg some (by kernel_rfl))
  t0 := Tryd.underlying0
  a0 := Tryd.isAgg0
  z0 := Tryd.sizeOf0
  v0 := Tryd.zeroValue0
  t3 := Tryd.underlying3
  a3 := Tryd.isAgg3
  z3 := Tryd.sizeOf3
  v3 := Tryd.zeroValue3
  t37 := Tryd.underlying58
  a37 := Tryd.isAgg58
  z37 := Tryd.sizeOf58
  v37 := Tryd.zeroValue58
  t91 := Tryd.underlying173
  a91 := Tryd.isAgg173
  z91 := Tryd.sizeOf173
  v91 := Tryd.zeroValue173
  t93 := Tryd.underlying175
  a93 := Tryd.isAgg175
  z93 := Tryd.sizeOf175
  v93 := Tryd.zeroValue175
  t130 := Tryd.underlying171
  a130 := Tryd.isAgg171
  z130 := Tryd.sizeOf171
  v130 := Tryd.zeroValue171
  t5 := Tryd.underlying5
  a5 := Tryd.isAgg5
  z5 := Tryd.sizeOf5
  v5 := Tryd.zeroValue5
  i0 := by kernel_rfl
  i3 := by kernel_rfl
  i5 := by kernel_rfl
  i37 := by kernel_rfl
  i91 := by kernel_rfl
  i93 := by kernel_rfl
  i130 := by kernel_rfl }
open Go.RowKit in
/-- (*bytes.Buffer).Reset: "Reset resets the buffer to be empty, but it retains the underlying storage for use by future writes." (LAID: no walk: one application.) -/
theorem Tryd.Buffer_Reset_kept (B b : Nat) (bs : List Value) (w : World) (h : Lib.IsBuffer 175 5 B b bs w) :
    Calls Tryd.prog 137 #[.pointer (some ⟨b, 0, none⟩)] w fun e w' => e = .returned (.tuple #[]) ∧ Lib.IsBuffer 175 5 B b [] w' ∧ Below B w w' ∧ Lib.OthersKept 5 (some b) w w' := Any.Buffer_Reset_kept Tryd.laysM184 B b bs w h
open Go.RowKit in
theorem Tryd.Buffer_WriteByte_k (B b : Nat) (bs : List Value) (c : Int) (w : World) (h : Lib.IsBuffer 175 5 B b bs w) (hBw : B ≤ w.heap.size) (h1 : ∀ v ∈ bs, v.oneCell' = true) (hlim : bs.length + 1 ≤ 140737488355328) :
    Calls Tryd.prog 117 #[.pointer (some ⟨b, 0, none⟩), .int .u8 c] w fun e w' => e = .returned .nilIface ∧ Lib.IsBuffer 175 5 B b (bs ++ [.int .u8 c]) w' ∧ Below B w w' ∧ Lib.OthersKept 5 (some b) w w' := Any.Buffer_WriteByte_k Tryd.laysM179 B b bs c w h hBw h1 hlim
open Go.RowKit in
theorem Tryd.Buffer_WriteString_k (B b : Nat) (bs : List Value) (s : ByteArray) (w : World) (h : Lib.IsBuffer 175 5 B b bs w) (hBw : B ≤ w.heap.size) (h1 : ∀ v ∈ bs, v.oneCell' = true) (hlim : bs.length + s.size ≤ 140737488355328) :
    Calls Tryd.prog 116 #[.pointer (some ⟨b, 0, none⟩), .string s] w fun e w' => e = .returned (.tuple #[.int .i64 s.size, .nilIface]) ∧ Lib.IsBuffer 175 5 B b (bs ++ Lib.byteCells s.data.toList) w' ∧ Below B w w' ∧ Lib.OthersKept 5 (some b) w w' := Any.Buffer_WriteString_k Tryd.laysM178 B b bs s w h hBw h1 hlim
open Go.RowKit in
theorem Tryd.Buffer_Reset_k (B b : Nat) (bs : List Value) (w : World) (h : Lib.IsBuffer 175 5 B b bs w) :
    Calls Tryd.prog 137 #[.pointer (some ⟨b, 0, none⟩)] w fun e w' => e = .returned (.tuple #[]) ∧ Lib.IsBuffer 175 5 B b [] w' ∧ Below B w w' ∧ Lib.OthersKept 5 (some b) w w' := Any.Buffer_Reset_k Tryd.laysM184 B b bs w h
def Tryd.laysGg26_ren : Go.Shelf.Ren := ⟨fun | 26 => 108 | n => n, fun | 44 => 125 | 3 => 3 | 0 => 0 | 4 => 4 | 26 => 83 | 37 => 120 | n => n, fun | n => n⟩
theorem Tryd.laysGg26 : Go.Proofs.LaysGg.n26 Tryd.prog Tryd.laysGg26_ren := {
  mixed := by kernel_rfl
  f26 := Tryd.func108.trans (congrArg some (by kernel_rfl))
  t0 := Tryd.underlying0
  a0 := Tryd.isAgg0
  z0 := Tryd.sizeOf0
  v0 := Tryd.zeroValue0
  i0 := by kernel_rfl
  t3 := Tryd.underlying3
  a3 := Tryd.isAgg3
  z3 := Tryd.sizeOf3
  v3 := Tryd.zeroValue3
  i3 := by kernel_rfl
  t4 := Tryd.underlying4
  a4 := Tryd.isAgg4
  z4 := Tryd.sizeOf4
  v4 := Tryd.zeroValue4
  i4 := by kernel_rfl
  t26 := Tryd.underlying83
  a26 := Tryd.isAgg83
  z26 := Tryd.sizeOf83
  v26 := Tryd.zeroValue83
  i26 := by kernel_rfl
  t37 := Tryd.underlying120
  a37 := Tryd.isAgg120
  z37 := Tryd.sizeOf120
  v37 := Tryd.zeroValue120
  i37 := by kernel_rfl
  t44 := Tryd.underlying125
  a44 := Tryd.isAgg125
  z44 := Tryd.sizeOf125
  v44 := Tryd.zeroValue125
  i44 := by kernel_rfl }
open Go.RowKit Go.Lib Go.Sort in
theorem Tryd.insertionSort_func_one {α : Type} [Inhabited α] (enc : α → Value) (lt : α → α → Bool) (g : Nat) (lb : Array Value) (sf : Nat) (sb : Array Value) (blk off a b : Nat) (d : Array α) (w : World) (eg : ∀ args w, (callFunc g args).run Tryd.prog w = .ok (.enter g args) w) (hless : LessReads Tryd.prog g lb enc lt blk off d.size w) (hswap : SwapSwaps Tryd.prog sf sb enc blk off d.size) (hH : Holds enc w blk off d) (hblk : blk < w.heap.size) (hab : a ≤ b) (hb : b ≤ d.size) (hsz : d.size < 4611686018427387904) :
    Calls Tryd.prog 108 #[.agg #[.func (.func g) #[] lb, .func (.func sf) #[] sb], .int .i64 a, .int .i64 b] w fun e w' =>
      e = .returned (.tuple #[]) ∧ ∃ n, w' = putRow enc (Sort.ahead (w.alloc (.cells #[.func (.func g) #[] lb, .func (.func sf) #[] sb] 125)) n) blk off (Sort.insertionSort lt d a b) := Any.insertionSort_func_one Tryd.laysGg26 enc lt g lb sf sb blk off a b d w eg hless hswap hH hblk hab hb hsz
def Tryd.laysGg14_ren : Go.Shelf.Ren := ⟨fun | 14 => 78 | 26 => 108 | 27 => 109 | 28 => 110 | 29 => 111 | 30 => 112 | 31 => 113 | 32 => 114 | 33 => 115 | 34 => 126 | 35 => 127 | 36 => 128 | 37 => 129 | 38 => 130 | 13 => 47 | 39 => 135 | 24 => 71 | 25 => 72 | n => n, fun | 44 => 125 | 3 => 3 | 0 => 0 | 4 => 4 | 54 => 166 | 53 => 165 | 26 => 83 | 58 => 109 | 37 => 120 | 60 => 188 | 41 => 77 | 51 => 114 | 64 => 94 | 66 => 194 | 67 => 186 | 49 => 112 | 5 => 5 | 9 => 9 | n => n, fun | n => n⟩
theorem Tryd.laysGg14 : Go.Proofs.LaysGg.n14 Tryd.prog Tryd.laysGg14_ren := {
  mixed := by kernel_rfl
  f13 := Tryd.func47.trans (congrArg some (by kernel_rfl))
  f14 := Tryd.func78.trans (congrArg some (by kernel_rfl))
  f24 := Tryd.func71.trans (congrArg some (by kernel_rfl))
  f25 := Tryd.func72.trans (congrArg some (by kernel_rfl))
  f26 := Tryd.func108.trans (congrArg some (by kernel_rfl))
  f27 := Tryd.func109.trans (congrArg some (by kernel_rfl))
  f28 := Tryd.func110.trans (congrArg some (by kernel_rfl))
  f29 := Tryd.func111.trans (congrArg some (by kernel_rfl))
  f30 := Tryd.func112.trans (congrArg some (by kernel_rfl))
  f31 := Tryd.func113.trans (congrArg some (by kernel_rfl))
  f32 := Tryd.func114.trans (congrArg some (by kernel_rfl))
  f33 := Tryd.func115.trans (congrArg some (by kernel_rfl))
  f34 := Tryd.func126.trans (congrArg some (by kernel_rfl))
  f35 := Tryd.func127.trans (congrArg some (by kernel_rfl))
  f36 := Tryd.func128.trans (congrArg some (by kernel_rfl))
  f37 := Tryd.func129.trans (congrArg some (by kernel_rfl))
  f38 := Tryd.func130.trans (congrArg some (by kernel_rfl))
  f39 := Tryd.func135.trans (congrArg some (by kernel_rfl))
  t0 := Tryd.underlying0
  a0 := Tryd.isAgg0
  z0 := Tryd.sizeOf0
  v0 := Tryd.zeroValue0
  i0 := by kernel_rfl
  t3 := Tryd.underlying3
  a3 := Tryd.isAgg3
  z3 := Tryd.sizeOf3
  v3 := Tryd.zeroValue3
  i3 := by kernel_rfl
  t4 := Tryd.underlying4
  a4 := Tryd.isAgg4
  z4 := Tryd.sizeOf4
  v4 := Tryd.zeroValue4
  i4 := by kernel_rfl
  t5 := Tryd.underlying5
  a5 := Tryd.isAgg5
  z5 := Tryd.sizeOf5
  v5 := Tryd.zeroValue5
  i5 := by kernel_rfl
  t9 := Tryd.underlying9
  a9 := Tryd.isAgg9
  z9 := Tryd.sizeOf9
  v9 := Tryd.zeroValue9
  i9 := by kernel_rfl
  t26 := Tryd.underlying83
  a26 := Tryd.isAgg83
  z26 := Tryd.sizeOf83
  v26 := Tryd.zeroValue83
  i26 := by kernel_rfl
  t37 := Tryd.underlying120
  a37 := Tryd.isAgg120
  z37 := Tryd.sizeOf120
  v37 := Tryd.zeroValue120
  i37 := by kernel_rfl
  t41 := Tryd.underlying77
  a41 := Tryd.isAgg77
  z41 := Tryd.sizeOf77
  v41 := Tryd.zeroValue77
  i41 := by kernel_rfl
  t44 := Tryd.underlying125
  a44 := Tryd.isAgg125
  z44 := Tryd.sizeOf125
  v44 := Tryd.zeroValue125
  i44 := by kernel_rfl
  t49 := Tryd.underlying112
  a49 := Tryd.isAgg112
  z49 := Tryd.sizeOf112
  v49 := Tryd.zeroValue112
  i49 := by kernel_rfl
  t51 := Tryd.underlying114
  a51 := Tryd.isAgg114
  z51 := Tryd.sizeOf114
  v51 := Tryd.zeroValue114
  i51 := by kernel_rfl
  t53 := Tryd.underlying165
  a53 := Tryd.isAgg165
  z53 := Tryd.sizeOf165
  v53 := Tryd.zeroValue165
  i53 := by kernel_rfl
  t54 := Tryd.underlying166
  a54 := Tryd.isAgg166
  z54 := Tryd.sizeOf166
  v54 := Tryd.zeroValue166
  i54 := by kernel_rfl
  t58 := Tryd.underlying109
  a58 := Tryd.isAgg109
  z58 := Tryd.sizeOf109
  v58 := Tryd.zeroValue109
  i58 := by kernel_rfl
  t60 := Tryd.underlying188
  a60 := Tryd.isAgg188
  z60 := Tryd.sizeOf188
  v60 := Tryd.zeroValue188
  i60 := by kernel_rfl
  t64 := Tryd.underlying94
  a64 := Tryd.isAgg94
  z64 := Tryd.sizeOf94
  v64 := Tryd.zeroValue94
  i64 := by kernel_rfl
  t66 := Tryd.underlying194
  a66 := Tryd.isAgg194
  z66 := Tryd.sizeOf194
  v66 := Tryd.zeroValue194
  i66 := by kernel_rfl
  t67 := Tryd.underlying186
  a67 := Tryd.isAgg186
  z67 := Tryd.sizeOf186
  v67 := Tryd.zeroValue186
  i67 := by kernel_rfl }
open Go.RowKit Go.Lib Go.Sort in
/-- sort.pdqsort_func AT A RANGE OF AT MOST 12. (LAID: no walk: one application.) -/
theorem Tryd.pdqsort_func_small {α : Type} [Inhabited α] (enc : α → Value) (lt : α → α → Bool) (g : Nat) (lb : Array Value) (sf : Nat) (sb : Array Value) (blk off a b : Nat) (lim : Int) (d : Array α) (w : World) (eg : ∀ args w, (callFunc g args).run Tryd.prog w = .ok (.enter g args) w) (hless : LessReads Tryd.prog g lb enc lt blk off d.size w) (hswap : SwapSwaps Tryd.prog sf sb enc blk off d.size) (hH : Holds enc w blk off d) (hblk : blk < w.heap.size) (hab : a ≤ b) (hb : b ≤ d.size) (hsz : d.size < 4611686018427387904) (h12 : b - a ≤ 12) :
    Calls Tryd.prog 78 #[.agg #[.func (.func g) #[] lb, .func (.func sf) #[] sb], .int .i64 a, .int .i64 b, .int .i64 lim] w fun e w' =>
      e = .returned (.tuple #[]) ∧ ∃ n, w' = putRow enc (Sort.ahead ((w.alloc (.cells #[.func (.func g) #[] lb, .func (.func sf) #[] sb] 125)).alloc (.cells #[.func (.func g) #[] lb, .func (.func sf) #[] sb] 125)) n) blk off (Sort.insertionSort lt d a b) := Any.pdqsort_func_small Tryd.laysGg14 enc lt g lb sf sb blk off a b lim d w eg hless hswap hH hblk hab hb hsz h12
def Tryd.laysGg6_ren : Go.Shelf.Ren := ⟨fun | 6 => 50 | 10 => 75 | 11 => 76 | 12 => 77 | 13 => 47 | 14 => 78 | 24 => 71 | 25 => 72 | 26 => 108 | 27 => 109 | 28 => 110 | 29 => 111 | 30 => 112 | 31 => 113 | 32 => 114 | 33 => 115 | 34 => 126 | 35 => 127 | 36 => 128 | 37 => 129 | 38 => 130 | 39 => 135 | n => n, fun | 20 => 20 | 26 => 83 | 35 => 118 | 0 => 0 | 37 => 120 | 3 => 3 | 41 => 77 | 44 => 125 | 49 => 112 | 51 => 114 | 4 => 4 | 54 => 166 | 53 => 165 | 58 => 109 | 5 => 5 | 9 => 9 | 60 => 188 | 64 => 94 | 66 => 194 | 67 => 186 | 17 => 17 | 32 => 115 | 33 => 116 | 82 => 213 | 12 => 12 | 75 => 206 | 76 => 207 | 77 => 208 | 78 => 209 | 79 => 210 | 80 => 211 | n => n, fun | n => n⟩
theorem Tryd.laysGg6 : Go.Proofs.LaysGg.n6 Tryd.prog Tryd.laysGg6_ren := {
  mixed := by kernel_rfl
  f6 := Tryd.func50.trans (congrArg some (by kernel_rfl))
  f10 := Tryd.func75.trans (congrArg some (by kernel_rfl))
  f11 := Tryd.func76.trans (congrArg some (by kernel_rfl))
  f12 := Tryd.func77.trans (congrArg some (by kernel_rfl))
  f13 := Tryd.func47.trans (congrArg some (by kernel_rfl))
  f14 := Tryd.func78.trans (congrArg some (by kernel_rfl))
  f24 := Tryd.func71.trans (congrArg some (by kernel_rfl))
  f25 := Tryd.func72.trans (congrArg some (by kernel_rfl))
  f26 := Tryd.func108.trans (congrArg some (by kernel_rfl))
  f27 := Tryd.func109.trans (congrArg some (by kernel_rfl))
  f28 := Tryd.func110.trans (congrArg some (by kernel_rfl))
  f29 := Tryd.func111.trans (congrArg some (by kernel_rfl))
  f30 := Tryd.func112.trans (congrArg some (by kernel_rfl))
  f31 := Tryd.func113.trans (congrArg some (by kernel_rfl))
  f32 := Tryd.func114.trans (congrArg some (by kernel_rfl))
  f33 := Tryd.func115.trans (congrArg some (by kernel_rfl))
  f34 := Tryd.func126.trans (congrArg some (by kernel_rfl))
  f35 := Tryd.func127.trans (congrArg some (by kernel_rfl))
  f36 := Tryd.func128.trans (congrArg some (by kernel_rfl))
  f37 := Tryd.func129.trans (congrArg some (by kernel_rfl))
  f38 := Tryd.func130.trans (congrArg some (by kernel_rfl))
  f39 := Tryd.func135.trans (congrArg some (by kernel_rfl))
  t0 := Tryd.underlying0
  a0 := Tryd.isAgg0
  z0 := Tryd.sizeOf0
  v0 := Tryd.zeroValue0
  i0 := by kernel_rfl
  t3 := Tryd.underlying3
  a3 := Tryd.isAgg3
  z3 := Tryd.sizeOf3
  v3 := Tryd.zeroValue3
  i3 := by kernel_rfl
  t4 := Tryd.underlying4
  a4 := Tryd.isAgg4
  z4 := Tryd.sizeOf4
  v4 := Tryd.zeroValue4
  i4 := by kernel_rfl
  t5 := Tryd.underlying5
  a5 := Tryd.isAgg5
  z5 := Tryd.sizeOf5
  v5 := Tryd.zeroValue5
  i5 := by kernel_rfl
  t9 := Tryd.underlying9
  a9 := Tryd.isAgg9
  z9 := Tryd.sizeOf9
  v9 := Tryd.zeroValue9
  i9 := by kernel_rfl
  t12 := Tryd.underlying12
  a12 := Tryd.isAgg12
  z12 := Tryd.sizeOf12
  v12 := Tryd.zeroValue12
  i12 := by kernel_rfl
  t17 := Tryd.underlying17
  a17 := Tryd.isAgg17
  z17 := Tryd.sizeOf17
  v17 := Tryd.zeroValue17
  i17 := by kernel_rfl
  t20 := Tryd.underlying20
  a20 := Tryd.isAgg20
  z20 := Tryd.sizeOf20
  v20 := Tryd.zeroValue20
  i20 := by kernel_rfl
  t26 := Tryd.underlying83
  a26 := Tryd.isAgg83
  z26 := Tryd.sizeOf83
  v26 := Tryd.zeroValue83
  i26 := by kernel_rfl
  t32 := Tryd.underlying115
  a32 := Tryd.isAgg115
  z32 := Tryd.sizeOf115
  v32 := Tryd.zeroValue115
  i32 := by kernel_rfl
  t33 := Tryd.underlying116
  a33 := Tryd.isAgg116
  z33 := Tryd.sizeOf116
  v33 := Tryd.zeroValue116
  i33 := by kernel_rfl
  t35 := Tryd.underlying118
  a35 := Tryd.isAgg118
  z35 := Tryd.sizeOf118
  v35 := Tryd.zeroValue118
  i35 := by kernel_rfl
  t37 := Tryd.underlying120
  a37 := Tryd.isAgg120
  z37 := Tryd.sizeOf120
  v37 := Tryd.zeroValue120
  i37 := by kernel_rfl
  t41 := Tryd.underlying77
  a41 := Tryd.isAgg77
  z41 := Tryd.sizeOf77
  v41 := Tryd.zeroValue77
  i41 := by kernel_rfl
  t44 := Tryd.underlying125
  a44 := Tryd.isAgg125
  z44 := Tryd.sizeOf125
  v44 := Tryd.zeroValue125
  i44 := by kernel_rfl
  t49 := Tryd.underlying112
  a49 := Tryd.isAgg112
  z49 := Tryd.sizeOf112
  v49 := Tryd.zeroValue112
  i49 := by kernel_rfl
  t51 := Tryd.underlying114
  a51 := Tryd.isAgg114
  z51 := Tryd.sizeOf114
  v51 := Tryd.zeroValue114
  i51 := by kernel_rfl
  t53 := Tryd.underlying165
  a53 := Tryd.isAgg165
  z53 := Tryd.sizeOf165
  v53 := Tryd.zeroValue165
  i53 := by kernel_rfl
  t54 := Tryd.underlying166
  a54 := Tryd.isAgg166
  z54 := Tryd.sizeOf166
  v54 := Tryd.zeroValue166
  i54 := by kernel_rfl
  t58 := Tryd.underlying109
  a58 := Tryd.isAgg109
  z58 := Tryd.sizeOf109
  v58 := Tryd.zeroValue109
  i58 := by kernel_rfl
  t60 := Tryd.underlying188
  a60 := Tryd.isAgg188
  z60 := Tryd.sizeOf188
  v60 := Tryd.zeroValue188
  i60 := by kernel_rfl
  t64 := Tryd.underlying94
  a64 := Tryd.isAgg94
  z64 := Tryd.sizeOf94
  v64 := Tryd.zeroValue94
  i64 := by kernel_rfl
  t66 := Tryd.underlying194
  a66 := Tryd.isAgg194
  z66 := Tryd.sizeOf194
  v66 := Tryd.zeroValue194
  i66 := by kernel_rfl
  t67 := Tryd.underlying186
  a67 := Tryd.isAgg186
  z67 := Tryd.sizeOf186
  v67 := Tryd.zeroValue186
  i67 := by kernel_rfl
  t75 := Tryd.underlying206
  a75 := Tryd.isAgg206
  z75 := Tryd.sizeOf206
  v75 := Tryd.zeroValue206
  i75 := by kernel_rfl
  t76 := Tryd.underlying207
  a76 := Tryd.isAgg207
  z76 := Tryd.sizeOf207
  v76 := Tryd.zeroValue207
  i76 := by kernel_rfl
  t77 := Tryd.underlying208
  a77 := Tryd.isAgg208
  z77 := Tryd.sizeOf208
  v77 := Tryd.zeroValue208
  i77 := by kernel_rfl
  t78 := Tryd.underlying209
  a78 := Tryd.isAgg209
  z78 := Tryd.sizeOf209
  v78 := Tryd.zeroValue209
  i78 := by kernel_rfl
  t79 := Tryd.underlying210
  a79 := Tryd.isAgg210
  z79 := Tryd.sizeOf210
  v79 := Tryd.zeroValue210
  i79 := by kernel_rfl
  t80 := Tryd.underlying211
  a80 := Tryd.isAgg211
  z80 := Tryd.sizeOf211
  v80 := Tryd.zeroValue211
  i80 := by kernel_rfl
  t82 := Tryd.underlying213
  a82 := Tryd.isAgg213
  z82 := Tryd.sizeOf213
  v82 := Tryd.zeroValue213
  i82 := by kernel_rfl }
open Go.RowKit Go.Lib Go.Sort in
theorem Tryd.insertionSort_func_cells {α : Type} [Inhabited α] (enc : α → List Value) (k : Nat) (hk : ∀ x, (enc x).length = k) (lt : α → α → Bool) (g : Nat) (lb : Array Value) (sf : Nat) (sb : Array Value) (blk off a b : Nat) (d : Array α) (w : World) (eg : ∀ args w, (callFunc g args).run Tryd.prog w = .ok (.enter g args) w) (hless : LessReadsK Tryd.prog g lb enc k lt blk off d.size w) (hswap : SwapSwapsK Tryd.prog sf sb enc k blk off d.size) (hH : HoldsK enc k w blk off d) (hblk : blk < w.heap.size) (hab : a ≤ b) (hb : b ≤ d.size) (hsz : d.size < 4611686018427387904) :
    Calls Tryd.prog 108 #[.agg #[.func (.func g) #[] lb, .func (.func sf) #[] sb], .int .i64 a, .int .i64 b] w fun e w' =>
      e = .returned (.tuple #[]) ∧ ∃ n, w' = putRowK enc k (Sort.ahead (w.alloc (.cells #[.func (.func g) #[] lb, .func (.func sf) #[] sb] 125)) n) blk off (Sort.insertionSort lt d a b) := Any.insertionSort_func_cells Tryd.laysGg26 enc k hk lt g lb sf sb blk off a b d w eg hless hswap hH hblk hab hb hsz
open Go.RowKit Go.Lib Go.Sort in
/-- sort.pdqsort_func AT A RANGE OF AT MOST 12. (LAID: no walk: one application.) -/
theorem Tryd.pdqsort_func_small_cells {α : Type} [Inhabited α] (enc : α → List Value) (k : Nat) (hk : ∀ x, (enc x).length = k) (lt : α → α → Bool) (g : Nat) (lb : Array Value) (sf : Nat) (sb : Array Value) (blk off a b : Nat) (lim : Int) (d : Array α) (w : World) (eg : ∀ args w, (callFunc g args).run Tryd.prog w = .ok (.enter g args) w) (hless : LessReadsK Tryd.prog g lb enc k lt blk off d.size w) (hswap : SwapSwapsK Tryd.prog sf sb enc k blk off d.size) (hH : HoldsK enc k w blk off d) (hblk : blk < w.heap.size) (hab : a ≤ b) (hb : b ≤ d.size) (hsz : d.size < 4611686018427387904) (h12 : b - a ≤ 12) :
    Calls Tryd.prog 78 #[.agg #[.func (.func g) #[] lb, .func (.func sf) #[] sb], .int .i64 a, .int .i64 b, .int .i64 lim] w fun e w' =>
      e = .returned (.tuple #[]) ∧ ∃ n, w' = putRowK enc k (Sort.ahead ((w.alloc (.cells #[.func (.func g) #[] lb, .func (.func sf) #[] sb] 125)).alloc (.cells #[.func (.func g) #[] lb, .func (.func sf) #[] sb] 125)) n) blk off (Sort.insertionSort lt d a b) := Any.pdqsort_func_small_cells Tryd.laysGg14 enc k hk lt g lb sf sb blk off a b lim d w eg hless hswap hH hblk hab hb hsz h12
open Go.RowKit Go.Lib Go.Sort in
/-- sort.insertionSort_func, from a world to a 'sortWorld' of it. (LAID: no walk: one application.) -/
theorem Tryd.insertionSort_func_w {α : Type} [Inhabited α] (enc : α → Value) (lt : α → α → Bool) (g : Nat) (lb : Array Value) (sf : Nat) (sb : Array Value) (blk off a b : Nat) (d : Array α) (w : World) (eg : ∀ args w, (callFunc g args).run Tryd.prog w = .ok (.enter g args) w) (hless : LessReads Tryd.prog g lb enc lt blk off d.size w) (hswap : SwapSwaps Tryd.prog sf sb enc blk off d.size) (hH : Holds enc w blk off d) (hblk : blk < w.heap.size) (hab : a ≤ b) (hb : b ≤ d.size) (hsz : d.size < 4611686018427387904) :
    Calls Tryd.prog 108 #[.agg #[.func (.func g) #[] lb, .func (.func sf) #[] sb], .int .i64 a, .int .i64 b] w fun e w' => e = .returned (.tuple #[]) ∧ ∃ n os, w' = sortWorld enc w blk off n (Sort.insertionSort lt d a b) os := Any.insertionSort_func_w Tryd.laysGg26 enc lt g lb sf sb blk off a b d w eg hless hswap hH hblk hab hb hsz
def Tryd.laysGg30_ren : Go.Shelf.Ren := ⟨fun | 30 => 112 | n => n, fun | 44 => 125 | 3 => 3 | 0 => 0 | 4 => 4 | 37 => 120 | 26 => 83 | n => n, fun | n => n⟩
theorem Tryd.laysGg30 : Go.Proofs.LaysGg.n30 Tryd.prog Tryd.laysGg30_ren := {
  mixed := by kernel_rfl
  f30 := Tryd.func112.trans (congrArg some (by kernel_rfl))
  t0 := Tryd.underlying0
  a0 := Tryd.isAgg0
  z0 := Tryd.sizeOf0
  v0 := Tryd.zeroValue0
  i0 := by kernel_rfl
  t3 := Tryd.underlying3
  a3 := Tryd.isAgg3
  z3 := Tryd.sizeOf3
  v3 := Tryd.zeroValue3
  i3 := by kernel_rfl
  t4 := Tryd.underlying4
  a4 := Tryd.isAgg4
  z4 := Tryd.sizeOf4
  v4 := Tryd.zeroValue4
  i4 := by kernel_rfl
  t26 := Tryd.underlying83
  a26 := Tryd.isAgg83
  z26 := Tryd.sizeOf83
  v26 := Tryd.zeroValue83
  i26 := by kernel_rfl
  t37 := Tryd.underlying120
  a37 := Tryd.isAgg120
  z37 := Tryd.sizeOf120
  v37 := Tryd.zeroValue120
  i37 := by kernel_rfl
  t44 := Tryd.underlying125
  a44 := Tryd.isAgg125
  z44 := Tryd.sizeOf125
  v44 := Tryd.zeroValue125
  i44 := by kernel_rfl }
open Go.RowKit Go.Lib Go.Sort in
theorem Tryd.reverseRange_func_one {α : Type} [Inhabited α] (enc : α → Value) (lf : Fn) (la lb : Array Value) (sf : Nat) (sb : Array Value) (blk off a b : Nat) (d : Array α) (w : World) (hswap : SwapSwaps Tryd.prog sf sb enc blk off d.size) (hH : Holds enc w blk off d) (hblk : blk < w.heap.size) (hab : a ≤ b) (hb : b ≤ d.size) (hsz : d.size < 4611686018427387904) :
    Calls Tryd.prog 112 #[.agg #[.func lf la lb, .func (.func sf) #[] sb], .int .i64 a, .int .i64 b] w fun e w' => e = .returned (.tuple #[]) ∧ ∃ n, w' = putRow enc (Sort.ahead (w.alloc (.cells #[.func lf la lb, .func (.func sf) #[] sb] 125)) n) blk off (reverseRange d a b) := Any.reverseRange_func_one Tryd.laysGg30 enc lf la lb sf sb blk off a b d w hswap hH hblk hab hb hsz
open Go.RowKit Go.Lib Go.Sort in
/-- sort.reverseRange_func, from a world to a 'sortWorld' of it. (LAID: no walk: one application.) -/
theorem Tryd.reverseRange_func_w {α : Type} [Inhabited α] (enc : α → Value) (lf : Fn) (la lb : Array Value) (sf : Nat) (sb : Array Value) (blk off a b : Nat) (d : Array α) (w : World) (hswap : SwapSwaps Tryd.prog sf sb enc blk off d.size) (hH : Holds enc w blk off d) (hblk : blk < w.heap.size) (hab : a ≤ b) (hb : b ≤ d.size) (hsz : d.size < 4611686018427387904) :
    Calls Tryd.prog 112 #[.agg #[.func lf la lb, .func (.func sf) #[] sb], .int .i64 a, .int .i64 b] w fun e w' => e = .returned (.tuple #[]) ∧ ∃ n os, w' = sortWorld enc w blk off n (reverseRange d a b) os := Any.reverseRange_func_w Tryd.laysGg30 enc lf la lb sf sb blk off a b d w hswap hH hblk hab hb hsz
def Tryd.laysGg39_ren : Go.Shelf.Ren := ⟨fun | 39 => 135 | n => n, fun | 44 => 125 | 3 => 3 | 64 => 94 | 0 => 0 | 26 => 83 | 4 => 4 | 37 => 120 | n => n, fun | n => n⟩
theorem Tryd.laysGg39 : Go.Proofs.LaysGg.n39 Tryd.prog Tryd.laysGg39_ren := {
  mixed := by kernel_rfl
  f39 := Tryd.func135.trans (congrArg some (by kernel_rfl))
  t0 := Tryd.underlying0
  a0 := Tryd.isAgg0
  z0 := Tryd.sizeOf0
  v0 := Tryd.zeroValue0
  i0 := by kernel_rfl
  t3 := Tryd.underlying3
  a3 := Tryd.isAgg3
  z3 := Tryd.sizeOf3
  v3 := Tryd.zeroValue3
  i3 := by kernel_rfl
  t4 := Tryd.underlying4
  a4 := Tryd.isAgg4
  z4 := Tryd.sizeOf4
  v4 := Tryd.zeroValue4
  i4 := by kernel_rfl
  t26 := Tryd.underlying83
  a26 := Tryd.isAgg83
  z26 := Tryd.sizeOf83
  v26 := Tryd.zeroValue83
  i26 := by kernel_rfl
  t37 := Tryd.underlying120
  a37 := Tryd.isAgg120
  z37 := Tryd.sizeOf120
  v37 := Tryd.zeroValue120
  i37 := by kernel_rfl
  t44 := Tryd.underlying125
  a44 := Tryd.isAgg125
  z44 := Tryd.sizeOf125
  v44 := Tryd.zeroValue125
  i44 := by kernel_rfl
  t64 := Tryd.underlying94
  a64 := Tryd.isAgg94
  z64 := Tryd.sizeOf94
  v64 := Tryd.zeroValue94
  i64 := by kernel_rfl }
open Go.RowKit Go.Lib Go.Sort in
theorem Tryd.order2_func {α : Type} [Inhabited α] (enc : α → Value) (lt : α → α → Bool) (g : Nat) (lb : Array Value) (sfn : Fn) (sa sb : Array Value) (blk off : Nat) (w0 W : World) (d : Array α) (a b cb co s : Nat) (eg : ∀ args w, (callFunc g args).run Tryd.prog w = .ok (.enter g args) w) (hL : LessReads Tryd.prog g lb enc lt blk off d.size w0) (hW : SW enc w0 blk off d W) (ha : a < d.size) (hb : b < d.size) (hS : Holds (Value.int .i64) W cb co (one s)) (hcb : cb < W.heap.size) (hs : s < 4611686018427387904) :
    Calls Tryd.prog 135 #[.agg #[.func (.func g) #[] lb, .func sfn sa sb], .int .i64 a, .int .i64 b, .pointer (some ⟨cb, co, none⟩)] W fun e w' =>
      e = .returned (.tuple #[.int .i64 (order2 lt d a b s).1, .int .i64 (order2 lt d a b s).2.1]) ∧ ∃ n os, w' = sortWorld (Value.int .i64) W cb co n (one (order2 lt d a b s).2.2) os := Any.order2_func Tryd.laysGg39 enc lt g lb sfn sa sb blk off w0 W d a b cb co s eg hL hW ha hb hS hcb hs
def Tryd.laysGg38_ren : Go.Shelf.Ren := ⟨fun | 38 => 130 | 39 => 135 | n => n, fun | 44 => 125 | 3 => 3 | 64 => 94 | 0 => 0 | 67 => 186 | 26 => 83 | 4 => 4 | 37 => 120 | n => n, fun | n => n⟩
theorem Tryd.laysGg38 : Go.Proofs.LaysGg.n38 Tryd.prog Tryd.laysGg38_ren := {
  mixed := by kernel_rfl
  f38 := Tryd.func130.trans (congrArg some (by kernel_rfl))
  f39 := Tryd.func135.trans (congrArg some (by kernel_rfl))
  t0 := Tryd.underlying0
  a0 := Tryd.isAgg0
  z0 := Tryd.sizeOf0
  v0 := Tryd.zeroValue0
  i0 := by kernel_rfl
  t3 := Tryd.underlying3
  a3 := Tryd.isAgg3
  z3 := Tryd.sizeOf3
  v3 := Tryd.zeroValue3
  i3 := by kernel_rfl
  t4 := Tryd.underlying4
  a4 := Tryd.isAgg4
  z4 := Tryd.sizeOf4
  v4 := Tryd.zeroValue4
  i4 := by kernel_rfl
  t26 := Tryd.underlying83
  a26 := Tryd.isAgg83
  z26 := Tryd.sizeOf83
  v26 := Tryd.zeroValue83
  i26 := by kernel_rfl
  t37 := Tryd.underlying120
  a37 := Tryd.isAgg120
  z37 := Tryd.sizeOf120
  v37 := Tryd.zeroValue120
  i37 := by kernel_rfl
  t44 := Tryd.underlying125
  a44 := Tryd.isAgg125
  z44 := Tryd.sizeOf125
  v44 := Tryd.zeroValue125
  i44 := by kernel_rfl
  t64 := Tryd.underlying94
  a64 := Tryd.isAgg94
  z64 := Tryd.sizeOf94
  v64 := Tryd.zeroValue94
  i64 := by kernel_rfl
  t67 := Tryd.underlying186
  a67 := Tryd.isAgg186
  z67 := Tryd.sizeOf186
  v67 := Tryd.zeroValue186
  i67 := by kernel_rfl }
open Go.RowKit Go.Lib Go.Sort in
theorem Tryd.median_func {α : Type} [Inhabited α] (enc : α → Value) (lt : α → α → Bool) (g : Nat) (lb : Array Value) (sfn : Fn) (sa sb : Array Value) (blk off : Nat) (w0 W : World) (d : Array α) (a b c cb co s : Nat) (eg : ∀ args w, (callFunc g args).run Tryd.prog w = .ok (.enter g args) w) (hL : LessReads Tryd.prog g lb enc lt blk off d.size w0) (hW : SW enc w0 blk off d W) (ha : a < d.size) (hb : b < d.size) (hc : c < d.size) (hS : Holds (Value.int .i64) W cb co (one s)) (hcb0 : w0.heap.size ≤ cb) (hcb : cb < W.heap.size) (hs : s + 3 < 4611686018427387904) :
    Calls Tryd.prog 130 #[.agg #[.func (.func g) #[] lb, .func sfn sa sb], .int .i64 a, .int .i64 b, .int .i64 c, .pointer (some ⟨cb, co, none⟩)] W fun e w' =>
      e = .returned (.int .i64 (median lt d a b c s).1) ∧ ∃ n os, w' = sortWorld (Value.int .i64) W cb co n (one (median lt d a b c s).2) os := Any.median_func Tryd.laysGg38 enc lt g lb sfn sa sb blk off w0 W d a b c cb co s eg hL hW ha hb hc hS hcb0 hcb hs
def Tryd.laysGg37_ren : Go.Shelf.Ren := ⟨fun | 37 => 129 | 38 => 130 | 39 => 135 | n => n, fun | 44 => 125 | 3 => 3 | 64 => 94 | 0 => 0 | 67 => 186 | 26 => 83 | 4 => 4 | 37 => 120 | n => n, fun | n => n⟩
theorem Tryd.laysGg37 : Go.Proofs.LaysGg.n37 Tryd.prog Tryd.laysGg37_ren := {
  mixed := by kernel_rfl
  f37 := Tryd.func129.trans (congrArg some (by kernel_rfl))
  f38 := Tryd.func130.trans (congrArg some (by kernel_rfl))
  f39 := Tryd.func135.trans (congrArg some (by kernel_rfl))
  t0 := Tryd.underlying0
  a0 := Tryd.isAgg0
  z0 := Tryd.sizeOf0
  v0 := Tryd.zeroValue0
  i0 := by kernel_rfl
  t3 := Tryd.underlying3
  a3 := Tryd.isAgg3
  z3 := Tryd.sizeOf3
  v3 := Tryd.zeroValue3
  i3 := by kernel_rfl
  t4 := Tryd.underlying4
  a4 := Tryd.isAgg4
  z4 := Tryd.sizeOf4
  v4 := Tryd.zeroValue4
  i4 := by kernel_rfl
  t26 := Tryd.underlying83
  a26 := Tryd.isAgg83
  z26 := Tryd.sizeOf83
  v26 := Tryd.zeroValue83
  i26 := by kernel_rfl
  t37 := Tryd.underlying120
  a37 := Tryd.isAgg120
  z37 := Tryd.sizeOf120
  v37 := Tryd.zeroValue120
  i37 := by kernel_rfl
  t44 := Tryd.underlying125
  a44 := Tryd.isAgg125
  z44 := Tryd.sizeOf125
  v44 := Tryd.zeroValue125
  i44 := by kernel_rfl
  t64 := Tryd.underlying94
  a64 := Tryd.isAgg94
  z64 := Tryd.sizeOf94
  v64 := Tryd.zeroValue94
  i64 := by kernel_rfl
  t67 := Tryd.underlying186
  a67 := Tryd.isAgg186
  z67 := Tryd.sizeOf186
  v67 := Tryd.zeroValue186
  i67 := by kernel_rfl }
open Go.RowKit Go.Lib Go.Sort in
theorem Tryd.medianAdjacent_func {α : Type} [Inhabited α] (enc : α → Value) (lt : α → α → Bool) (g : Nat) (lb : Array Value) (sfn : Fn) (sa sb : Array Value) (blk off : Nat) (w0 W : World) (d : Array α) (a cb co s : Nat) (eg : ∀ args w, (callFunc g args).run Tryd.prog w = .ok (.enter g args) w) (hL : LessReads Tryd.prog g lb enc lt blk off d.size w0) (hW : SW enc w0 blk off d W) (ha1 : 1 ≤ a) (ha2 : a + 1 < d.size) (hsz : d.size < 4611686018427387904) (hS : Holds (Value.int .i64) W cb co (one s)) (hcb0 : w0.heap.size ≤ cb) (hcb : cb < W.heap.size) (hs : s + 3 < 4611686018427387904) :
    Calls Tryd.prog 129 #[.agg #[.func (.func g) #[] lb, .func sfn sa sb], .int .i64 a, .pointer (some ⟨cb, co, none⟩)] W fun e w' =>
      e = .returned (.int .i64 (medianAdjacent lt d a s).1) ∧ ∃ n os, w' = sortWorld (Value.int .i64) W cb co n (one (medianAdjacent lt d a s).2) os := Any.medianAdjacent_func Tryd.laysGg37 enc lt g lb sfn sa sb blk off w0 W d a cb co s eg hL hW ha1 ha2 hsz hS hcb0 hcb hs
open Go.RowKit in
/-- (*bytes.Buffer).Len: "Len returns the number of bytes of the unread portion of the buffer; b.Len() == len(b.Bytes()).": the world is as it was but for the count of draws (the statement has two reads: its order is drawn). (LAID: no walk: one application.) -/
theorem Tryd.Buffer_Len_at (T : TypeId) (R : Nat → Option Value) (B b q : Nat) (bs : List Value) (w : World) (h : LibA.IsBuffer T R 5 B b q bs w) :
    Calls Tryd.prog 136 #[.pointer (some ⟨b, q, none⟩)] w fun e w' => e = .returned (.int .i64 bs.length) ∧ ∃ n, w' = w.drewN n := Any.Buffer_Len_at Tryd.laysM181 T R B b q bs w h
open Go.RowKit in
/-- (*bytes.Buffer).String: "String returns the contents of the unread portion of the buffer as a string.": THE BYTES THAT WERE WRITTEN. The world is as it was but for the count of draws (the statement has two reads: its order is drawn). (LAID: no walk: one application.) -/
theorem Tryd.Buffer_String_at (T : TypeId) (R : Nat → Option Value) (B b q : Nat) (l : List UInt8) (w : World) (h : LibA.IsBuffer T R 5 B b q (Lib.byteCells l) w) :
    Calls Tryd.prog 118 #[.pointer (some ⟨b, q, none⟩)] w fun e w' => e = .returned (.string ⟨l.toArray⟩) ∧ ∃ n, w' = w.drewN n := Any.Buffer_String_at Tryd.laysM182 T R B b q l w h
open Go.RowKit in
/-- (*bytes.Buffer).tryGrowByReslice: "tryGrowByReslice is an inlineable version of grow for the fast-case where the internal buffer only needs to be resliced. It returns the index where bytes should be written and whether it succeeded.": THERE IS ROOM: 'buf' is resliced to l + n. (LAID: no walk: one application.) -/
theorem Tryd.Buffer_tryGrow_room_at (b q : Nat) (ao : Option Addr) (l cap n : Nat) (w : World) (c0 : w.cell? ⟨b, q, none⟩ = some (.slice ao l cap)) (f0 : w.frozen? ⟨b, q, none⟩ = false) (hlc : l ≤ cap) (hcap : cap ≤ maxLen) (hn : n ≤ cap - l) :
    Calls Tryd.prog 131 #[.pointer (some ⟨b, q, none⟩), .int .i64 n] w fun e w' => e = .returned (.tuple #[.int .i64 l, .bool true]) ∧ w' = w.setCell ⟨b, q, none⟩ (.slice ao (l + n) cap) := Any.Buffer_tryGrow_room_at Tryd.laysM251 b q ao l cap n w c0 f0 hlc hcap hn
open Go.RowKit in
/-- .. THERE IS NONE: nothing turns. (LAID: no walk: one application.) -/
theorem Tryd.Buffer_tryGrow_none_at (b q : Nat) (ao : Option Addr) (l cap n : Nat) (w : World) (c0 : w.cell? ⟨b, q, none⟩ = some (.slice ao l cap)) (hlc : l ≤ cap) (hcap : cap ≤ maxLen) (hn : cap - l < n) :
    Calls Tryd.prog 131 #[.pointer (some ⟨b, q, none⟩), .int .i64 n] w fun e w' => e = .returned (.tuple #[.int .i64 0, .bool false]) ∧ w' = w := Any.Buffer_tryGrow_none_at Tryd.laysM251 b q ao l cap n w c0 hlc hcap hn
open Go.RowKit in
/-- grow, WHERE THE BUFFER HOLDS A ROW, NO BYTE IN IT (behind a Reset), AND THE ROW HAS NO ROOM: growSlice. (THE TEXT OF 'Buffer_grow_row' WITH 0 FOR l, BY PROGRAM: the walk parts on 'm == 0' and writes 0 for l throughout the goal: facts that still say l then do not strike: so l is laid in ahead of the walk.) (LAID: no walk: one application.) -/
theorem Tryd.Buffer_grow_row0_at (T : TypeId) (R : Nat → Option Value) (B b q g cap n : Nat) (lr : Int) (cur : Array Value) (bs : List Value) (w : World) (hB : B ≤ b) (hBw : B ≤ w.heap.size) (hbk : LibA.Three w b q T R (.slice (some ⟨g, 0, none⟩) 0 cap) (.int .i64 0) (.int .i8 lr)) (hl : bs.length = 0) (hBg : B ≤ g) (hg : w.heap[g]? = some (.cells cur 5 (0, 0))) (hlc : 0 ≤ cap) (hcm : cap ≤ maxLen) (hcs : cur.size = cap) (htake : cur.toList.take 0 = bs) (hgb : g ≠ b) (h1 : ∀ v ∈ bs, v.oneCell' = true) (hn : 1 ≤ n) (hroom : cap - 0 < n) (hlim : 0 + n ≤ 140737488355328) :
    Calls Tryd.prog 132 #[.pointer (some ⟨b, q, none⟩), .int .i64 n] w fun e w' => e = .returned (.int .i64 0) ∧ ∃ xs, xs.length = n ∧ LibA.IsBuffer T R 5 B b q (bs ++ xs) w' ∧ Below B w w' ∧ Lib.OthersKept 5 (some b) w w' ∧ w.grownBy w' (some b) := Any.Buffer_grow_row0_at Tryd.laysM252 T R B b q g cap n lr cur bs w hB hBw hbk hl hBg hg hlc hcm hcs htake hgb h1 hn hroom hlim
open Go.RowKit in
/-- grow, WHERE THE BUFFER HOLDS A ROW THAT HAS NO ROOM: growSlice. (LAID: no walk: one application.) -/
theorem Tryd.Buffer_grow_row_at (T : TypeId) (R : Nat → Option Value) (B b q g l cap n : Nat) (lr : Int) (cur : Array Value) (bs : List Value) (w : World) (hB : B ≤ b) (hBw : B ≤ w.heap.size) (hbk : LibA.Three w b q T R (.slice (some ⟨g, 0, none⟩) l cap) (.int .i64 0) (.int .i8 lr)) (hl : bs.length = l) (hBg : B ≤ g) (hg : w.heap[g]? = some (.cells cur 5 (0, 0))) (hlc : l ≤ cap) (hcm : cap ≤ maxLen) (hcs : cur.size = cap) (htake : cur.toList.take l = bs) (hgb : g ≠ b) (h1 : ∀ v ∈ bs, v.oneCell' = true) (hn : 1 ≤ n) (hroom : cap - l < n) (hlim : l + n ≤ 140737488355328) :
    Calls Tryd.prog 132 #[.pointer (some ⟨b, q, none⟩), .int .i64 n] w fun e w' => e = .returned (.int .i64 l) ∧ ∃ xs, xs.length = n ∧ LibA.IsBuffer T R 5 B b q (bs ++ xs) w' ∧ Below B w w' ∧ Lib.OthersKept 5 (some b) w w' ∧ w.grownBy w' (some b) := Any.Buffer_grow_row_at Tryd.laysM252 T R B b q g l cap n lr cur bs w hB hBw hbk hl hBg hg hlc hcm hcs htake hgb h1 hn hroom hlim
open Go.RowKit in
/-- grow, 'buf' nil, n AT MOST 64: 'b.buf = make([]byte, n, smallBufferSize)'. (LAID: no walk: one application.) -/
theorem Tryd.Buffer_grow_nil_small_at (T : TypeId) (R : Nat → Option Value) (B b q n : Nat) (lr : Int) (w : World) (hB : B ≤ b) (hBw : B ≤ w.heap.size) (hbk : LibA.Three w b q T R (.slice none 0 0) (.int .i64 0) (.int .i8 lr)) (hn : 1 ≤ n) (h64 : n ≤ 64) :
    Calls Tryd.prog 132 #[.pointer (some ⟨b, q, none⟩), .int .i64 n] w fun e w' => e = .returned (.int .i64 0) ∧ ∃ xs, xs.length = n ∧ LibA.IsBuffer T R 5 B b q xs w' ∧ Below B w w' ∧ Lib.OthersKept 5 (some b) w w' ∧ w.grownBy w' (some b) := Any.Buffer_grow_nil_small_at Tryd.laysM252 T R B b q n lr w hB hBw hbk hn h64
open Go.RowKit in
/-- grow, 'buf' nil, n ABOVE 64: growSlice of the nil slice. (LAID: no walk: one application.) -/
theorem Tryd.Buffer_grow_nil_big_at (T : TypeId) (R : Nat → Option Value) (B b q n : Nat) (lr : Int) (w : World) (hB : B ≤ b) (hBw : B ≤ w.heap.size) (hbk : LibA.Three w b q T R (.slice none 0 0) (.int .i64 0) (.int .i8 lr)) (h64 : 64 < n) (hlim : n ≤ 140737488355328) :
    Calls Tryd.prog 132 #[.pointer (some ⟨b, q, none⟩), .int .i64 n] w fun e w' => e = .returned (.int .i64 0) ∧ ∃ xs, xs.length = n ∧ LibA.IsBuffer T R 5 B b q xs w' ∧ Below B w w' ∧ Lib.OthersKept 5 (some b) w w' ∧ w.grownBy w' (some b) := Any.Buffer_grow_nil_big_at Tryd.laysM252 T R B b q n lr w hB hBw hbk h64 hlim
open Go.RowKit in
/-- tryGrowByReslice: EITHER there is room: the place to write at is the old length, and the buffer holds the old bytes and n more of whatever lay there; OR there is none: nothing turns, and 'Lib.NoRoom' is what grow asks. (LAID: no walk: one application.) -/
theorem Tryd.Buffer_tryGrow_at (T : TypeId) (R : Nat → Option Value) (B b q n : Nat) (bs : List Value) (w : World) (h : LibA.IsBuffer T R 5 B b q bs w) :
    Calls Tryd.prog 131 #[.pointer (some ⟨b, q, none⟩), .int .i64 n] w fun e w' =>
      (e = .returned (.tuple #[.int .i64 bs.length, .bool true]) ∧ ∃ xs, xs.length = n ∧ LibA.IsBuffer T R 5 B b q (bs ++ xs) w' ∧ Below B w w' ∧ Lib.OthersKept 5 (some b) w w' ∧ w.grownBy w' (some b)) ∨
      (e = .returned (.tuple #[.int .i64 0, .bool false]) ∧ w' = w ∧ LibA.NoRoom b q n w) := Any.Buffer_tryGrow_at Tryd.laysM251 T R B b q n bs w h
open Go.RowKit in
/-- (*bytes.Buffer).grow: "grow grows the buffer to guarantee space for n more bytes. It returns the index where bytes should be written.": WHERE THERE IS NO ROOM; UNDER Go's OWN LIMIT (the new length takes at most 2^47 bytes): the old length; the buffer holds the old bytes and n more of whatever. (LAID: no walk: one application.) -/
theorem Tryd.Buffer_grow_at (T : TypeId) (R : Nat → Option Value) (B b q n : Nat) (bs : List Value) (w : World) (h : LibA.IsBuffer T R 5 B b q bs w) (hnr : LibA.NoRoom b q n w) (hBw : B ≤ w.heap.size) (h1 : ∀ v ∈ bs, v.oneCell' = true) (hlim : bs.length + n ≤ 140737488355328) :
    Calls Tryd.prog 132 #[.pointer (some ⟨b, q, none⟩), .int .i64 n] w fun e w' => e = .returned (.int .i64 bs.length) ∧ ∃ xs, xs.length = n ∧ LibA.IsBuffer T R 5 B b q (bs ++ xs) w' ∧ Below B w w' ∧ Lib.OthersKept 5 (some b) w w' ∧ w.grownBy w' (some b) := Any.Buffer_grow_at Tryd.laysM252 T R B b q n bs w h hnr hBw h1 hlim
open Go.RowKit in
/-- (*bytes.Buffer).WriteByte: "WriteByte appends the byte c to the buffer, growing the buffer as needed. The returned error is always nil". (LAID: no walk: one application.) -/
theorem Tryd.Buffer_WriteByte_at (T : TypeId) (R : Nat → Option Value) (B b q : Nat) (bs : List Value) (c : Int) (w : World) (h : LibA.IsBuffer T R 5 B b q bs w) (hBw : B ≤ w.heap.size) (h1 : ∀ v ∈ bs, v.oneCell' = true) (hlim : bs.length + 1 ≤ 140737488355328) :
    Calls Tryd.prog 117 #[.pointer (some ⟨b, q, none⟩), .int .u8 c] w fun e w' => e = .returned .nilIface ∧ LibA.IsBuffer T R 5 B b q (bs ++ [.int .u8 c]) w' ∧ Below B w w' ∧ Lib.OthersKept 5 (some b) w w' := Any.Buffer_WriteByte_at Tryd.laysM179 T R B b q bs c w h hBw h1 hlim
open Go.RowKit in
/-- (*bytes.Buffer).WriteString: "WriteString appends the contents of s to the buffer, growing the buffer as needed. The return value n is the length of s; err is always nil." (LAID: no walk: one application.) -/
theorem Tryd.Buffer_WriteString_at (T : TypeId) (R : Nat → Option Value) (B b q : Nat) (bs : List Value) (s : ByteArray) (w : World) (h : LibA.IsBuffer T R 5 B b q bs w) (hBw : B ≤ w.heap.size) (h1 : ∀ v ∈ bs, v.oneCell' = true) (hlim : bs.length + s.size ≤ 140737488355328) :
    Calls Tryd.prog 116 #[.pointer (some ⟨b, q, none⟩), .string s] w fun e w' => e = .returned (.tuple #[.int .i64 s.size, .nilIface]) ∧ LibA.IsBuffer T R 5 B b q (bs ++ Lib.byteCells s.data.toList) w' ∧ Below B w w' ∧ Lib.OthersKept 5 (some b) w w' := Any.Buffer_WriteString_at Tryd.laysM178 T R B b q bs s w h hBw h1 hlim
def Tryd.lays193_ren : Go.Shelf.Ren := ⟨fun | 193 => 22 | n => n, fun | 31 => 24 | 9 => 9 | 4 => 4 | 3 => 3 | 0 => 0 | n => n, fun | n => n⟩
theorem Tryd.lays193 : Go.Proofs.Lays.n193 Tryd.prog Tryd.lays193_ren := {
  mixed := by kernel_rfl
  f193 := Tryd.func22.trans (congrArg some (by kernel_rfl))
  t0 := Tryd.underlying0
  a0 := Tryd.isAgg0
  z0 := Tryd.sizeOf0
  v0 := Tryd.zeroValue0
  t3 := Tryd.underlying3
  a3 := Tryd.isAgg3
  z3 := Tryd.sizeOf3
  v3 := Tryd.zeroValue3
  t4 := Tryd.underlying4
  a4 := Tryd.isAgg4
  z4 := Tryd.sizeOf4
  v4 := Tryd.zeroValue4
  t9 := Tryd.underlying9
  a9 := Tryd.isAgg9
  z9 := Tryd.sizeOf9
  v9 := Tryd.zeroValue9
  t31 := Tryd.underlying24
  a31 := Tryd.isAgg24
  z31 := Tryd.sizeOf24
  v31 := Tryd.zeroValue24 }
open Go.RowKit Go.Lib in
/-- slices.Equal at []string: "Equal reports whether two slices are equal: the same length and all elements equal. If the lengths are different, Equal returns false. Otherwise, the elements are compared in increasing index order, and the comparison stops at the first unequal pair. Empty and nil slices are considered equal.": IT RETURNS WHETHER THE TWO LISTS OF ELEMENTS ARE ONE; the world is as it was but for the count of draws (the test 's1[i] != s2[i]' has two reads, whose order the model draws, once a round). 'xs', 'ys': what the cells behind the two addresses hold (the spare capacity too, if you have it); 'xs.take n', 'ys.take m': the elements. THE TWO SLICES MAY OVERLAP. (LAID: no walk: one application.) -/
theorem Tryd.slices_Equal_string (b1 o1 n c b2 o2 m d : Nat) (xs ys : List ByteArray) (w : World) (hx : n ≤ xs.length) (hy : m ≤ ys.length) (hbig : n ≤ 9223372036854775807) (hbig2 : m ≤ 9223372036854775807) (hc1 : ∀ j, j < xs.length → w.cell? ⟨b1, o1 + j, none⟩ = some (.string (xs.getD j ByteArray.empty))) (hc2 : ∀ j, j < ys.length → w.cell? ⟨b2, o2 + j, none⟩ = some (.string (ys.getD j ByteArray.empty))) :
    Calls Tryd.prog 22 #[.slice (some ⟨b1, o1, none⟩) n c, .slice (some ⟨b2, o2, none⟩) m d] w fun e w' => e = .returned (.bool (decide (xs.take n = ys.take m))) ∧ ∃ q, w' = w.drewN q := Any.slices_Equal_string Tryd.lays193 b1 o1 n c b2 o2 m d xs ys w hx hy hbig hbig2 hc1 hc2
open Go.RowKit Go.Lib in
/-- The same where the first is of length 0 (a nil one too): no cell is asked for. (LAID: no walk: one application.) -/
theorem Tryd.slices_Equal_string_empty (a1 a2 : Option Addr) (c m d : Nat) (w : World) (hbig2 : m ≤ 9223372036854775807) :
    Calls Tryd.prog 22 #[.slice a1 0 c, .slice a2 m d] w fun e w' => e = .returned (.bool (decide (m = 0))) ∧ w' = w := Any.slices_Equal_string_empty Tryd.lays193 a1 a2 c m d w hbig2
def Tryd.laysNm216_ren : Go.Shelf.Ren := ⟨fun | 16 => 60 | n => n, fun | 24 => 24 | 9 => 9 | 4 => 4 | n => n, fun | n => n⟩
theorem Tryd.laysNm216 : Go.Proofs.Lays2.n16 Tryd.prog Tryd.laysNm216_ren := {
  mixed := by kernel_rfl
  f16 := Tryd.func60.trans (congrArg some (by kernel_rfl))
  t4 := Tryd.underlying4
  a4 := Tryd.isAgg4
  z4 := Tryd.sizeOf4
  v4 := Tryd.zeroValue4
  t9 := Tryd.underlying9
  a9 := Tryd.isAgg9
  z9 := Tryd.sizeOf9
  v9 := Tryd.zeroValue9
  t24 := Tryd.underlying24
  a24 := Tryd.isAgg24
  z24 := Tryd.sizeOf24
  v24 := Tryd.zeroValue24
  i9 := by kernel_rfl }
open Go.RowKit Go.Lib in
/-- slices.Clone at []string: "Clone returns a copy of the slice. The elements are copied using assignment, so this is a shallow clone. The result may have additional unused capacity. The result preserves the nilness of s.": OF A SLICE THAT IS NOT nil IT RETURNS A SLICE THAT IS NOT nil, OF THE SAME ELEMENTS, IN MEMORY OF THE CALL's OWN: in the how-to's words (6f): 'w'.ownsRow B e 1 v' n cells': v' begins at the head of a row among the blocks from B on (B: the heap's size at the call), not frozen, whose first cells are the elements · 'Below B w w'': below B all is as it was. The capacity is whatever the run-time gives. 'zs': what the cells behind the slice's address hold; 'zs.take n': its elements. (LAID: no walk: one application.) -/
theorem Tryd.slices_Clone_string (b off n c : Nat) (zs : List ByteArray) (w : World) (hz : n ≤ zs.length) (hbig : n * 16 ≤ 140737488355328) (hc : ∀ j, j < zs.length → w.cell? ⟨b, off + j, none⟩ = some (.string (zs.getD j ByteArray.empty))) :
    Calls Tryd.prog 60 #[.slice (some ⟨b, off, none⟩) n c] w fun e w' => ∃ v', e = .returned v' ∧ w'.ownsRow w.heap.size 9 1 v' n ((zs.take n).map (Value.string)) ∧ v' ≠ .slice none 0 0 ∧ Below w.heap.size w w' := Any.slices_Clone_string Tryd.laysNm216 b off n c zs w hz hbig hc
open Go.RowKit Go.Lib in
/-- The same at nil: nil comes back; the world is as it was. (LAID: no walk: one application.) -/
theorem Tryd.slices_Clone_string_nil (n c : Nat) (w : World) :
    Calls Tryd.prog 60 #[.slice none n c] w fun e w' => e = .returned (.slice none 0 0) ∧ w' = w := Any.slices_Clone_string_nil Tryd.laysNm216 n c w
open Go.RowKit Go.Lib in
/-- The same at a slice of length 0 that is not nil, WHATEVER ITS ADDRESS (no cell is asked for): a slice that is not nil and owns nothing comes back. (LAID: no walk: one application.) -/
theorem Tryd.slices_Clone_string_zero (a : Addr) (c : Nat) (w : World) :
    Calls Tryd.prog 60 #[.slice (some a) 0 c] w fun e w' => ∃ v', e = .returned v' ∧ w'.ownsRow w.heap.size 9 1 v' 0 [] ∧ v' ≠ .slice none 0 0 ∧ Below w.heap.size w w' := Any.slices_Clone_string_zero Tryd.laysNm216 a c w
def Tryd.laysNm223_ren : Go.Shelf.Ren := ⟨fun | 23 => 54 | n => n, fun | 22 => 59 | 3 => 3 | 4 => 4 | 0 => 0 | n => n, fun | n => n⟩
theorem Tryd.laysNm223 : Go.Proofs.Lays2.n23 Tryd.prog Tryd.laysNm223_ren := {
  mixed := by kernel_rfl
  f23 := Tryd.func54.trans (congrArg some (by kernel_rfl))
  t0 := Tryd.underlying0
  a0 := Tryd.isAgg0
  z0 := Tryd.sizeOf0
  v0 := Tryd.zeroValue0
  t3 := Tryd.underlying3
  a3 := Tryd.isAgg3
  z3 := Tryd.sizeOf3
  v3 := Tryd.zeroValue3
  t4 := Tryd.underlying4
  a4 := Tryd.isAgg4
  z4 := Tryd.sizeOf4
  v4 := Tryd.zeroValue4
  t22 := Tryd.underlying59
  a22 := Tryd.isAgg59
  z22 := Tryd.sizeOf59
  v22 := Tryd.zeroValue59
  i3 := by kernel_rfl }
open Go.RowKit Go.Lib Go.Sort in
/-- slices.Delete at []int, over an array. (LAID: no walk: one application.) -/
theorem Tryd.slices_Delete_int_arr (blk off cap i j : Nat) (d : Array Int) (w : World) (hH : Holds encI w blk off d) (hcap : d.size ≤ cap) (hm : cap ≤ 9223372036854775807) (hij : i ≤ j) (hj : j ≤ d.size) :
    Calls Tryd.prog 54 #[.slice (some ⟨blk, off, none⟩) d.size cap, .int .i64 i, .int .i64 j] w fun e w' => e = .returned (.slice (some ⟨blk, off, none⟩) (d.size - (j - i)) cap) ∧ ∃ q, w' = putRow encI (Sort.ahead w q) blk off (d.toList.take i ++ d.toList.drop j ++ List.replicate (j - i) 0).toArray := Any.slices_Delete_int_arr Tryd.laysNm223 blk off cap i j d w hH hcap hm hij hj
open Go.RowKit Go.Lib Go.Sort in
/-- slices.Delete at []int: "Delete modifies s in place by removing the elements s[i:j], and returns the modified slice. Delete panics if j > len(s) or s[i:j] is not a valid slice of s. Delete is O(len(s)-i), so if many items must be deleted, it is better to make a single call deleting them all together than to delete one at a time. Delete zeroes the elements s[len(s)-(j-i):len(s)]. If the result is empty, it has the same nilness as s.": FOR i ≤ j ≤ len(s) IT RETURNS THE SLICE CUT TO len(s) - (j - i) ELEMENTS; ITS CELLS HOLD what stood ahead of i, what stood from j on, then j - i zero values; all else is as it was, but for the count of draws. IN THE WORDS OF slices.Sort's CONTRACT ('Holds', 'putRow'). It asks 'zs.length ≤ cap ≤ 2^63 - 1' (every slice's). (Outside i ≤ j ≤ len(s) it panics: no contract here.) (LAID: no walk: one application.) -/
theorem Tryd.slices_Delete_int (blk off cap i j : Nat) (zs : List Int) (w : World) (hH : Holds (Value.int .i64) w blk off zs.toArray) (hcap : zs.length ≤ cap) (hm : cap ≤ 9223372036854775807) (hij : i ≤ j) (hj : j ≤ zs.length) :
    Calls Tryd.prog 54 #[.slice (some ⟨blk, off, none⟩) zs.length cap, .int .i64 i, .int .i64 j] w fun e w' => e = .returned (.slice (some ⟨blk, off, none⟩) (zs.length - (j - i)) cap) ∧ ∃ q, w' = putRow (Value.int .i64) (Sort.ahead w q) blk off (zs.take i ++ zs.drop j ++ List.replicate (j - i) 0).toArray := Any.slices_Delete_int Tryd.laysNm223 blk off cap i j zs w hH hcap hm hij hj
open Go.RowKit Go.Lib Go.Sort in
/-- slices.Delete at []int, of an argument, for i ≤ j ≤ n: the slice cut to n - (j - i) elements; the n cells hold what stood ahead of i, what stood from j on, then zeros. (LAID: no walk: one application.) -/
theorem Tryd.slices_Delete_int_cells (b off n c i j : Nat) (zs : List Int) (w : World) (hz : n ≤ zs.length) (hcap : n ≤ c) (hm : c ≤ 9223372036854775807) (hij : i ≤ j) (hj : j ≤ n) (hc : ∀ j, j < zs.length → w.cell? ⟨b, off + j, none⟩ = some (.int .i64 (zs.getD j 0))) (hf : ∀ j, j < n → w.frozen? ⟨b, off + j, none⟩ = false) :
    Calls Tryd.prog 54 #[.slice (some ⟨b, off, none⟩) n c, .int .i64 i, .int .i64 j] w fun e w' => e = .returned (.slice (some ⟨b, off, none⟩) (n - (j - i)) c) ∧ ∃ q, w' = (w.drewN q).setCells b off (((zs.take n).take i ++ (zs.take n).drop j ++ List.replicate (j - i) 0).map (Value.int .i64)) := Any.slices_Delete_int_cells Tryd.laysNm223 b off n c i j zs w hz hcap hm hij hj hc hf
open Go.RowKit Go.Sort in
/-- .. and plain. (LAID: no walk: one application.) -/
theorem Tryd.slices_Sort_string_none (p : Option Addr) (cap : Nat) (w : World) :
    Calls Tryd.prog 34 #[.slice p 0 cap] w fun e w' => e = .returned (.tuple #[]) ∧ w' = w := Any.slices_Sort_string_none Tryd.lays190 p cap w
open Go.RowKit Go.Lib in
/-- slices.Delete at []int of no element ('Delete(s, 0, 0)'): s comes back; the world is as it was. (LAID: no walk: one application.) -/
theorem Tryd.slices_Delete_int_empty (a : Option Addr) (c : Nat) (w : World) :
    Calls Tryd.prog 54 #[.slice a 0 c, .int .i64 0, .int .i64 0] w fun e w' => e = .returned (.slice a 0 c) ∧ w' = w := Any.slices_Delete_int_empty Tryd.laysNm223 a c w
open Go.RowKit Go.Lib in
theorem Tryd.slices_Equal_string_lens (a1 a2 : Option Addr) (n c m d : Nat) (w : World) (hnm : n ≠ m) :
    Calls Tryd.prog 22 #[.slice a1 n c, .slice a2 m d] w fun e w' => e = .returned (.bool false) ∧ w' = w := Any.slices_Equal_string_lens Tryd.lays193 a1 a2 n c m d w hnm
def Tryd.laysGg36_ren : Go.Shelf.Ren := ⟨fun | 36 => 128 | n => n, fun | 66 => 194 | 51 => 114 | 0 => 0 | 60 => 188 | 41 => 77 | n => n, fun | n => n⟩
theorem Tryd.laysGg36 : Go.Proofs.LaysGg.n36 Tryd.prog Tryd.laysGg36_ren := {
  mixed := by kernel_rfl
  f36 := Tryd.func128.trans (congrArg some (by kernel_rfl))
  t0 := Tryd.underlying0
  a0 := Tryd.isAgg0
  z0 := Tryd.sizeOf0
  v0 := Tryd.zeroValue0
  i0 := by kernel_rfl
  t41 := Tryd.underlying77
  a41 := Tryd.isAgg77
  z41 := Tryd.sizeOf77
  v41 := Tryd.zeroValue77
  i41 := by kernel_rfl
  t51 := Tryd.underlying114
  a51 := Tryd.isAgg114
  z51 := Tryd.sizeOf114
  v51 := Tryd.zeroValue114
  i51 := by kernel_rfl
  t60 := Tryd.underlying188
  a60 := Tryd.isAgg188
  z60 := Tryd.sizeOf188
  v60 := Tryd.zeroValue188
  i60 := by kernel_rfl
  t66 := Tryd.underlying194
  a66 := Tryd.isAgg194
  z66 := Tryd.sizeOf194
  v66 := Tryd.zeroValue194
  i66 := by kernel_rfl }
open Go.RowKit Go.Lib Go.Sort in
/-- '*r ^= *r << 13; *r ^= *r >> 7; *r ^= *r << 17; return uint64(*r)': the cell holds 'xorNextN X' and that is handed back; three draws; nothing else turns. (LAID: no walk: one application.) -/
theorem Tryd.xorshift_Next (rb ro X : Nat) (hX : X < 18446744073709551616) (w : World) (hc : w.cell? ⟨rb, ro, none⟩ = some (.int .u64 X)) (hf : w.frozen? ⟨rb, ro, none⟩ = false) :
    Calls Tryd.prog 128 #[.pointer (some ⟨rb, ro, none⟩)] w fun e w' => e = .returned (.int .u64 (xorNextN X : Nat)) ∧ w' = (w.setCell ⟨rb, ro, none⟩ (.int .u64 (xorNextN X : Nat))).drewN 3 := Any.xorshift_Next Tryd.laysGg36 rb ro X hX w hc hf
def Tryd.laysGg35_ren : Go.Shelf.Ren := ⟨fun | 35 => 127 | 13 => 47 | 24 => 71 | 25 => 72 | n => n, fun | 3 => 3 | 41 => 77 | 49 => 112 | 51 => 114 | 4 => 4 | 5 => 5 | 9 => 9 | n => n, fun | n => n⟩
theorem Tryd.laysGg35 : Go.Proofs.LaysGg.n35 Tryd.prog Tryd.laysGg35_ren := {
  mixed := by kernel_rfl
  f13 := Tryd.func47.trans (congrArg some (by kernel_rfl))
  f24 := Tryd.func71.trans (congrArg some (by kernel_rfl))
  f25 := Tryd.func72.trans (congrArg some (by kernel_rfl))
  f35 := Tryd.func127.trans (congrArg some (by kernel_rfl))
  t3 := Tryd.underlying3
  a3 := Tryd.isAgg3
  z3 := Tryd.sizeOf3
  v3 := Tryd.zeroValue3
  i3 := by kernel_rfl
  t4 := Tryd.underlying4
  a4 := Tryd.isAgg4
  z4 := Tryd.sizeOf4
  v4 := Tryd.zeroValue4
  i4 := by kernel_rfl
  t5 := Tryd.underlying5
  a5 := Tryd.isAgg5
  z5 := Tryd.sizeOf5
  v5 := Tryd.zeroValue5
  i5 := by kernel_rfl
  t9 := Tryd.underlying9
  a9 := Tryd.isAgg9
  z9 := Tryd.sizeOf9
  v9 := Tryd.zeroValue9
  i9 := by kernel_rfl
  t41 := Tryd.underlying77
  a41 := Tryd.isAgg77
  z41 := Tryd.sizeOf77
  v41 := Tryd.zeroValue77
  i41 := by kernel_rfl
  t49 := Tryd.underlying112
  a49 := Tryd.isAgg112
  z49 := Tryd.sizeOf112
  v49 := Tryd.zeroValue112
  i49 := by kernel_rfl
  t51 := Tryd.underlying114
  a51 := Tryd.isAgg114
  z51 := Tryd.sizeOf114
  v51 := Tryd.zeroValue114
  i51 := by kernel_rfl }
open Go.RowKit Go.Lib Go.Sort in
/-- 'return 1 << bits.Len(uint(length))'. (LAID: no walk: one application.) -/
theorem Tryd.nextPowerOfTwo (n : Nat) (hn : n < 4611686018427387904) (w : World) :
    Calls Tryd.prog 127 #[.int .i64 n] w fun e w' => e = .returned (.int .u64 ((1 <<< bitsLen n : Nat) : Int)) ∧ w' = w := Any.nextPowerOfTwo Tryd.laysGg35 n hn w
open Go.RowKit Go.Lib Go.Sort in
/-- sort.insertionSort_func, from a world to a 'sortWorld' of it. (LAID: no walk: one application.) -/
theorem Tryd.insertionSort_func_cells_w {α : Type} [Inhabited α] (enc : α → List Value) (k : Nat) (hk : ∀ x, (enc x).length = k) (lt : α → α → Bool) (g : Nat) (lb : Array Value) (sf : Nat) (sb : Array Value) (blk off a b : Nat) (d : Array α) (w : World) (eg : ∀ args w, (callFunc g args).run Tryd.prog w = .ok (.enter g args) w) (hless : LessReadsK Tryd.prog g lb enc k lt blk off d.size w) (hswap : SwapSwapsK Tryd.prog sf sb enc k blk off d.size) (hH : HoldsK enc k w blk off d) (hblk : blk < w.heap.size) (hab : a ≤ b) (hb : b ≤ d.size) (hsz : d.size < 4611686018427387904) :
    Calls Tryd.prog 108 #[.agg #[.func (.func g) #[] lb, .func (.func sf) #[] sb], .int .i64 a, .int .i64 b] w fun e w' => e = .returned (.tuple #[]) ∧ ∃ n os, w' = sortWorldK enc k w blk off n (Sort.insertionSort lt d a b) os := Any.insertionSort_func_cells_w Tryd.laysGg26 enc k hk lt g lb sf sb blk off a b d w eg hless hswap hH hblk hab hb hsz
open Go.RowKit Go.Lib Go.Sort in
theorem Tryd.reverseRange_func_cells {α : Type} [Inhabited α] (enc : α → List Value) (k : Nat) (hk : ∀ x, (enc x).length = k) (lf : Fn) (la lb : Array Value) (sf : Nat) (sb : Array Value) (blk off a b : Nat) (d : Array α) (w : World) (hswap : SwapSwapsK Tryd.prog sf sb enc k blk off d.size) (hH : HoldsK enc k w blk off d) (hblk : blk < w.heap.size) (hab : a ≤ b) (hb : b ≤ d.size) (hsz : d.size < 4611686018427387904) :
    Calls Tryd.prog 112 #[.agg #[.func lf la lb, .func (.func sf) #[] sb], .int .i64 a, .int .i64 b] w fun e w' => e = .returned (.tuple #[]) ∧ ∃ n, w' = putRowK enc k (Sort.ahead (w.alloc (.cells #[.func lf la lb, .func (.func sf) #[] sb] 125)) n) blk off (reverseRange d a b) := Any.reverseRange_func_cells Tryd.laysGg30 enc k hk lf la lb sf sb blk off a b d w hswap hH hblk hab hb hsz
open Go.RowKit Go.Lib Go.Sort in
/-- sort.reverseRange_func, from a world to a 'sortWorld' of it. (LAID: no walk: one application.) -/
theorem Tryd.reverseRange_func_cells_w {α : Type} [Inhabited α] (enc : α → List Value) (k : Nat) (hk : ∀ x, (enc x).length = k) (lf : Fn) (la lb : Array Value) (sf : Nat) (sb : Array Value) (blk off a b : Nat) (d : Array α) (w : World) (hswap : SwapSwapsK Tryd.prog sf sb enc k blk off d.size) (hH : HoldsK enc k w blk off d) (hblk : blk < w.heap.size) (hab : a ≤ b) (hb : b ≤ d.size) (hsz : d.size < 4611686018427387904) :
    Calls Tryd.prog 112 #[.agg #[.func lf la lb, .func (.func sf) #[] sb], .int .i64 a, .int .i64 b] w fun e w' => e = .returned (.tuple #[]) ∧ ∃ n os, w' = sortWorldK enc k w blk off n (reverseRange d a b) os := Any.reverseRange_func_cells_w Tryd.laysGg30 enc k hk lf la lb sf sb blk off a b d w hswap hH hblk hab hb hsz
def Tryd.laysGg34_ren : Go.Shelf.Ren := ⟨fun | 34 => 126 | n => n, fun | 44 => 125 | 3 => 3 | 0 => 0 | 4 => 4 | 26 => 83 | 37 => 120 | n => n, fun | n => n⟩
theorem Tryd.laysGg34 : Go.Proofs.LaysGg.n34 Tryd.prog Tryd.laysGg34_ren := {
  mixed := by kernel_rfl
  f34 := Tryd.func126.trans (congrArg some (by kernel_rfl))
  t0 := Tryd.underlying0
  a0 := Tryd.isAgg0
  z0 := Tryd.sizeOf0
  v0 := Tryd.zeroValue0
  i0 := by kernel_rfl
  t3 := Tryd.underlying3
  a3 := Tryd.isAgg3
  z3 := Tryd.sizeOf3
  v3 := Tryd.zeroValue3
  i3 := by kernel_rfl
  t4 := Tryd.underlying4
  a4 := Tryd.isAgg4
  z4 := Tryd.sizeOf4
  v4 := Tryd.zeroValue4
  i4 := by kernel_rfl
  t26 := Tryd.underlying83
  a26 := Tryd.isAgg83
  z26 := Tryd.sizeOf83
  v26 := Tryd.zeroValue83
  i26 := by kernel_rfl
  t37 := Tryd.underlying120
  a37 := Tryd.isAgg120
  z37 := Tryd.sizeOf120
  v37 := Tryd.zeroValue120
  i37 := by kernel_rfl
  t44 := Tryd.underlying125
  a44 := Tryd.isAgg125
  z44 := Tryd.sizeOf125
  v44 := Tryd.zeroValue125
  i44 := by kernel_rfl }
open Go.RowKit Go.Lib Go.Sort in
theorem Tryd.siftDown_func_cells {α : Type} [Inhabited α] (enc : α → List Value) (k : Nat) (hk : ∀ x, (enc x).length = k) (lt : α → α → Bool) (g : Nat) (lb : Array Value) (sf : Nat) (sb : Array Value) (blk off lo hi first : Nat) (d : Array α) (w : World) (eg : ∀ args w, (callFunc g args).run Tryd.prog w = .ok (.enter g args) w) (hless : LessReadsK Tryd.prog g lb enc k lt blk off d.size w) (hswap : SwapSwapsK Tryd.prog sf sb enc k blk off d.size) (hH : HoldsK enc k w blk off d) (hblk : blk < w.heap.size) (hlo : lo ≤ hi) (hb : first + hi ≤ d.size) (hsz : d.size < 4611686018427387904) :
    Calls Tryd.prog 126 #[.agg #[.func (.func g) #[] lb, .func (.func sf) #[] sb], .int .i64 lo, .int .i64 hi, .int .i64 first] w fun e w' =>
      e = .returned (.tuple #[]) ∧ ∃ n, w' = putRowK enc k (Sort.ahead (w.alloc (.cells #[.func (.func g) #[] lb, .func (.func sf) #[] sb] 125)) n) blk off (siftDown lt hi first lo d) := Any.siftDown_func_cells Tryd.laysGg34 enc k hk lt g lb sf sb blk off lo hi first d w eg hless hswap hH hblk hlo hb hsz
open Go.RowKit Go.Lib Go.Sort in
/-- sort.siftDown_func, from a world to a 'sortWorld' of it. (LAID: no walk: one application.) -/
theorem Tryd.siftDown_func_cells_w {α : Type} [Inhabited α] (enc : α → List Value) (k : Nat) (hk : ∀ x, (enc x).length = k) (lt : α → α → Bool) (g : Nat) (lb : Array Value) (sf : Nat) (sb : Array Value) (blk off lo hi first : Nat) (d : Array α) (w : World) (eg : ∀ args w, (callFunc g args).run Tryd.prog w = .ok (.enter g args) w) (hless : LessReadsK Tryd.prog g lb enc k lt blk off d.size w) (hswap : SwapSwapsK Tryd.prog sf sb enc k blk off d.size) (hH : HoldsK enc k w blk off d) (hblk : blk < w.heap.size) (hlo : lo ≤ hi) (hb : first + hi ≤ d.size) (hsz : d.size < 4611686018427387904) :
    Calls Tryd.prog 126 #[.agg #[.func (.func g) #[] lb, .func (.func sf) #[] sb], .int .i64 lo, .int .i64 hi, .int .i64 first] w fun e w' => e = .returned (.tuple #[]) ∧ ∃ n os, w' = sortWorldK enc k w blk off n (siftDown lt hi first lo d) os := Any.siftDown_func_cells_w Tryd.laysGg34 enc k hk lt g lb sf sb blk off lo hi first d w eg hless hswap hH hblk hlo hb hsz
def Tryd.laysGg27_ren : Go.Shelf.Ren := ⟨fun | 27 => 109 | 34 => 126 | n => n, fun | 44 => 125 | 3 => 3 | 0 => 0 | 4 => 4 | 37 => 120 | 26 => 83 | n => n, fun | n => n⟩
theorem Tryd.laysGg27 : Go.Proofs.LaysGg.n27 Tryd.prog Tryd.laysGg27_ren := {
  mixed := by kernel_rfl
  f27 := Tryd.func109.trans (congrArg some (by kernel_rfl))
  f34 := Tryd.func126.trans (congrArg some (by kernel_rfl))
  t0 := Tryd.underlying0
  a0 := Tryd.isAgg0
  z0 := Tryd.sizeOf0
  v0 := Tryd.zeroValue0
  i0 := by kernel_rfl
  t3 := Tryd.underlying3
  a3 := Tryd.isAgg3
  z3 := Tryd.sizeOf3
  v3 := Tryd.zeroValue3
  i3 := by kernel_rfl
  t4 := Tryd.underlying4
  a4 := Tryd.isAgg4
  z4 := Tryd.sizeOf4
  v4 := Tryd.zeroValue4
  i4 := by kernel_rfl
  t26 := Tryd.underlying83
  a26 := Tryd.isAgg83
  z26 := Tryd.sizeOf83
  v26 := Tryd.zeroValue83
  i26 := by kernel_rfl
  t37 := Tryd.underlying120
  a37 := Tryd.isAgg120
  z37 := Tryd.sizeOf120
  v37 := Tryd.zeroValue120
  i37 := by kernel_rfl
  t44 := Tryd.underlying125
  a44 := Tryd.isAgg125
  z44 := Tryd.sizeOf125
  v44 := Tryd.zeroValue125
  i44 := by kernel_rfl }
open Go.RowKit Go.Lib Go.Sort in
theorem Tryd.heapSort_func_cells_w {α : Type} [Inhabited α] (enc : α → List Value) (k : Nat) (hk : ∀ x, (enc x).length = k) (lt : α → α → Bool) (g : Nat) (lb : Array Value) (sf : Nat) (sb : Array Value) (blk off a b : Nat) (d : Array α) (w : World) (eg : ∀ args w, (callFunc g args).run Tryd.prog w = .ok (.enter g args) w) (hless : LessReadsK Tryd.prog g lb enc k lt blk off d.size w) (hswap : SwapSwapsK Tryd.prog sf sb enc k blk off d.size) (hH : HoldsK enc k w blk off d) (hblk : blk < w.heap.size) (hab : a ≤ b) (hb : b ≤ d.size) (hsz : d.size < 4611686018427387904) :
    Calls Tryd.prog 109 #[.agg #[.func (.func g) #[] lb, .func (.func sf) #[] sb], .int .i64 a, .int .i64 b] w fun e w' => e = .returned (.tuple #[]) ∧ ∃ n os, w' = sortWorldK enc k w blk off n (heapSort lt d a b) os := Any.heapSort_func_cells_w Tryd.laysGg27 enc k hk lt g lb sf sb blk off a b d w eg hless hswap hH hblk hab hb hsz
def Tryd.laysGg31_ren : Go.Shelf.Ren := ⟨fun | 31 => 113 | n => n, fun | 44 => 125 | 3 => 3 | 4 => 4 | 0 => 0 | 26 => 83 | 37 => 120 | n => n, fun | n => n⟩
theorem Tryd.laysGg31 : Go.Proofs.LaysGg.n31 Tryd.prog Tryd.laysGg31_ren := {
  mixed := by kernel_rfl
  f31 := Tryd.func113.trans (congrArg some (by kernel_rfl))
  t0 := Tryd.underlying0
  a0 := Tryd.isAgg0
  z0 := Tryd.sizeOf0
  v0 := Tryd.zeroValue0
  i0 := by kernel_rfl
  t3 := Tryd.underlying3
  a3 := Tryd.isAgg3
  z3 := Tryd.sizeOf3
  v3 := Tryd.zeroValue3
  i3 := by kernel_rfl
  t4 := Tryd.underlying4
  a4 := Tryd.isAgg4
  z4 := Tryd.sizeOf4
  v4 := Tryd.zeroValue4
  i4 := by kernel_rfl
  t26 := Tryd.underlying83
  a26 := Tryd.isAgg83
  z26 := Tryd.sizeOf83
  v26 := Tryd.zeroValue83
  i26 := by kernel_rfl
  t37 := Tryd.underlying120
  a37 := Tryd.isAgg120
  z37 := Tryd.sizeOf120
  v37 := Tryd.zeroValue120
  i37 := by kernel_rfl
  t44 := Tryd.underlying125
  a44 := Tryd.isAgg125
  z44 := Tryd.sizeOf125
  v44 := Tryd.zeroValue125
  i44 := by kernel_rfl }
open Go.RowKit Go.Lib Go.Sort in
theorem Tryd.partialInsertionSort_func_cells {α : Type} [Inhabited α] (enc : α → List Value) (k : Nat) (hk : ∀ x, (enc x).length = k) (lt : α → α → Bool) (g : Nat) (lb : Array Value) (sf : Nat) (sb : Array Value) (blk off a b : Nat) (d : Array α) (w : World) (eg : ∀ args w, (callFunc g args).run Tryd.prog w = .ok (.enter g args) w) (hless : LessReadsK Tryd.prog g lb enc k lt blk off d.size w) (hswap : SwapSwapsK Tryd.prog sf sb enc k blk off d.size) (hH : HoldsK enc k w blk off d) (hblk : blk < w.heap.size) (hab : a < b) (hb : b ≤ d.size) (hsz : d.size < 4611686018427387904) :
    Calls Tryd.prog 113 #[.agg #[.func (.func g) #[] lb, .func (.func sf) #[] sb], .int .i64 a, .int .i64 b] w fun e w' =>
      e = .returned (.bool (Sort.partialInsertionSort lt d a b).2) ∧ ∃ n, w' = putRowK enc k (Sort.ahead (w.alloc (.cells #[.func (.func g) #[] lb, .func (.func sf) #[] sb] 125)) n) blk off (Sort.partialInsertionSort lt d a b).1 := Any.partialInsertionSort_func_cells Tryd.laysGg31 enc k hk lt g lb sf sb blk off a b d w eg hless hswap hH hblk hab hb hsz
open Go.RowKit Go.Lib Go.Sort in
/-- sort.partialInsertionSort_func, from a world to a 'sortWorld' of it. (LAID: no walk: one application.) -/
theorem Tryd.partialInsertionSort_func_cells_w {α : Type} [Inhabited α] (enc : α → List Value) (k : Nat) (hk : ∀ x, (enc x).length = k) (lt : α → α → Bool) (g : Nat) (lb : Array Value) (sf : Nat) (sb : Array Value) (blk off a b : Nat) (d : Array α) (w : World) (eg : ∀ args w, (callFunc g args).run Tryd.prog w = .ok (.enter g args) w) (hless : LessReadsK Tryd.prog g lb enc k lt blk off d.size w) (hswap : SwapSwapsK Tryd.prog sf sb enc k blk off d.size) (hH : HoldsK enc k w blk off d) (hblk : blk < w.heap.size) (hab : a < b) (hb : b ≤ d.size) (hsz : d.size < 4611686018427387904) :
    Calls Tryd.prog 113 #[.agg #[.func (.func g) #[] lb, .func (.func sf) #[] sb], .int .i64 a, .int .i64 b] w fun e w' => e = .returned (.bool (Sort.partialInsertionSort lt d a b).2) ∧ ∃ n os, w' = sortWorldK enc k w blk off n (Sort.partialInsertionSort lt d a b).1 os := Any.partialInsertionSort_func_cells_w Tryd.laysGg31 enc k hk lt g lb sf sb blk off a b d w eg hless hswap hH hblk hab hb hsz
open Go.RowKit Go.Lib Go.Sort in
theorem Tryd.order2_func_cells {α : Type} [Inhabited α] (enc : α → List Value) (k : Nat) (hk : ∀ x, (enc x).length = k) (lt : α → α → Bool) (g : Nat) (lb : Array Value) (sfn : Fn) (sa sb : Array Value) (blk off : Nat) (w0 W : World) (d : Array α) (a b cb co s : Nat) (eg : ∀ args w, (callFunc g args).run Tryd.prog w = .ok (.enter g args) w) (hL : LessReadsK Tryd.prog g lb enc k lt blk off d.size w0) (hW : SWK enc k w0 blk off d W) (ha : a < d.size) (hb : b < d.size) (hS : Holds (Value.int .i64) W cb co (one s)) (hcb : cb < W.heap.size) (hs : s < 4611686018427387904) :
    Calls Tryd.prog 135 #[.agg #[.func (.func g) #[] lb, .func sfn sa sb], .int .i64 a, .int .i64 b, .pointer (some ⟨cb, co, none⟩)] W fun e w' =>
      e = .returned (.tuple #[.int .i64 (order2 lt d a b s).1, .int .i64 (order2 lt d a b s).2.1]) ∧ ∃ n os, w' = sortWorld (Value.int .i64) W cb co n (one (order2 lt d a b s).2.2) os := Any.order2_func_cells Tryd.laysGg39 enc k hk lt g lb sfn sa sb blk off w0 W d a b cb co s eg hL hW ha hb hS hcb hs
open Go.RowKit Go.Lib Go.Sort in
theorem Tryd.median_func_cells {α : Type} [Inhabited α] (enc : α → List Value) (k : Nat) (hk : ∀ x, (enc x).length = k) (lt : α → α → Bool) (g : Nat) (lb : Array Value) (sfn : Fn) (sa sb : Array Value) (blk off : Nat) (w0 W : World) (d : Array α) (a b c cb co s : Nat) (eg : ∀ args w, (callFunc g args).run Tryd.prog w = .ok (.enter g args) w) (hL : LessReadsK Tryd.prog g lb enc k lt blk off d.size w0) (hW : SWK enc k w0 blk off d W) (ha : a < d.size) (hb : b < d.size) (hc : c < d.size) (hS : Holds (Value.int .i64) W cb co (one s)) (hcb0 : w0.heap.size ≤ cb) (hcb : cb < W.heap.size) (hs : s + 3 < 4611686018427387904) :
    Calls Tryd.prog 130 #[.agg #[.func (.func g) #[] lb, .func sfn sa sb], .int .i64 a, .int .i64 b, .int .i64 c, .pointer (some ⟨cb, co, none⟩)] W fun e w' =>
      e = .returned (.int .i64 (median lt d a b c s).1) ∧ ∃ n os, w' = sortWorld (Value.int .i64) W cb co n (one (median lt d a b c s).2) os := Any.median_func_cells Tryd.laysGg38 enc k hk lt g lb sfn sa sb blk off w0 W d a b c cb co s eg hL hW ha hb hc hS hcb0 hcb hs
open Go.RowKit Go.Lib Go.Sort in
theorem Tryd.medianAdjacent_func_cells {α : Type} [Inhabited α] (enc : α → List Value) (k : Nat) (hk : ∀ x, (enc x).length = k) (lt : α → α → Bool) (g : Nat) (lb : Array Value) (sfn : Fn) (sa sb : Array Value) (blk off : Nat) (w0 W : World) (d : Array α) (a cb co s : Nat) (eg : ∀ args w, (callFunc g args).run Tryd.prog w = .ok (.enter g args) w) (hL : LessReadsK Tryd.prog g lb enc k lt blk off d.size w0) (hW : SWK enc k w0 blk off d W) (ha1 : 1 ≤ a) (ha2 : a + 1 < d.size) (hsz : d.size < 4611686018427387904) (hS : Holds (Value.int .i64) W cb co (one s)) (hcb0 : w0.heap.size ≤ cb) (hcb : cb < W.heap.size) (hs : s + 3 < 4611686018427387904) :
    Calls Tryd.prog 129 #[.agg #[.func (.func g) #[] lb, .func sfn sa sb], .int .i64 a, .pointer (some ⟨cb, co, none⟩)] W fun e w' =>
      e = .returned (.int .i64 (medianAdjacent lt d a s).1) ∧ ∃ n os, w' = sortWorld (Value.int .i64) W cb co n (one (medianAdjacent lt d a s).2) os := Any.medianAdjacent_func_cells Tryd.laysGg37 enc k hk lt g lb sfn sa sb blk off w0 W d a cb co s eg hL hW ha1 ha2 hsz hS hcb0 hcb hs
def Tryd.laysGg29_ren : Go.Shelf.Ren := ⟨fun | 29 => 111 | 37 => 129 | 38 => 130 | 39 => 135 | n => n, fun | 44 => 125 | 3 => 3 | 53 => 165 | 0 => 0 | 4 => 4 | 64 => 94 | 67 => 186 | 26 => 83 | 37 => 120 | n => n, fun | n => n⟩
theorem Tryd.laysGg29 : Go.Proofs.LaysGg.n29 Tryd.prog Tryd.laysGg29_ren := {
  mixed := by kernel_rfl
  f29 := Tryd.func111.trans (congrArg some (by kernel_rfl))
  f37 := Tryd.func129.trans (congrArg some (by kernel_rfl))
  f38 := Tryd.func130.trans (congrArg some (by kernel_rfl))
  f39 := Tryd.func135.trans (congrArg some (by kernel_rfl))
  t0 := Tryd.underlying0
  a0 := Tryd.isAgg0
  z0 := Tryd.sizeOf0
  v0 := Tryd.zeroValue0
  i0 := by kernel_rfl
  t3 := Tryd.underlying3
  a3 := Tryd.isAgg3
  z3 := Tryd.sizeOf3
  v3 := Tryd.zeroValue3
  i3 := by kernel_rfl
  t4 := Tryd.underlying4
  a4 := Tryd.isAgg4
  z4 := Tryd.sizeOf4
  v4 := Tryd.zeroValue4
  i4 := by kernel_rfl
  t26 := Tryd.underlying83
  a26 := Tryd.isAgg83
  z26 := Tryd.sizeOf83
  v26 := Tryd.zeroValue83
  i26 := by kernel_rfl
  t37 := Tryd.underlying120
  a37 := Tryd.isAgg120
  z37 := Tryd.sizeOf120
  v37 := Tryd.zeroValue120
  i37 := by kernel_rfl
  t44 := Tryd.underlying125
  a44 := Tryd.isAgg125
  z44 := Tryd.sizeOf125
  v44 := Tryd.zeroValue125
  i44 := by kernel_rfl
  t53 := Tryd.underlying165
  a53 := Tryd.isAgg165
  z53 := Tryd.sizeOf165
  v53 := Tryd.zeroValue165
  i53 := by kernel_rfl
  t64 := Tryd.underlying94
  a64 := Tryd.isAgg94
  z64 := Tryd.sizeOf94
  v64 := Tryd.zeroValue94
  i64 := by kernel_rfl
  t67 := Tryd.underlying186
  a67 := Tryd.isAgg186
  z67 := Tryd.sizeOf186
  v67 := Tryd.zeroValue186
  i67 := by kernel_rfl }
open Go.RowKit Go.Lib Go.Sort in
/-- sort.choosePivot_func: THE LIBRARY's OWN TEXT COMPUTES 'Sort.choosePivot lt d a b'; the row is not turned; W is grown. (After Derived/Sort/Walk11.lean's 'So.choosePivot_int', row for row.) (LAID: no walk: one application.) -/
theorem Tryd.choosePivot_func_cells {α : Type} [Inhabited α] (enc : α → List Value) (k : Nat) (hk : ∀ x, (enc x).length = k) (lt : α → α → Bool) (g : Nat) (lb : Array Value) (sfn : Fn) (sa sb : Array Value) (blk off a b : Nat) (W : World) (d : Array α) (eg : ∀ args w, (callFunc g args).run Tryd.prog w = .ok (.enter g args) w) (hless : LessReadsK Tryd.prog g lb enc k lt blk off d.size W) (hH : HoldsK enc k W blk off d) (hab : a < b) (hb : b ≤ d.size) (hsz : d.size < 4611686018427387904) :
    Calls Tryd.prog 111 #[.agg #[.func (.func g) #[] lb, .func sfn sa sb], .int .i64 a, .int .i64 b] W fun e w' =>
      e = .returned (.tuple #[.int .i64 (choosePivot lt d a b).1, .int .i64 (hintCode (choosePivot lt d a b).2)]) ∧ ∃ n os, w' = grow (Sort.ahead W n) os := Any.choosePivot_func_cells Tryd.laysGg29 enc k hk lt g lb sfn sa sb blk off a b W d eg hless hH hab hb hsz
def Tryd.laysGg32_ren : Go.Shelf.Ren := ⟨fun | 32 => 114 | n => n, fun | 44 => 125 | 3 => 3 | 0 => 0 | 37 => 120 | 4 => 4 | 26 => 83 | n => n, fun | n => n⟩
theorem Tryd.laysGg32 : Go.Proofs.LaysGg.n32 Tryd.prog Tryd.laysGg32_ren := {
  mixed := by kernel_rfl
  f32 := Tryd.func114.trans (congrArg some (by kernel_rfl))
  t0 := Tryd.underlying0
  a0 := Tryd.isAgg0
  z0 := Tryd.sizeOf0
  v0 := Tryd.zeroValue0
  i0 := by kernel_rfl
  t3 := Tryd.underlying3
  a3 := Tryd.isAgg3
  z3 := Tryd.sizeOf3
  v3 := Tryd.zeroValue3
  i3 := by kernel_rfl
  t4 := Tryd.underlying4
  a4 := Tryd.isAgg4
  z4 := Tryd.sizeOf4
  v4 := Tryd.zeroValue4
  i4 := by kernel_rfl
  t26 := Tryd.underlying83
  a26 := Tryd.isAgg83
  z26 := Tryd.sizeOf83
  v26 := Tryd.zeroValue83
  i26 := by kernel_rfl
  t37 := Tryd.underlying120
  a37 := Tryd.isAgg120
  z37 := Tryd.sizeOf120
  v37 := Tryd.zeroValue120
  i37 := by kernel_rfl
  t44 := Tryd.underlying125
  a44 := Tryd.isAgg125
  z44 := Tryd.sizeOf125
  v44 := Tryd.zeroValue125
  i44 := by kernel_rfl }
open Go.RowKit Go.Lib Go.Sort in
theorem Tryd.partitionEqual_func_cells {α : Type} [Inhabited α] (enc : α → List Value) (k : Nat) (hk : ∀ x, (enc x).length = k) (lt : α → α → Bool) (g : Nat) (lb : Array Value) (sf : Nat) (sb : Array Value) (blk off a b pivot : Nat) (d : Array α) (W : World) (eg : ∀ args w, (callFunc g args).run Tryd.prog w = .ok (.enter g args) w) (hless : LessReadsK Tryd.prog g lb enc k lt blk off d.size W) (hswap : SwapSwapsK Tryd.prog sf sb enc k blk off d.size) (hH : HoldsK enc k W blk off d) (hblk : blk < W.heap.size) (hap : a ≤ pivot) (hpb : pivot < b) (hb : b ≤ d.size) (hsz : d.size < 4611686018427387904) :
    Calls Tryd.prog 114 #[.agg #[.func (.func g) #[] lb, .func (.func sf) #[] sb], .int .i64 a, .int .i64 b, .int .i64 pivot] W fun e w' =>
      e = .returned (.int .i64 (Sort.partitionEqual lt d a b pivot).1) ∧ ∃ n, w' = (putRowK enc k (W.alloc (.cells #[.func (.func g) #[] lb, .func (.func sf) #[] sb] 125)) blk off (Sort.partitionEqual lt d a b pivot).2).drewN n := Any.partitionEqual_func_cells Tryd.laysGg32 enc k hk lt g lb sf sb blk off a b pivot d W eg hless hswap hH hblk hap hpb hb hsz
def Tryd.laysGg33_ren : Go.Shelf.Ren := ⟨fun | 33 => 115 | n => n, fun | 44 => 125 | 3 => 3 | 4 => 4 | 0 => 0 | 37 => 120 | 26 => 83 | n => n, fun | n => n⟩
theorem Tryd.laysGg33 : Go.Proofs.LaysGg.n33 Tryd.prog Tryd.laysGg33_ren := {
  mixed := by kernel_rfl
  f33 := Tryd.func115.trans (congrArg some (by kernel_rfl))
  t0 := Tryd.underlying0
  a0 := Tryd.isAgg0
  z0 := Tryd.sizeOf0
  v0 := Tryd.zeroValue0
  i0 := by kernel_rfl
  t3 := Tryd.underlying3
  a3 := Tryd.isAgg3
  z3 := Tryd.sizeOf3
  v3 := Tryd.zeroValue3
  i3 := by kernel_rfl
  t4 := Tryd.underlying4
  a4 := Tryd.isAgg4
  z4 := Tryd.sizeOf4
  v4 := Tryd.zeroValue4
  i4 := by kernel_rfl
  t26 := Tryd.underlying83
  a26 := Tryd.isAgg83
  z26 := Tryd.sizeOf83
  v26 := Tryd.zeroValue83
  i26 := by kernel_rfl
  t37 := Tryd.underlying120
  a37 := Tryd.isAgg120
  z37 := Tryd.sizeOf120
  v37 := Tryd.zeroValue120
  i37 := by kernel_rfl
  t44 := Tryd.underlying125
  a44 := Tryd.isAgg125
  z44 := Tryd.sizeOf125
  v44 := Tryd.zeroValue125
  i44 := by kernel_rfl }
open Go.RowKit Go.Lib Go.Sort in
theorem Tryd.partition_func_cells {α : Type} [Inhabited α] (enc : α → List Value) (k : Nat) (hk : ∀ x, (enc x).length = k) (lt : α → α → Bool) (g : Nat) (lb : Array Value) (sf : Nat) (sb : Array Value) (blk off a b pivot : Nat) (d : Array α) (W : World) (eg : ∀ args w, (callFunc g args).run Tryd.prog w = .ok (.enter g args) w) (hless : LessReadsK Tryd.prog g lb enc k lt blk off d.size W) (hswap : SwapSwapsK Tryd.prog sf sb enc k blk off d.size) (hH : HoldsK enc k W blk off d) (hblk : blk < W.heap.size) (hap : a ≤ pivot) (hpb : pivot < b) (hb : b ≤ d.size) (hsz : d.size < 4611686018427387904) :
    Calls Tryd.prog 115 #[.agg #[.func (.func g) #[] lb, .func (.func sf) #[] sb], .int .i64 a, .int .i64 b, .int .i64 pivot] W fun e w' =>
      e = .returned (.tuple #[.int .i64 (Sort.partition lt d a b pivot).1, .bool (Sort.partition lt d a b pivot).2.1]) ∧ ∃ n, w' = (putRowK enc k (W.alloc (.cells #[.func (.func g) #[] lb, .func (.func sf) #[] sb] 125)) blk off (Sort.partition lt d a b pivot).2.2).drewN n := Any.partition_func_cells Tryd.laysGg33 enc k hk lt g lb sf sb blk off a b pivot d W eg hless hswap hH hblk hap hpb hb hsz
open Go.RowKit Go.Lib Go.Sort in
/-- sort.partitionEqual_func, from a world to a 'sortWorld' of it. (LAID: no walk: one application.) -/
theorem Tryd.partitionEqual_func_cells_w {α : Type} [Inhabited α] (enc : α → List Value) (k : Nat) (hk : ∀ x, (enc x).length = k) (lt : α → α → Bool) (g : Nat) (lb : Array Value) (sf : Nat) (sb : Array Value) (blk off a b pivot : Nat) (d : Array α) (W : World) (eg : ∀ args w, (callFunc g args).run Tryd.prog w = .ok (.enter g args) w) (hless : LessReadsK Tryd.prog g lb enc k lt blk off d.size W) (hswap : SwapSwapsK Tryd.prog sf sb enc k blk off d.size) (hH : HoldsK enc k W blk off d) (hblk : blk < W.heap.size) (hap : a ≤ pivot) (hpb : pivot < b) (hb : b ≤ d.size) (hsz : d.size < 4611686018427387904) :
    Calls Tryd.prog 114 #[.agg #[.func (.func g) #[] lb, .func (.func sf) #[] sb], .int .i64 a, .int .i64 b, .int .i64 pivot] W fun e w' => e = .returned (.int .i64 (Sort.partitionEqual lt d a b pivot).1) ∧ ∃ n os, w' = sortWorldK enc k W blk off n (Sort.partitionEqual lt d a b pivot).2 os := Any.partitionEqual_func_cells_w Tryd.laysGg32 enc k hk lt g lb sf sb blk off a b pivot d W eg hless hswap hH hblk hap hpb hb hsz
open Go.RowKit Go.Lib Go.Sort in
/-- sort.partition_func, from a world to a 'sortWorld' of it. (LAID: no walk: one application.) -/
theorem Tryd.partition_func_cells_w {α : Type} [Inhabited α] (enc : α → List Value) (k : Nat) (hk : ∀ x, (enc x).length = k) (lt : α → α → Bool) (g : Nat) (lb : Array Value) (sf : Nat) (sb : Array Value) (blk off a b pivot : Nat) (d : Array α) (W : World) (eg : ∀ args w, (callFunc g args).run Tryd.prog w = .ok (.enter g args) w) (hless : LessReadsK Tryd.prog g lb enc k lt blk off d.size W) (hswap : SwapSwapsK Tryd.prog sf sb enc k blk off d.size) (hH : HoldsK enc k W blk off d) (hblk : blk < W.heap.size) (hap : a ≤ pivot) (hpb : pivot < b) (hb : b ≤ d.size) (hsz : d.size < 4611686018427387904) :
    Calls Tryd.prog 115 #[.agg #[.func (.func g) #[] lb, .func (.func sf) #[] sb], .int .i64 a, .int .i64 b, .int .i64 pivot] W fun e w' => e = .returned (.tuple #[.int .i64 (Sort.partition lt d a b pivot).1, .bool (Sort.partition lt d a b pivot).2.1]) ∧ ∃ n os, w' = sortWorldK enc k W blk off n (Sort.partition lt d a b pivot).2.2 os := Any.partition_func_cells_w Tryd.laysGg33 enc k hk lt g lb sf sb blk off a b pivot d W eg hless hswap hH hblk hap hpb hb hsz
open Go.RowKit Go.Lib Go.Sort in
theorem Tryd.pdqsort_func_cells_all {α : Type} [Inhabited α] (enc : α → List Value) (k : Nat) (hk : ∀ x, (enc x).length = k) (lt : α → α → Bool) (hO : SWO lt) (g : Nat) (lb : Array Value) (sf : Nat) (sb : Array Value) (eg : ∀ args w, (callFunc g args).run Tryd.prog w = .ok (.enter g args) w) :
    ∀ (N blk off a b limit : Nat) (d : Array α) (w : World), b - a < N → LessReadsK Tryd.prog g lb enc k lt blk off d.size w → SwapSwapsK Tryd.prog sf sb enc k blk off d.size → HoldsK enc k w blk off d → blk < w.heap.size → a ≤ b → b ≤ d.size → d.size < 4611686018427387904 → limit < 4611686018427387904 → Below lt a b d →
    Calls Tryd.prog 78 #[.agg #[.func (.func g) #[] lb, .func (.func sf) #[] sb], .int .i64 a, .int .i64 b, .int .i64 limit] w fun e w' => e = .returned (.tuple #[]) ∧ AtK enc k w blk off (pdq lt d a b limit true true) w' := Any.pdqsort_func_cells_all Tryd.laysGg14 enc k hk lt hO g lb sf sb eg
end Go.Proofs
