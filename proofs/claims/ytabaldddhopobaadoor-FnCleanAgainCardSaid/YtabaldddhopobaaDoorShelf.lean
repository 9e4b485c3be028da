/-
  DERIVED: THE SHELF's CONTRACTS AT THIS DUMP, IN PLAIN WORDS (tools/lay-plain.mjs out of 'GsShelf.lean', which tools/lay-shelf.mjs wrote): THE SAME DECLARATIONS UNDER THE SAME NAMES: 'import', 'namespace', 'open', 'def', 'theorem' AND NOTHING ELSE: no command of the shelf's: FOR A HAND-IN. Each laying: the table of numbers ('.._ren') and one theorem, a field a fact of the dump's own or the kernel's comparison; each contract: ONE APPLICATION.
-/
import Derived.Shelf.Strings.Builder1
import Derived.Shelf.Strings.Builder2
import Derived.Shelf.Strings.OnBuilder
import Derived.Shelf.Small.Utf8
import Derived.Shelf.Strings.Fold
import Derived.Shelf.Unicode.Latin
import Derived.Shelf.Unicode.Decode
import Derived.Shelf.Unicode.DecodeSlow
import Derived.Shelf.Unicode.DecodeAny
import Derived.Shelf.Unicode.CaseLookup
import Derived.Shelf.Unicode.CaseConvert
import Derived.Shelf.Unicode.CaseTo
import Derived.Shelf.Unicode.CaseLaid
import Derived.Test.YtabaldddhopobaaDoorProg
namespace Go.Proofs
open Go.Shelf
def Tryd.lays169_ren : Go.Shelf.Ren := ⟨fun | 169 => 33 | n => n, fun | 70 => 46 | 9 => 9 | 0 => 0 | 72 => 49 | 37 => 47 | 127 => 66 | 3 => 3 | 5 => 5 | n => n, fun | n => n⟩
theorem Tryd.lays169 : Go.Proofs.Lays.n169 Tryd.prog Tryd.lays169_ren := {
  mixed := by kernel_rfl
  f169 := Tryd.func33.trans (congrArg some (by kernel_rfl))
  t0 := Tryd.underlying0
  a0 := Tryd.isAgg0
  z0 := Tryd.sizeOf0
  v0 := Tryd.zeroValue0
  t3 := Tryd.underlying3
  a3 := Tryd.isAgg3
  z3 := Tryd.sizeOf3
  v3 := Tryd.zeroValue3
  t9 := Tryd.underlying9
  a9 := Tryd.isAgg9
  z9 := Tryd.sizeOf9
  v9 := Tryd.zeroValue9
  t37 := Tryd.underlying47
  a37 := Tryd.isAgg47
  z37 := Tryd.sizeOf47
  v37 := Tryd.zeroValue47
  t70 := Tryd.underlying46
  a70 := Tryd.isAgg46
  z70 := Tryd.sizeOf46
  v70 := Tryd.zeroValue46
  t72 := Tryd.underlying49
  a72 := Tryd.isAgg49
  z72 := Tryd.sizeOf49
  v72 := Tryd.zeroValue49
  t127 := Tryd.underlying66
  a127 := Tryd.isAgg66
  z127 := Tryd.sizeOf66
  v127 := Tryd.zeroValue66 }
theorem Tryd.Builder_Extra_169 : Builder.Extra Tryd.prog Tryd.lays169_ren := {
  sizeBuilder := by kernel_rfl
  liesBuilder := by kernel_rfl
  t5 := Tryd.underlying5
  a5 := Tryd.isAgg5
  z5 := Tryd.sizeOf5
  v5 := Tryd.zeroValue5
  infoByte := by kernel_rfl
  cellsByte := by kernel_rfl
  sizeByte := by kernel_rfl
  neB5 := by decide }
open Go.RowKit in
/-- (*strings.Builder).String: "String returns the accumulated string.": OF A BUILDER THAT HOLDS AT LEAST ONE BYTE. ✋ THE MODEL FREEZES THOSE BYTES IN THE BUFFER (unsafe.String): a later write INTO them ends the model's run without an answer; a later append BEHIND them goes on. The statement's order of evaluation is drawn: one draw. (LAID: no walk: one application.) -/
theorem Tryd.Builder_String (B b : Nat) (l : List UInt8) (w : World) (h : Lib.IsBuilder 49 5 B b (Lib.byteCells l) w) (h0 : l ≠ []) :
    Calls Tryd.prog 33 #[.pointer (some ⟨b, 0, none⟩)] w fun e w' => e = .returned (.string ⟨l.toArray⟩) ∧ Below B w w' := Any.Builder_String Tryd.lays169 Tryd.Builder_Extra_169 B b l w h h0
open Go.RowKit in
/-- (*strings.Builder).String OF A BUILDER THAT HOLDS NO BYTE: the empty string. (Its buffer is nil, or a row of which it has taken nothing yet; where that row has NO capacity the model lays one new block for unsafe.SliceData's 'some address'.) One draw. (LAID: no walk: one application.) -/
theorem Tryd.Builder_String_empty (B b : Nat) (w : World) (h : Lib.IsBuilder 49 5 B b [] w) (hBw : B ≤ w.heap.size) :
    Calls Tryd.prog 33 #[.pointer (some ⟨b, 0, none⟩)] w fun e w' => e = .returned (.string ⟨#[]⟩) ∧ Below B w w' := Any.Builder_String_empty Tryd.lays169 Tryd.Builder_Extra_169 B b w h hBw
open Go.RowKit in
/-- (*strings.Builder).String: "String returns the accumulated string.": WHATEVER THE BUILDER HOLDS. (LAID: no walk: one application.) -/
theorem Tryd.Builder_String_any (B b : Nat) (l : List UInt8) (w : World) (h : Lib.IsBuilder 49 5 B b (Lib.byteCells l) w) (hBw : B ≤ w.heap.size) :
    Calls Tryd.prog 33 #[.pointer (some ⟨b, 0, none⟩)] w fun e w' => e = .returned (.string ⟨l.toArray⟩) ∧ Below B w w' := Any.Builder_String_any Tryd.lays169 Tryd.Builder_Extra_169 B b l w h hBw
def Tryd.lays241_ren : Go.Shelf.Ren := ⟨fun | 241 => 43 | 277 => 47 | n => n, fun | 70 => 46 | 3 => 3 | 0 => 0 | 72 => 49 | 37 => 47 | 5 => 5 | n => n, fun | n => n⟩
theorem Tryd.lays241 : Go.Proofs.Lays.n241 Tryd.prog Tryd.lays241_ren := {
  mixed := by kernel_rfl
  f241 := Tryd.func43.trans (congrArg some (by kernel_rfl))
  f277 := Tryd.func47.trans (congrArg some (by kernel_rfl))
  t0 := Tryd.underlying0
  a0 := Tryd.isAgg0
  z0 := Tryd.sizeOf0
  v0 := Tryd.zeroValue0
  t3 := Tryd.underlying3
  a3 := Tryd.isAgg3
  z3 := Tryd.sizeOf3
  v3 := Tryd.zeroValue3
  t37 := Tryd.underlying47
  a37 := Tryd.isAgg47
  z37 := Tryd.sizeOf47
  v37 := Tryd.zeroValue47
  t70 := Tryd.underlying46
  a70 := Tryd.isAgg46
  z70 := Tryd.sizeOf46
  v70 := Tryd.zeroValue46
  t72 := Tryd.underlying49
  a72 := Tryd.isAgg49
  z72 := Tryd.sizeOf49
  v72 := Tryd.zeroValue49 }
theorem Tryd.Builder_Extra_241 : Builder.Extra Tryd.prog Tryd.lays241_ren := {
  sizeBuilder := by kernel_rfl
  liesBuilder := by kernel_rfl
  t5 := Tryd.underlying5
  a5 := Tryd.isAgg5
  z5 := Tryd.sizeOf5
  v5 := Tryd.zeroValue5
  infoByte := by kernel_rfl
  cellsByte := by kernel_rfl
  sizeByte := by kernel_rfl
  neB5 := by decide }
open Go.RowKit in
/-- (*strings.Builder).grow (no doc but "grow copies the buffer to a new, larger buffer so that there are at least n bytes of capacity beyond len(b.buf)."): AT A BUILDER WITHOUT A BUFFER: a new row of whatever bytes for its buffer, none of them its own yet. Three draws. (LAID: no walk: one application.) -/
theorem Tryd.Builder_grow_fresh (B b n : Nat) (w : World) (hB : B ≤ b) (hbk : w.heap[b]? = some (.cells #[.pointer (some ⟨b, 0, none⟩), .slice none 0 0] 49 (0, 0))) (hBw : B ≤ w.heap.size) (hn : n ≤ 281474976710656) :
    Calls Tryd.prog 43 #[.pointer (some ⟨b, 0, none⟩), .int .i64 n] w fun e w' => e = .returned (.tuple #[]) ∧ (Lib.BuilderAt 49 5 B b (.pointer (some ⟨b, 0, none⟩)) [] w' ∧ Below B w w') := Any.Builder_grow_fresh Tryd.lays241 Tryd.Builder_Extra_241 B b n w hB hbk hBw hn
def Tryd.lays165_ren : Go.Shelf.Ren := ⟨fun | 165 => 31 | 240 => 42 | 241 => 43 | 276 => 46 | 277 => 47 | n => n, fun | 70 => 46 | 3 => 3 | 0 => 0 | 4 => 4 | 9 => 9 | 20 => 20 | 72 => 49 | 37 => 47 | 164 => 76 | 5 => 5 | n => n, fun | n => n⟩
theorem Tryd.lays165 : Go.Proofs.Lays.n165 Tryd.prog Tryd.lays165_ren := {
  mixed := by kernel_rfl
  f165 := Tryd.func31.trans (congrArg some (by kernel_rfl))
  f240 := Tryd.func42.trans (congrArg some (by kernel_rfl))
  f241 := Tryd.func43.trans (congrArg some (by kernel_rfl))
  f276 := Tryd.func46.trans (congrArg some (by kernel_rfl))
  f277 := Tryd.func47.trans (congrArg some (by kernel_rfl))
  t0 := Tryd.underlying0
  a0 := Tryd.isAgg0
  z0 := Tryd.sizeOf0
  v0 := Tryd.zeroValue0
  t3 := Tryd.underlying3
  a3 := Tryd.isAgg3
  z3 := Tryd.sizeOf3
  v3 := Tryd.zeroValue3
  t4 := Tryd.underlying4
  a4 := Tryd.isAgg4
  z4 := Tryd.sizeOf4
  v4 := Tryd.zeroValue4
  t9 := Tryd.underlying9
  a9 := Tryd.isAgg9
  z9 := Tryd.sizeOf9
  v9 := Tryd.zeroValue9
  t20 := Tryd.underlying20
  a20 := Tryd.isAgg20
  z20 := Tryd.sizeOf20
  v20 := Tryd.zeroValue20
  t37 := Tryd.underlying47
  a37 := Tryd.isAgg47
  z37 := Tryd.sizeOf47
  v37 := Tryd.zeroValue47
  t70 := Tryd.underlying46
  a70 := Tryd.isAgg46
  z70 := Tryd.sizeOf46
  v70 := Tryd.zeroValue46
  t72 := Tryd.underlying49
  a72 := Tryd.isAgg49
  z72 := Tryd.sizeOf49
  v72 := Tryd.zeroValue49
  t164 := Tryd.underlying76
  a164 := Tryd.isAgg76
  z164 := Tryd.sizeOf76
  v164 := Tryd.zeroValue76 }
theorem Tryd.Builder_Extra_165 : Builder.Extra Tryd.prog Tryd.lays165_ren := {
  sizeBuilder := by kernel_rfl
  liesBuilder := by kernel_rfl
  t5 := Tryd.underlying5
  a5 := Tryd.isAgg5
  z5 := Tryd.sizeOf5
  v5 := Tryd.zeroValue5
  infoByte := by kernel_rfl
  cellsByte := by kernel_rfl
  sizeByte := by kernel_rfl
  neB5 := by decide }
open Go.RowKit in
/-- (*strings.Builder).Grow AT A BUILDER THAT HAS NOT BEEN WRITTEN ('var b strings.Builder; b.Grow(n)'): "Grow grows b's capacity, if necessary, to guarantee space for another n bytes.": it holds no byte behind it as before it. (LAID: no walk: one application.) -/
theorem Tryd.Builder_Grow_fresh (B b n : Nat) (w : World) (hB : B ≤ b) (hbk : w.heap[b]? = some (.cells #[.pointer none, .slice none 0 0] 49 (0, 0))) (hBw : B ≤ w.heap.size) (hn : n ≤ 281474976710656) :
    Calls Tryd.prog 31 #[.pointer (some ⟨b, 0, none⟩), .int .i64 n] w fun e w' => e = .returned (.tuple #[]) ∧ (Lib.BuilderAt 49 5 B b (.pointer (some ⟨b, 0, none⟩)) [] w' ∧ Below B w w') := Any.Builder_Grow_fresh Tryd.lays165 Tryd.Builder_Extra_165 B b n w hB hbk hBw hn
def Tryd.lays156_ren : Go.Shelf.Ren := ⟨fun | 156 => 22 | 165 => 31 | 166 => 32 | 169 => 33 | 240 => 42 | 241 => 43 | 276 => 46 | 277 => 47 | n => n, fun | 31 => 32 | 9 => 9 | 3 => 3 | 4 => 4 | 0 => 0 | 20 => 20 | 72 => 49 | 76 => 53 | 70 => 46 | 37 => 47 | 75 => 52 | 127 => 66 | 164 => 76 | 5 => 5 | 80 => 55 | n => n, fun | n => n⟩
theorem Tryd.lays156 : Go.Proofs.Lays.n156 Tryd.prog Tryd.lays156_ren := {
  mixed := by kernel_rfl
  f156 := Tryd.func22.trans (congrArg some (by kernel_rfl))
  f165 := Tryd.func31.trans (congrArg some (by kernel_rfl))
  f166 := Tryd.func32.trans (congrArg some (by kernel_rfl))
  f169 := Tryd.func33.trans (congrArg some (by kernel_rfl))
  f240 := Tryd.func42.trans (congrArg some (by kernel_rfl))
  f241 := Tryd.func43.trans (congrArg some (by kernel_rfl))
  f276 := Tryd.func46.trans (congrArg some (by kernel_rfl))
  f277 := Tryd.func47.trans (congrArg some (by kernel_rfl))
  t0 := Tryd.underlying0
  a0 := Tryd.isAgg0
  z0 := Tryd.sizeOf0
  v0 := Tryd.zeroValue0
  t3 := Tryd.underlying3
  a3 := Tryd.isAgg3
  z3 := Tryd.sizeOf3
  v3 := Tryd.zeroValue3
  t4 := Tryd.underlying4
  a4 := Tryd.isAgg4
  z4 := Tryd.sizeOf4
  v4 := Tryd.zeroValue4
  t9 := Tryd.underlying9
  a9 := Tryd.isAgg9
  z9 := Tryd.sizeOf9
  v9 := Tryd.zeroValue9
  t20 := Tryd.underlying20
  a20 := Tryd.isAgg20
  z20 := Tryd.sizeOf20
  v20 := Tryd.zeroValue20
  t31 := Tryd.underlying32
  a31 := Tryd.isAgg32
  z31 := Tryd.sizeOf32
  v31 := Tryd.zeroValue32
  t37 := Tryd.underlying47
  a37 := Tryd.isAgg47
  z37 := Tryd.sizeOf47
  v37 := Tryd.zeroValue47
  t70 := Tryd.underlying46
  a70 := Tryd.isAgg46
  z70 := Tryd.sizeOf46
  v70 := Tryd.zeroValue46
  t72 := Tryd.underlying49
  a72 := Tryd.isAgg49
  z72 := Tryd.sizeOf49
  v72 := Tryd.zeroValue49
  t75 := Tryd.underlying52
  a75 := Tryd.isAgg52
  z75 := Tryd.sizeOf52
  v75 := Tryd.zeroValue52
  t76 := Tryd.underlying53
  a76 := Tryd.isAgg53
  z76 := Tryd.sizeOf53
  v76 := Tryd.zeroValue53
  t127 := Tryd.underlying66
  a127 := Tryd.isAgg66
  z127 := Tryd.sizeOf66
  v127 := Tryd.zeroValue66
  t164 := Tryd.underlying76
  a164 := Tryd.isAgg76
  z164 := Tryd.sizeOf76
  v164 := Tryd.zeroValue76 }
theorem Tryd.Builder_Extra_156 : Builder.Extra Tryd.prog Tryd.lays156_ren := {
  sizeBuilder := by kernel_rfl
  liesBuilder := by kernel_rfl
  t5 := Tryd.underlying5
  a5 := Tryd.isAgg5
  z5 := Tryd.sizeOf5
  v5 := Tryd.zeroValue5
  infoByte := by kernel_rfl
  cellsByte := by kernel_rfl
  sizeByte := by kernel_rfl
  neB5 := by decide }
open Go.RowKit in
/-- No element: the empty string; the world is as it was. (Whatever the slice's address and capacity: a nil slice too.) (LAID: no walk: one application.) -/
theorem Tryd.strings_Join_none (a : Option Addr) (c : Nat) (sep : ByteArray) (w : World) :
    Calls Tryd.prog 22 #[.slice a 0 c, .string sep] w fun e w' => e = .returned (.string ⟨#[]⟩) ∧ w' = w := Any.strings_Join_none Tryd.lays156 Tryd.Builder_Extra_156 a c sep w
open Go.RowKit in
/-- strings.Join: "Join concatenates the elements of its first argument to create a single string. The separator string sep is placed between elements in the resulting string.": HOWEVER MANY ELEMENTS. Below the heap's end the world is as it was. (LAID: no walk: one application.) -/
theorem Tryd.strings_Join (bk o c : Nat) (xs : List ByteArray) (sep : ByteArray) (w : World) (hcells : ∀ (j : Nat) x, xs[j]? = some x → w.cell? ⟨bk, o + j, none⟩ = some (.string x)) (hbk : bk < w.heap.size) (hN : xs.length ≤ 140737488355328) (hcap : xs.length ≤ c) (hlen : (Lib.join (xs.map (·.data.toList)) sep.data.toList).length ≤ 140737488355328) :
    Calls Tryd.prog 22 #[.slice (some ⟨bk, o, none⟩) xs.length c, .string sep] w fun e w' => e = .returned (.string ⟨(Lib.join (xs.map (·.data.toList)) sep.data.toList).toArray⟩) ∧ Below w.heap.size w w' := Any.strings_Join Tryd.lays156 Tryd.Builder_Extra_156 bk o c xs sep w hcells hbk hN hcap hlen
def Tryd.lays120_ren : Go.Shelf.Ren := ⟨fun | 120 => 55 | n => n, fun | 5 => 5 | 4 => 4 | n => n, fun | n => n⟩
theorem Tryd.lays120 : Go.Proofs.Lays.n120 Tryd.prog Tryd.lays120_ren := {
  mixed := by kernel_rfl
  f120 := Tryd.func55.trans (congrArg some (by kernel_rfl))
  t4 := Tryd.underlying4
  a4 := Tryd.isAgg4
  z4 := Tryd.sizeOf4
  v4 := Tryd.zeroValue4
  t5 := Tryd.underlying5
  a5 := Tryd.isAgg5
  z5 := Tryd.sizeOf5
  v5 := Tryd.zeroValue5 }
/-- utf8.RuneStart: "RuneStart reports whether the byte could be the first byte of an encoded, possibly invalid rune. Second and subsequent bytes always have the top two bits set to 10.": IT RETURNS 'Lib.runeStart b'; the world is as it was. ('h0', 'h1': b is a byte: a caller has it of every byte that it was handed.) (LAID: no walk: one application.) -/
theorem Tryd.utf8_RuneStart (b : Int) (w : World) (h0 : 0 ≤ b) (h1 : b < 256) :
    Calls Tryd.prog 55 #[.int .u8 b] w fun e w' => e = .returned (.bool (Lib.runeStart b)) ∧ w' = w := Any.utf8_RuneStart Tryd.lays120 b w h0 h1
def Tryd.lays164_ren : Go.Shelf.Ren := ⟨fun | 164 => 53 | 197 => 56 | 239 => 61 | 260 => 62 | 274 => 65 | 275 => 66 | n => n, fun | 9 => 9 | 4 => 4 | 3 => 3 | 5 => 5 | 0 => 0 | 21 => 21 | 105 => 87 | 156 => 94 | 49 => 22 | 157 => 95 | 46 => 96 | 159 => 98 | 162 => 101 | 160 => 99 | 119 => 103 | 139 => 106 | 138 => 105 | 208 => 112 | 51 => 68 | 206 => 110 | n => n, fun | 11 => 1 | 12 => 2 | 13 => 3 | 3 => 4 | 4 => 5 | n => n⟩
theorem Tryd.lays164 : Go.Proofs.Lays.n164 Tryd.prog Tryd.lays164_ren := {
  mixed := by kernel_rfl
  f164 := Tryd.func53.trans (congrArg some (by kernel_rfl))
  f197 := Tryd.func56.trans (congrArg some (by kernel_rfl))
  f239 := Tryd.func61.trans (congrArg some (by kernel_rfl))
  f260 := Tryd.func62.trans (congrArg some (by kernel_rfl))
  f274 := Tryd.func65.trans (congrArg some (by kernel_rfl))
  f275 := Tryd.func66.trans (congrArg some (by kernel_rfl))
  t0 := Tryd.underlying0
  a0 := Tryd.isAgg0
  z0 := Tryd.sizeOf0
  v0 := Tryd.zeroValue0
  t3 := Tryd.underlying3
  a3 := Tryd.isAgg3
  z3 := Tryd.sizeOf3
  v3 := Tryd.zeroValue3
  t4 := Tryd.underlying4
  a4 := Tryd.isAgg4
  z4 := Tryd.sizeOf4
  v4 := Tryd.zeroValue4
  t5 := Tryd.underlying5
  a5 := Tryd.isAgg5
  z5 := Tryd.sizeOf5
  v5 := Tryd.zeroValue5
  t9 := Tryd.underlying9
  a9 := Tryd.isAgg9
  z9 := Tryd.sizeOf9
  v9 := Tryd.zeroValue9
  t21 := Tryd.underlying21
  a21 := Tryd.isAgg21
  z21 := Tryd.sizeOf21
  v21 := Tryd.zeroValue21
  t46 := Tryd.underlying96
  a46 := Tryd.isAgg96
  z46 := Tryd.sizeOf96
  v46 := Tryd.zeroValue96
  t49 := Tryd.underlying22
  a49 := Tryd.isAgg22
  z49 := Tryd.sizeOf22
  v49 := Tryd.zeroValue22
  t51 := Tryd.underlying68
  a51 := Tryd.isAgg68
  z51 := Tryd.sizeOf68
  v51 := Tryd.zeroValue68
  t105 := Tryd.underlying87
  a105 := Tryd.isAgg87
  z105 := Tryd.sizeOf87
  v105 := Tryd.zeroValue87
  t119 := Tryd.underlying103
  a119 := Tryd.isAgg103
  z119 := Tryd.sizeOf103
  t138 := Tryd.underlying105
  a138 := Tryd.isAgg105
  z138 := Tryd.sizeOf105
  v138 := Tryd.zeroValue105
  t139 := Tryd.underlying106
  a139 := Tryd.isAgg106
  z139 := Tryd.sizeOf106
  v139 := Tryd.zeroValue106
  t156 := Tryd.underlying94
  a156 := Tryd.isAgg94
  z156 := Tryd.sizeOf94
  t157 := Tryd.underlying95
  a157 := Tryd.isAgg95
  z157 := Tryd.sizeOf95
  v157 := Tryd.zeroValue95
  t159 := Tryd.underlying98
  a159 := Tryd.isAgg98
  z159 := Tryd.sizeOf98
  v159 := Tryd.zeroValue98
  t160 := Tryd.underlying99
  a160 := Tryd.isAgg99
  z160 := Tryd.sizeOf99
  v160 := Tryd.zeroValue99
  t162 := Tryd.underlying101
  a162 := Tryd.isAgg101
  z162 := Tryd.sizeOf101
  v162 := Tryd.zeroValue101
  t206 := Tryd.underlying110
  a206 := Tryd.isAgg110
  z206 := Tryd.sizeOf110
  v206 := Tryd.zeroValue110
  t208 := Tryd.underlying112
  a208 := Tryd.isAgg112
  z208 := Tryd.sizeOf112
  v208 := Tryd.zeroValue112
  g3 := by kernel_rfl
  g4 := by kernel_rfl
  g11 := by kernel_rfl
  g12 := by kernel_rfl
  g13 := by kernel_rfl }
open Go.RowKit Go.Lib in
theorem Tryd.strings_EqualFold (s t : ByteArray) (w : World) (hs : s.size < 4294967281) (has : ∀ (j : Nat) b, s.data.toList[j]? = some b → b.toNat < 128) (hat : ∀ (j : Nat) b, t.data.toList[j]? = some b → b.toNat < 128) :
    Calls Tryd.prog 53 #[.string s, .string t] w fun e w' => e = .returned (.bool (Lib.equalFold s.data.toList t.data.toList)) ∧ w' = w := Any.strings_EqualFold Tryd.lays164 s t w hs has hat
def Tryd.lays203_ren : Go.Shelf.Ren := ⟨fun | 203 => 59 | 262 => 63 | 313 => 67 | 274 => 65 | 275 => 66 | n => n, fun | 21 => 21 | 4 => 4 | 3 => 3 | 162 => 101 | 203 => 107 | 160 => 99 | 46 => 96 | 0 => 0 | 208 => 112 | 51 => 68 | 206 => 110 | n => n, fun | 13 => 3 | n => n⟩
theorem Tryd.lays203 : Go.Proofs.Lays.n203 Tryd.prog Tryd.lays203_ren := {
  mixed := by kernel_rfl
  f203 := Tryd.func59.trans (congrArg some (by kernel_rfl))
  f262 := Tryd.func63.trans (congrArg some (by kernel_rfl))
  f274 := Tryd.func65.trans (congrArg some (by kernel_rfl))
  f275 := Tryd.func66.trans (congrArg some (by kernel_rfl))
  f313 := Tryd.func67.trans (congrArg some (by kernel_rfl))
  t0 := Tryd.underlying0
  a0 := Tryd.isAgg0
  z0 := Tryd.sizeOf0
  v0 := Tryd.zeroValue0
  t3 := Tryd.underlying3
  a3 := Tryd.isAgg3
  z3 := Tryd.sizeOf3
  v3 := Tryd.zeroValue3
  t4 := Tryd.underlying4
  a4 := Tryd.isAgg4
  z4 := Tryd.sizeOf4
  v4 := Tryd.zeroValue4
  t21 := Tryd.underlying21
  a21 := Tryd.isAgg21
  z21 := Tryd.sizeOf21
  v21 := Tryd.zeroValue21
  t46 := Tryd.underlying96
  a46 := Tryd.isAgg96
  z46 := Tryd.sizeOf96
  v46 := Tryd.zeroValue96
  t51 := Tryd.underlying68
  a51 := Tryd.isAgg68
  z51 := Tryd.sizeOf68
  v51 := Tryd.zeroValue68
  t160 := Tryd.underlying99
  a160 := Tryd.isAgg99
  z160 := Tryd.sizeOf99
  v160 := Tryd.zeroValue99
  t162 := Tryd.underlying101
  a162 := Tryd.isAgg101
  z162 := Tryd.sizeOf101
  v162 := Tryd.zeroValue101
  t203 := Tryd.underlying107
  a203 := Tryd.isAgg107
  z203 := Tryd.sizeOf107
  v203 := Tryd.zeroValue107
  t206 := Tryd.underlying110
  a206 := Tryd.isAgg110
  z206 := Tryd.sizeOf110
  v206 := Tryd.zeroValue110
  t208 := Tryd.underlying112
  a208 := Tryd.isAgg112
  z208 := Tryd.sizeOf112
  v208 := Tryd.zeroValue112
  g13 := by kernel_rfl }
open Go.RowKit Go.Lib in
theorem Tryd.unicode_ToUpper (r : Int) (w : World) (h : r ≤ 127) :
    Calls Tryd.prog 59 #[.int .i32 r] w fun e w' => e = .returned (.int .i32 (Lib.toUpperR r)) ∧ w' = w := Any.unicode_ToUpper Tryd.lays203 r w h
def Tryd.lays204_ren : Go.Shelf.Ren := ⟨fun | 204 => 57 | 262 => 63 | 313 => 67 | 274 => 65 | 275 => 66 | n => n, fun | 21 => 21 | 4 => 4 | 3 => 3 | 162 => 101 | 203 => 107 | 160 => 99 | 46 => 96 | 0 => 0 | 208 => 112 | 51 => 68 | 206 => 110 | n => n, fun | 13 => 3 | n => n⟩
theorem Tryd.lays204 : Go.Proofs.Lays.n204 Tryd.prog Tryd.lays204_ren := {
  mixed := by kernel_rfl
  f204 := Tryd.func57.trans (congrArg some (by kernel_rfl))
  f262 := Tryd.func63.trans (congrArg some (by kernel_rfl))
  f274 := Tryd.func65.trans (congrArg some (by kernel_rfl))
  f275 := Tryd.func66.trans (congrArg some (by kernel_rfl))
  f313 := Tryd.func67.trans (congrArg some (by kernel_rfl))
  t0 := Tryd.underlying0
  a0 := Tryd.isAgg0
  z0 := Tryd.sizeOf0
  v0 := Tryd.zeroValue0
  t3 := Tryd.underlying3
  a3 := Tryd.isAgg3
  z3 := Tryd.sizeOf3
  v3 := Tryd.zeroValue3
  t4 := Tryd.underlying4
  a4 := Tryd.isAgg4
  z4 := Tryd.sizeOf4
  v4 := Tryd.zeroValue4
  t21 := Tryd.underlying21
  a21 := Tryd.isAgg21
  z21 := Tryd.sizeOf21
  v21 := Tryd.zeroValue21
  t46 := Tryd.underlying96
  a46 := Tryd.isAgg96
  z46 := Tryd.sizeOf96
  v46 := Tryd.zeroValue96
  t51 := Tryd.underlying68
  a51 := Tryd.isAgg68
  z51 := Tryd.sizeOf68
  v51 := Tryd.zeroValue68
  t160 := Tryd.underlying99
  a160 := Tryd.isAgg99
  z160 := Tryd.sizeOf99
  v160 := Tryd.zeroValue99
  t162 := Tryd.underlying101
  a162 := Tryd.isAgg101
  z162 := Tryd.sizeOf101
  v162 := Tryd.zeroValue101
  t203 := Tryd.underlying107
  a203 := Tryd.isAgg107
  z203 := Tryd.sizeOf107
  v203 := Tryd.zeroValue107
  t206 := Tryd.underlying110
  a206 := Tryd.isAgg110
  z206 := Tryd.sizeOf110
  v206 := Tryd.zeroValue110
  t208 := Tryd.underlying112
  a208 := Tryd.isAgg112
  z208 := Tryd.sizeOf112
  v208 := Tryd.zeroValue112
  g13 := by kernel_rfl }
open Go.RowKit Go.Lib in
theorem Tryd.unicode_ToLower (r : Int) (w : World) (h : r ≤ 127) :
    Calls Tryd.prog 57 #[.int .i32 r] w fun e w' => e = .returned (.int .i32 (Lib.toLowerR r)) ∧ w' = w := Any.unicode_ToLower Tryd.lays204 r w h
def Tryd.lays197_ren : Go.Shelf.Ren := ⟨fun | 197 => 56 | 260 => 62 | n => n, fun | 9 => 9 | 21 => 21 | 3 => 3 | 4 => 4 | 5 => 5 | 105 => 87 | 119 => 103 | 0 => 0 | 46 => 96 | 139 => 106 | 138 => 105 | n => n, fun | 3 => 4 | 4 => 5 | n => n⟩
theorem Tryd.lays197 : Go.Proofs.Lays.n197 Tryd.prog Tryd.lays197_ren := {
  mixed := by kernel_rfl
  f197 := Tryd.func56.trans (congrArg some (by kernel_rfl))
  f260 := Tryd.func62.trans (congrArg some (by kernel_rfl))
  t0 := Tryd.underlying0
  a0 := Tryd.isAgg0
  z0 := Tryd.sizeOf0
  v0 := Tryd.zeroValue0
  t3 := Tryd.underlying3
  a3 := Tryd.isAgg3
  z3 := Tryd.sizeOf3
  v3 := Tryd.zeroValue3
  t4 := Tryd.underlying4
  a4 := Tryd.isAgg4
  z4 := Tryd.sizeOf4
  v4 := Tryd.zeroValue4
  t5 := Tryd.underlying5
  a5 := Tryd.isAgg5
  z5 := Tryd.sizeOf5
  v5 := Tryd.zeroValue5
  t9 := Tryd.underlying9
  a9 := Tryd.isAgg9
  z9 := Tryd.sizeOf9
  v9 := Tryd.zeroValue9
  t21 := Tryd.underlying21
  a21 := Tryd.isAgg21
  z21 := Tryd.sizeOf21
  v21 := Tryd.zeroValue21
  t46 := Tryd.underlying96
  a46 := Tryd.isAgg96
  z46 := Tryd.sizeOf96
  v46 := Tryd.zeroValue96
  t105 := Tryd.underlying87
  a105 := Tryd.isAgg87
  z105 := Tryd.sizeOf87
  v105 := Tryd.zeroValue87
  t119 := Tryd.underlying103
  a119 := Tryd.isAgg103
  z119 := Tryd.sizeOf103
  t138 := Tryd.underlying105
  a138 := Tryd.isAgg105
  z138 := Tryd.sizeOf105
  v138 := Tryd.zeroValue105
  t139 := Tryd.underlying106
  a139 := Tryd.isAgg106
  z139 := Tryd.sizeOf106
  v139 := Tryd.zeroValue106
  g3 := by kernel_rfl
  g4 := by kernel_rfl }
open Go.RowKit Go.Lib in
/-- unicode/utf8.DecodeRuneInString: "DecodeRuneInString is like DecodeRune but its input is a string.": ("DecodeRune unpacks the first UTF-8 encoding in p and returns the rune and its width in bytes."): WHERE s BEGINS WITH AN ASCII BYTE x: (x, 1). (LAID: no walk: one application.) -/
theorem Tryd.utf8_DecodeRuneInString_ascii (s : ByteArray) (x : UInt8) (w : World) (h0 : s.data.toList[0]? = some x) (hx : x.toNat < 128) :
    Calls Tryd.prog 56 #[.string s] w fun e w' => e = .returned (.tuple #[.int .i32 x.toNat, .int .i64 1]) ∧ w' = w := Any.utf8_DecodeRuneInString_ascii Tryd.lays197 s x w h0 hx
def Tryd.lays260_ren : Go.Shelf.Ren := ⟨fun | 260 => 62 | n => n, fun | 9 => 9 | 21 => 21 | 3 => 3 | 4 => 4 | 5 => 5 | 119 => 103 | 0 => 0 | 46 => 96 | 139 => 106 | 138 => 105 | n => n, fun | 3 => 4 | 4 => 5 | n => n⟩
theorem Tryd.lays260 : Go.Proofs.Lays.n260 Tryd.prog Tryd.lays260_ren := {
  mixed := by kernel_rfl
  f260 := Tryd.func62.trans (congrArg some (by kernel_rfl))
  t0 := Tryd.underlying0
  a0 := Tryd.isAgg0
  z0 := Tryd.sizeOf0
  v0 := Tryd.zeroValue0
  t3 := Tryd.underlying3
  a3 := Tryd.isAgg3
  z3 := Tryd.sizeOf3
  v3 := Tryd.zeroValue3
  t4 := Tryd.underlying4
  a4 := Tryd.isAgg4
  z4 := Tryd.sizeOf4
  v4 := Tryd.zeroValue4
  t5 := Tryd.underlying5
  a5 := Tryd.isAgg5
  z5 := Tryd.sizeOf5
  v5 := Tryd.zeroValue5
  t9 := Tryd.underlying9
  a9 := Tryd.isAgg9
  z9 := Tryd.sizeOf9
  v9 := Tryd.zeroValue9
  t21 := Tryd.underlying21
  a21 := Tryd.isAgg21
  z21 := Tryd.sizeOf21
  v21 := Tryd.zeroValue21
  t46 := Tryd.underlying96
  a46 := Tryd.isAgg96
  z46 := Tryd.sizeOf96
  v46 := Tryd.zeroValue96
  t119 := Tryd.underlying103
  a119 := Tryd.isAgg103
  z119 := Tryd.sizeOf103
  t138 := Tryd.underlying105
  a138 := Tryd.isAgg105
  z138 := Tryd.sizeOf105
  v138 := Tryd.zeroValue105
  t139 := Tryd.underlying106
  a139 := Tryd.isAgg106
  z139 := Tryd.sizeOf106
  v139 := Tryd.zeroValue106
  g3 := by kernel_rfl
  g4 := by kernel_rfl }
open Go.RowKit Go.Lib in
theorem Tryd.utf8_decodeRuneInStringSlow (s : ByteArray) (w : World) (hT : Lib.Utf8Tabs 4 5 w) :
    Calls Tryd.prog 62 #[.string s] w fun e w' => e = .returned (.tuple #[.int .i32 (Lib.decodeGo s).1, .int .i64 (Lib.decodeGo s).2]) ∧ Below w.heap.size w w' := Any.utf8_decodeRuneInStringSlow Tryd.lays260 s w hT
open Go.RowKit Go.Lib in
/-- **unicode/utf8.DecodeRuneInString AT EVERY STRING.** (LAID: no walk: one application.) -/
theorem Tryd.utf8_DecodeRuneInString (s : ByteArray) (w : World) (hT : Lib.Utf8Tabs 4 5 w) :
    Calls Tryd.prog 56 #[.string s] w fun e w' => e = .returned (.tuple #[.int .i32 (Lib.decodeGo s).1, .int .i64 (Lib.decodeGo s).2]) ∧ Below w.heap.size w w' := Any.utf8_DecodeRuneInString Tryd.lays197 s w hT
def Tryd.lays274_ren : Go.Shelf.Ren := ⟨fun | 274 => 65 | n => n, fun | 21 => 21 | 162 => 101 | 160 => 99 | 3 => 3 | 4 => 4 | 46 => 96 | 0 => 0 | 208 => 112 | 51 => 68 | 206 => 110 | n => n, fun | n => n⟩
theorem Tryd.lays274 : Go.Proofs.Lays.n274 Tryd.prog Tryd.lays274_ren := {
  mixed := by kernel_rfl
  f274 := Tryd.func65.trans (congrArg some (by kernel_rfl))
  t0 := Tryd.underlying0
  a0 := Tryd.isAgg0
  z0 := Tryd.sizeOf0
  v0 := Tryd.zeroValue0
  t3 := Tryd.underlying3
  a3 := Tryd.isAgg3
  z3 := Tryd.sizeOf3
  v3 := Tryd.zeroValue3
  t4 := Tryd.underlying4
  a4 := Tryd.isAgg4
  z4 := Tryd.sizeOf4
  v4 := Tryd.zeroValue4
  t21 := Tryd.underlying21
  a21 := Tryd.isAgg21
  z21 := Tryd.sizeOf21
  v21 := Tryd.zeroValue21
  t46 := Tryd.underlying96
  a46 := Tryd.isAgg96
  z46 := Tryd.sizeOf96
  v46 := Tryd.zeroValue96
  t51 := Tryd.underlying68
  a51 := Tryd.isAgg68
  z51 := Tryd.sizeOf68
  v51 := Tryd.zeroValue68
  t160 := Tryd.underlying99
  a160 := Tryd.isAgg99
  z160 := Tryd.sizeOf99
  v160 := Tryd.zeroValue99
  t162 := Tryd.underlying101
  a162 := Tryd.isAgg101
  z162 := Tryd.sizeOf101
  v162 := Tryd.zeroValue101
  t208 := Tryd.underlying112
  a208 := Tryd.isAgg112
  z208 := Tryd.sizeOf112
  v208 := Tryd.zeroValue112 }
open Go.RowKit Go.Lib in
theorem Tryd.unicode_lookupCaseRange (T : Array CaseRow) (R oR cap : Nat) (r : Int) (w : World) (hT : CaseTab R oR T w) (hok : CaseOk T) (hn : T.size ≤ 1000000000) :
    Calls Tryd.prog 65 #[.int .i32 r, .slice (some ⟨R, oR, none⟩) T.size cap] w fun e w' =>
      e = .returned (match lookupIdx T r (T.size + 1) 0 T.size with | some i => .pointer (some ⟨R, oR + i * 5, none⟩) | none => .pointer none) ∧ w' = w := Any.unicode_lookupCaseRange Tryd.lays274 T R oR cap r w hT hok hn
def Tryd.lays275_ren : Go.Shelf.Ren := ⟨fun | 275 => 66 | n => n, fun | 3 => 3 | 21 => 21 | 160 => 99 | 0 => 0 | 208 => 112 | 206 => 110 | 4 => 4 | 51 => 68 | n => n, fun | n => n⟩
theorem Tryd.lays275 : Go.Proofs.Lays.n275 Tryd.prog Tryd.lays275_ren := {
  mixed := by kernel_rfl
  f275 := Tryd.func66.trans (congrArg some (by kernel_rfl))
  t0 := Tryd.underlying0
  a0 := Tryd.isAgg0
  z0 := Tryd.sizeOf0
  v0 := Tryd.zeroValue0
  t3 := Tryd.underlying3
  a3 := Tryd.isAgg3
  z3 := Tryd.sizeOf3
  v3 := Tryd.zeroValue3
  t4 := Tryd.underlying4
  a4 := Tryd.isAgg4
  z4 := Tryd.sizeOf4
  v4 := Tryd.zeroValue4
  t21 := Tryd.underlying21
  a21 := Tryd.isAgg21
  z21 := Tryd.sizeOf21
  v21 := Tryd.zeroValue21
  t51 := Tryd.underlying68
  a51 := Tryd.isAgg68
  z51 := Tryd.sizeOf68
  v51 := Tryd.zeroValue68
  t160 := Tryd.underlying99
  a160 := Tryd.isAgg99
  z160 := Tryd.sizeOf99
  v160 := Tryd.zeroValue99
  t206 := Tryd.underlying110
  a206 := Tryd.isAgg110
  z206 := Tryd.sizeOf110
  v206 := Tryd.zeroValue110
  t208 := Tryd.underlying112
  a208 := Tryd.isAgg112
  z208 := Tryd.sizeOf112
  v208 := Tryd.zeroValue112 }
open Go.RowKit Go.Lib in
theorem Tryd.unicode_convertCase (c : Nat) (hc : c < 3) (r : Int) (A o : Nat) (x : CaseRow) (w : World) (hlo : (x.1 : Int) ≤ r) (hhi : r ≤ (x.2.1 : Int)) (hH : x.2.1 < 2147483647) (c0 : w.cell? ⟨A, o, none⟩ = some (.int .u32 x.1)) (cD : w.cell? ⟨A, o + 2 + c, none⟩ = some (.int .i32 (x.delta c))) :
    Calls Tryd.prog 66 #[.int .i64 c, .int .i32 r, .pointer (some ⟨A, o, none⟩)] w fun e w' => e = .returned (.int .i32 (wrap32 (convertR c r x))) ∧ ∃ q, w' = w.drewN q := Any.unicode_convertCase Tryd.lays275 c hc r A o x w hlo hhi hH c0 cD
def Tryd.lays313_ren : Go.Shelf.Ren := ⟨fun | 313 => 67 | 274 => 65 | 275 => 66 | n => n, fun | 3 => 3 | 21 => 21 | 162 => 101 | 4 => 4 | 160 => 99 | 46 => 96 | 0 => 0 | 208 => 112 | 51 => 68 | 206 => 110 | n => n, fun | n => n⟩
theorem Tryd.lays313 : Go.Proofs.Lays.n313 Tryd.prog Tryd.lays313_ren := {
  mixed := by kernel_rfl
  f274 := Tryd.func65.trans (congrArg some (by kernel_rfl))
  f275 := Tryd.func66.trans (congrArg some (by kernel_rfl))
  f313 := Tryd.func67.trans (congrArg some (by kernel_rfl))
  t0 := Tryd.underlying0
  a0 := Tryd.isAgg0
  z0 := Tryd.sizeOf0
  v0 := Tryd.zeroValue0
  t3 := Tryd.underlying3
  a3 := Tryd.isAgg3
  z3 := Tryd.sizeOf3
  v3 := Tryd.zeroValue3
  t4 := Tryd.underlying4
  a4 := Tryd.isAgg4
  z4 := Tryd.sizeOf4
  v4 := Tryd.zeroValue4
  t21 := Tryd.underlying21
  a21 := Tryd.isAgg21
  z21 := Tryd.sizeOf21
  v21 := Tryd.zeroValue21
  t46 := Tryd.underlying96
  a46 := Tryd.isAgg96
  z46 := Tryd.sizeOf96
  v46 := Tryd.zeroValue96
  t51 := Tryd.underlying68
  a51 := Tryd.isAgg68
  z51 := Tryd.sizeOf68
  v51 := Tryd.zeroValue68
  t160 := Tryd.underlying99
  a160 := Tryd.isAgg99
  z160 := Tryd.sizeOf99
  v160 := Tryd.zeroValue99
  t162 := Tryd.underlying101
  a162 := Tryd.isAgg101
  z162 := Tryd.sizeOf101
  v162 := Tryd.zeroValue101
  t206 := Tryd.underlying110
  a206 := Tryd.isAgg110
  z206 := Tryd.sizeOf110
  v206 := Tryd.zeroValue110
  t208 := Tryd.underlying112
  a208 := Tryd.isAgg112
  z208 := Tryd.sizeOf112
  v208 := Tryd.zeroValue112 }
open Go.RowKit Go.Lib in
theorem Tryd.unicode_to (c : Nat) (hc : c < 3) (r : Int) (T : Array CaseRow) (R oR cap : Nat) (w : World) (hT : CaseTab R oR T w) (hok : CaseOk2 T) (hn : T.size ≤ 1000000000) :
    Calls Tryd.prog 67 #[.int .i64 c, .int .i32 r, .slice (some ⟨R, oR, none⟩) T.size cap] w fun e w' => e = .returned (.tuple #[.int .i32 (toW T c r), .bool (lookupIdx T r (T.size + 1) 0 T.size).isSome]) ∧ ∃ q, w' = w.drewN q := Any.unicode_to Tryd.lays313 c hc r T R oR cap w hT hok hn
def Tryd.lays262_ren : Go.Shelf.Ren := ⟨fun | 262 => 63 | 313 => 67 | 274 => 65 | 275 => 66 | n => n, fun | 3 => 3 | 21 => 21 | 162 => 101 | 203 => 107 | 4 => 4 | 160 => 99 | 46 => 96 | 0 => 0 | 208 => 112 | 51 => 68 | 206 => 110 | n => n, fun | 13 => 3 | n => n⟩
theorem Tryd.lays262 : Go.Proofs.Lays.n262 Tryd.prog Tryd.lays262_ren := {
  mixed := by kernel_rfl
  f262 := Tryd.func63.trans (congrArg some (by kernel_rfl))
  f274 := Tryd.func65.trans (congrArg some (by kernel_rfl))
  f275 := Tryd.func66.trans (congrArg some (by kernel_rfl))
  f313 := Tryd.func67.trans (congrArg some (by kernel_rfl))
  t0 := Tryd.underlying0
  a0 := Tryd.isAgg0
  z0 := Tryd.sizeOf0
  v0 := Tryd.zeroValue0
  t3 := Tryd.underlying3
  a3 := Tryd.isAgg3
  z3 := Tryd.sizeOf3
  v3 := Tryd.zeroValue3
  t4 := Tryd.underlying4
  a4 := Tryd.isAgg4
  z4 := Tryd.sizeOf4
  v4 := Tryd.zeroValue4
  t21 := Tryd.underlying21
  a21 := Tryd.isAgg21
  z21 := Tryd.sizeOf21
  v21 := Tryd.zeroValue21
  t46 := Tryd.underlying96
  a46 := Tryd.isAgg96
  z46 := Tryd.sizeOf96
  v46 := Tryd.zeroValue96
  t51 := Tryd.underlying68
  a51 := Tryd.isAgg68
  z51 := Tryd.sizeOf68
  v51 := Tryd.zeroValue68
  t160 := Tryd.underlying99
  a160 := Tryd.isAgg99
  z160 := Tryd.sizeOf99
  v160 := Tryd.zeroValue99
  t162 := Tryd.underlying101
  a162 := Tryd.isAgg101
  z162 := Tryd.sizeOf101
  v162 := Tryd.zeroValue101
  t203 := Tryd.underlying107
  a203 := Tryd.isAgg107
  z203 := Tryd.sizeOf107
  v203 := Tryd.zeroValue107
  t206 := Tryd.underlying110
  a206 := Tryd.isAgg110
  z206 := Tryd.sizeOf110
  v206 := Tryd.zeroValue110
  t208 := Tryd.underlying112
  a208 := Tryd.isAgg112
  z208 := Tryd.sizeOf112
  v208 := Tryd.zeroValue112
  g13 := by kernel_rfl }
open Go.RowKit Go.Lib in
theorem Tryd.unicode_To (c : Nat) (hc : c < 3) (r : Int) (T : Array CaseRow) (w : World) (hV : CaseVar 3 T w) (hok : CaseOk2 T) (hn : T.size ≤ 1000000000) :
    Calls Tryd.prog 63 #[.int .i64 c, .int .i32 r] w fun e w' => e = .returned (.int .i32 (toW T c r)) ∧ ∃ q, w' = w.drewN q := Any.unicode_To Tryd.lays262 c hc r T w hV hok hn
open Go.RowKit Go.Lib in
theorem Tryd.unicode_ToLower_any (r : Int) (T : Array CaseRow) (w : World) (hV : CaseVar 3 T w) (hok : CaseOk2 T) (hn : T.size ≤ 1000000000) :
    Calls Tryd.prog 57 #[.int .i32 r] w fun e w' => e = .returned (.int .i32 (Lib.toLowerW T r)) ∧ ∃ q, w' = w.drewN q := Any.unicode_ToLower_any Tryd.lays204 r T w hV hok hn
open Go.RowKit Go.Lib in
theorem Tryd.unicode_ToUpper_any (r : Int) (T : Array CaseRow) (w : World) (hV : CaseVar 3 T w) (hok : CaseOk2 T) (hn : T.size ≤ 1000000000) :
    Calls Tryd.prog 59 #[.int .i32 r] w fun e w' => e = .returned (.int .i32 (Lib.toUpperW T r)) ∧ ∃ q, w' = w.drewN q := Any.unicode_ToUpper_any Tryd.lays203 r T w hV hok hn
open Go.RowKit Go.Lib in
theorem Tryd.unicode_ToLower_laid (r : Int) (w : World) (hV : CaseVar 3 caseA w) :
    Calls Tryd.prog 57 #[.int .i32 r] w fun e w' => e = .returned (.int .i32 (toLowerU r)) ∧ ∃ q, w' = w.drewN q := Any.unicode_ToLower_laid Tryd.lays204 r w hV
open Go.RowKit Go.Lib in
theorem Tryd.unicode_ToUpper_laid (r : Int) (w : World) (hV : CaseVar 3 caseA w) :
    Calls Tryd.prog 59 #[.int .i32 r] w fun e w' => e = .returned (.int .i32 (toUpperU r)) ∧ ∃ q, w' = w.drewN q := Any.unicode_ToUpper_laid Tryd.lays203 r w hV
end Go.Proofs
