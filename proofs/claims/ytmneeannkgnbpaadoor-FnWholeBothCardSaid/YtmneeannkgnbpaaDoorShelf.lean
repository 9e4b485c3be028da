/- Library contracts laid at this program. -/
import Derived.Test.YtmneeannkgnbpaaDoorL2
import Derived.Shelf.Small.Strs
import Derived.Shelf.LaysM
import Derived.Shelf.Bytes.Len
import Derived.Shelf.Bytes.TryGrow
import Derived.Shelf.Bytes.GrowSliceCatch
import Derived.Shelf.Bytes.GrowSlice
import Derived.Shelf.Bytes.String
import Derived.Shelf.Strings.Search1
import Derived.Shelf.Bytes.GrowRow0Kept
import Derived.Shelf.Bytes.GrowRowKept
import Derived.Shelf.Bytes.GrowNilKept
import Derived.Shelf.Bytes.GrowKept
import Derived.Shelf.Bytes.WriteStringKept
import Derived.Shelf.Bytes.ResetKept
import Derived.Shelf.Bytes.BufferK
import Derived.Shelf.Bytes.LenAt
import Derived.Shelf.Bytes.StringAt
import Derived.Shelf.Bytes.TryGrowAt
import Derived.Shelf.Bytes.GrowRow0At
import Derived.Shelf.Bytes.GrowRowAt
import Derived.Shelf.Bytes.GrowNilAt
import Derived.Shelf.Bytes.GrowAt
import Derived.Shelf.Bytes.WriteStringAt
import Derived.Shelf.Slices.Equal
import Derived.Ground.Names2Prog
import Derived.Shelf.Slices.Clone
import Derived.Shelf.Slices.Empties2
import Derived.Ground.SlgnProg
import Derived.Shelf.SlicesE.Clone
import Derived.Test.YtmneeannkgnbpaaDoorProg
import Derived.Test.YtmneeannkgnbpaaDoorP01
namespace Go.Proofs
open Go.Shelf
def Tryd.aiX:Go.Shelf.Ren:=⟨fun|182=>92|n=>n,fun|130=>180|9=>9|4=>4|0=>0|93=>184|37=>37|3=>3|91=>182|5=>5|n=>n,fun|n=>n⟩
theorem Tryd.aiY:Go.Proofs.LaysM.n182 Tryd.prog Tryd.aiX:={
 mixed:=by kernel_rfl
 f182:=Tryd.func92.trans (congrArg some (by kernel_rfl))
 t0:=Tryd.underlying0
 a0:=Tryd.isAgg0
 z0:=Tryd.sizeOf0
 v0:=Tryd.zeroValue0
 t3:=dN
 a3:=aY
 z3:=bh
 v3:=ez
 t4:=eo
 a4:=bQ
 z4:=aP
 v4:=Tryd.zeroValue4
 t9:=aa
 a9:=ag
 z9:=ah
 v9:=ck
 t37:=aL
 a37:=Tryd.isAgg37
 z37:=Tryd.sizeOf37
 v37:=Tryd.zeroValue37
 t93:=Tryd.underlying184
 a93:=Tryd.isAgg184
 z93:=Tryd.sizeOf184
 v93:=Tryd.zeroValue184
 t130:=Tryd.underlying180
 a130:=Tryd.isAgg180
 z130:=Tryd.sizeOf180
 v130:=Tryd.zeroValue180
 t5:=bT
 a5:=bt
 z5:=bV
 v5:=dH
 t91:=Tryd.underlying182
 a91:=Tryd.isAgg182
 z91:=Tryd.sizeOf182
 v91:=Tryd.zeroValue182
 i0:=by kernel_rfl
 i3:=by kernel_rfl
 i4:=by kernel_rfl
 i5:=by kernel_rfl
 i9:=by kernel_rfl
 i37:=by kernel_rfl
 i91:=by kernel_rfl
 i93:=by kernel_rfl
 i130:=by kernel_rfl}
open Go.RowKit in
theorem Tryd.Buffer_String (B b:Nat) (l:List UInt8) (w:World) (h:Lib.IsBuffer 184 5 B b (Lib.byteCells l) w):
  Calls Tryd.prog 92 #[.pointer (some ⟨b,0,none⟩)] w fun e w'=>e=.returned (.string ⟨l.toArray⟩)/\∃n,w'=w.drewN n:=Any.Buffer_String Tryd.aiY B b l w h
def Tryd.aiZ:Go.Shelf.Ren:=⟨fun|178=>91|251=>93|252=>94|181=>95|184=>96|290=>97|324=>98|n=>n,fun|130=>180|9=>9|3=>3|75=>161|0=>0|93=>184|91=>182|131=>188|4=>4|37=>37|20=>20|80=>187|5=>5|n=>n,fun|14=>1|n=>n⟩
theorem Tryd.ai0:Go.Proofs.LaysM.n178 Tryd.prog Tryd.aiZ:={
 mixed:=by kernel_rfl
 f178:=Tryd.func91.trans (congrArg some (by kernel_rfl))
 f181:=Tryd.func95.trans (congrArg some (by kernel_rfl))
 f184:=Tryd.func96.trans (congrArg some (by kernel_rfl))
 f251:=Tryd.func93.trans (congrArg some (by kernel_rfl))
 f252:=Tryd.func94.trans (congrArg some (by kernel_rfl))
 f290:=Tryd.func97.trans (congrArg some (by kernel_rfl))
 f324:=Tryd.func98.trans (congrArg some (by kernel_rfl))
 t0:=Tryd.underlying0
 a0:=Tryd.isAgg0
 z0:=Tryd.sizeOf0
 v0:=Tryd.zeroValue0
 t3:=dN
 a3:=aY
 z3:=bh
 v3:=ez
 t4:=eo
 a4:=bQ
 z4:=aP
 v4:=Tryd.zeroValue4
 t9:=aa
 a9:=ag
 z9:=ah
 v9:=ck
 t20:=Tryd.underlying20
 a20:=Tryd.isAgg20
 z20:=Tryd.sizeOf20
 v20:=Tryd.zeroValue20
 t37:=aL
 a37:=Tryd.isAgg37
 z37:=Tryd.sizeOf37
 v37:=Tryd.zeroValue37
 t75:=Tryd.underlying161
 a75:=Tryd.isAgg161
 z75:=Tryd.sizeOf161
 v75:=Tryd.zeroValue161
 t91:=Tryd.underlying182
 a91:=Tryd.isAgg182
 z91:=Tryd.sizeOf182
 v91:=Tryd.zeroValue182
 t93:=Tryd.underlying184
 a93:=Tryd.isAgg184
 z93:=Tryd.sizeOf184
 v93:=Tryd.zeroValue184
 t130:=Tryd.underlying180
 a130:=Tryd.isAgg180
 z130:=Tryd.sizeOf180
 v130:=Tryd.zeroValue180
 t131:=Tryd.underlying188
 a131:=Tryd.isAgg188
 z131:=Tryd.sizeOf188
 v131:=Tryd.zeroValue188
 g14:=by kernel_rfl
 t5:=bT
 a5:=bt
 z5:=bV
 v5:=dH
 t80:=Tryd.underlying187
 a80:=Tryd.isAgg187
 z80:=Tryd.sizeOf187
 v80:=Tryd.zeroValue187
 i0:=by kernel_rfl
 i3:=by kernel_rfl
 i4:=by kernel_rfl
 i5:=by kernel_rfl
 i9:=by kernel_rfl
 i20:=by kernel_rfl
 i37:=by kernel_rfl
 i75:=by kernel_rfl
 i80:=by kernel_rfl
 i91:=by kernel_rfl
 i93:=by kernel_rfl
 i130:=by kernel_rfl
 i131:=by kernel_rfl
 m14:=by kernel_rfl}
open Go.RowKit in
theorem Tryd.Buffer_WriteString_k (B b:Nat) (bs:List Value) (s:ByteArray) (w:World) (h:Lib.IsBuffer 184 5 B b bs w) (hBw:B<=w.heap.size) (h1:∀v∈bs,v.oneCell'=true) (ai2:bs.length+s.size<=140737488355328):
  Calls Tryd.prog 91 #[.pointer (some ⟨b,0,none⟩),.string s] w fun e w'=>e=.returned (.tuple #[.int .i64 s.size,.nilIface])/\Lib.IsBuffer 184 5 B b (bs++Lib.byteCells s.data.toList) w'/\Below B w w'/\Lib.OthersKept 5 (some b) w w':=Any.Buffer_WriteString_k Tryd.ai0 B b bs s w h hBw h1 ai2
def Tryd.ai3:Go.Shelf.Ren:=⟨fun|193=>36|n=>n,fun|31=>43|9=>9|4=>4|3=>3|0=>0|n=>n,fun|n=>n⟩
theorem Tryd.Si:Go.Proofs.Lays.n193 Tryd.prog Tryd.ai3:={
 mixed:=by kernel_rfl
 f193:=Tryd.func36.trans (congrArg some (by kernel_rfl))
 t0:=Tryd.underlying0
 a0:=Tryd.isAgg0
 z0:=Tryd.sizeOf0
 v0:=Tryd.zeroValue0
 t3:=dN
 a3:=aY
 z3:=bh
 v3:=ez
 t4:=eo
 a4:=bQ
 z4:=aP
 v4:=Tryd.zeroValue4
 t9:=aa
 a9:=ag
 z9:=ah
 v9:=ck
 t31:=aE
 a31:=bF
 z31:=cB
 v31:=Tryd.zeroValue43}
open Go.RowKit Go.Lib in
theorem Tryd.slices_Equal_string (b1 o1 n c b2 o2 m d:Nat) (xs ys:List ByteArray) (w:World) (hx:n<=xs.length) (hy:m<=ys.length) (Sj:n<=9223372036854775807) (Sl:m<=9223372036854775807) (oV:∀j,j<xs.length->w.cell? ⟨b1,o1+j,none⟩=some (.string (xs.getD j ByteArray.empty))) (oc:∀j,j<ys.length->w.cell? ⟨b2,o2+j,none⟩=some (.string (ys.getD j ByteArray.empty))):
  Calls Tryd.prog 36 #[.slice (some ⟨b1,o1,none⟩) n c,.slice (some ⟨b2,o2,none⟩) m d] w fun e w'=>e=.returned (.bool (decide (xs.take n=ys.take m)))/\∃q,w'=w.drewN q:=Any.slices_Equal_string Tryd.Si b1 o1 n c b2 o2 m d xs ys w hx hy Sj Sl oV oc
open Go.RowKit Go.Lib in
theorem Tryd.slices_Equal_string_empty (a1 a2:Option Addr) (c m d:Nat) (w:World) (Sl:m<=9223372036854775807):
  Calls Tryd.prog 36 #[.slice a1 0 c,.slice a2 m d] w fun e w'=>e=.returned (.bool (decide (m=0)))/\w'=w:=Any.slices_Equal_string_empty Tryd.Si a1 a2 c m d w Sl
def Tryd.ai4:Go.Shelf.Ren:=⟨fun|16=>52|n=>n,fun|24=>43|9=>9|4=>4|n=>n,fun|n=>n⟩
theorem Tryd.Sm:Go.Proofs.Lays2.n16 Tryd.prog Tryd.ai4:={
 mixed:=by kernel_rfl
 f16:=Tryd.func52.trans (congrArg some (by kernel_rfl))
 t4:=eo
 a4:=bQ
 z4:=aP
 v4:=Tryd.zeroValue4
 t9:=aa
 a9:=ag
 z9:=ah
 v9:=ck
 t24:=aE
 a24:=bF
 z24:=cB
 v24:=Tryd.zeroValue43
 i9:=by kernel_rfl}
open Go.RowKit Go.Lib in
theorem Tryd.slices_Clone_string (b off n c:Nat) (zs:List ByteArray) (w:World) (hz:n<=zs.length) (Sj:n*16<=140737488355328) (hc:∀j,j<zs.length->w.cell? ⟨b,off+j,none⟩=some (.string (zs.getD j ByteArray.empty))):
  Calls Tryd.prog 52 #[.slice (some ⟨b,off,none⟩) n c] w fun e w'=>∃v',e=.returned v'/\w'.ownsRow w.heap.size 9 1 v' n ((zs.take n).map (Value.string))/\v'≠ .slice none 0 0/\Below w.heap.size w w':=Any.slices_Clone_string Tryd.Sm b off n c zs w hz Sj hc
open Go.RowKit Go.Lib in
theorem Tryd.slices_Clone_string_nil (n c:Nat) (w:World):
  Calls Tryd.prog 52 #[.slice none n c] w fun e w'=>e=.returned (.slice none 0 0)/\w'=w:=Any.slices_Clone_string_nil Tryd.Sm n c w
open Go.RowKit Go.Lib in
theorem Tryd.slices_Clone_string_zero (a:Addr) (c:Nat) (w:World):
  Calls Tryd.prog 52 #[.slice (some a) 0 c] w fun e w'=>∃v',e=.returned v'/\w'.ownsRow w.heap.size 9 1 v' 0 []/\v'≠ .slice none 0 0/\Below w.heap.size w w':=Any.slices_Clone_string_zero Tryd.Sm a c w
open Go.RowKit Go.Lib in
theorem Tryd.slices_Equal_string_lens (a1 a2:Option Addr) (n c m d:Nat) (w:World) (Yd:n≠m):
  Calls Tryd.prog 36 #[.slice a1 n c,.slice a2 m d] w fun e w'=>e=.returned (.bool false)/\w'=w:=Any.slices_Equal_string_lens Tryd.Si a1 a2 n c m d w Yd
end Go.Proofs
