/- Facts on fields; rules for rows of bytes. -/
import Derived.Test.YtabaldddhopobaaDoorKa
import Derived.Test.YtabaldddhopobaaDoorProg
import Derived.KernelRfl
import Derived.Lib.BufferWrite
import Derived.Laws.BytesArg
import Derived.Laws.IdiomStrings
import Derived.Lib.AppendStr
import Derived.Laws.Small
/- The places of fields, the order of evaluation: facts of the dump. Written by wip/facts.py. -/
namespace Go.Proofs
open Go Bw
theorem mixed : Tryd.prog.follows .mixedOrders = true := by kernel_rfl
theorem F49_0 : FF Tryd.prog 49 0 0 := .mk Tryd.underlying49 rfl Tryd.sizeOf46  -- addr
theorem F49_1 : FF Tryd.prog 49 1 1 := .mk Tryd.underlying49 rfl Tryd.sizeOf47  -- buf
theorem F61_0 : FF Tryd.prog 61 0 0 := .mk Tryd.underlying61 rfl Tryd.sizeOf59  -- root
theorem F61_1 : FF Tryd.prog 61 1 1 := .mk Tryd.underlying61 rfl Tryd.sizeOf22  -- maxParams
theorem F61_2 : FF Tryd.prog 61 2 2 := .mk Tryd.underlying61 rfl Tryd.sizeOf22  -- maxSections
theorem F72_0 : FF Tryd.prog 72 0 0 := .mk Tryd.underlying72 rfl Tryd.sizeOf9  -- path
theorem F72_1 : FF Tryd.prog 72 1 1 := .mk Tryd.underlying72 rfl Tryd.sizeOf9  -- indices
theorem F72_2 : FF Tryd.prog 72 2 2 := .mk Tryd.underlying72 rfl Tryd.sizeOf4  -- wildChild
theorem F72_3 : FF Tryd.prog 72 3 3 := .mk Tryd.underlying72 rfl Tryd.sizeOf67  -- nType
theorem F72_4 : FF Tryd.prog 72 4 4 := .mk Tryd.underlying72 rfl Tryd.sizeOf68  -- priority
theorem F72_5 : FF Tryd.prog 72 5 5 := .mk Tryd.underlying72 rfl Tryd.sizeOf69  -- children
theorem F72_6 : FF Tryd.prog 72 6 6 := .mk Tryd.underlying72 rfl Tryd.sizeOf70  -- handlers
theorem F72_7 : FF Tryd.prog 72 7 7 := .mk Tryd.underlying72 rfl Tryd.sizeOf9  -- fullPath
end Go.Proofs

/- Rows of bytes: made, copied to, read as a string. -/
set_option maxRecDepth 20000
namespace Bw
open Go Go.Proofs
theorem madeB (z : Nat) : (Go.madeCells (Value.cells (.int .u8 0)) z).toList = bC (List.replicate z 0) := by
  simp only [Go.madeCells, Array.toList_map, Array.toList_range, bC, Lib.byteCells]
  have h : (Value.int IntKind.u8 0).cells = #[Value.int IntKind.u8 0] := rfl
  rw [h]
  refine List.ext_getElem? fun i => ?_
  by_cases hi : i < z
  · rw [List.getElem?_map, List.getElem?_range hi, List.getElem?_map, List.getElem?_replicate_of_lt hi]
    simp [Nat.mod_one]
  · rw [List.getElem?_eq_none (by simpa using hi), List.getElem?_eq_none (by simpa using hi)]
theorem mkB {P : Program} {a : Act} {w1 : World} {n d z l T : Nat} {fr : SF} {x y : Operand} {ty : TypeId} {pos : String} {aft : Array Edge} {i5 : TypeInfo} (hT : P.underlying T = some (.slice 5)) (h5 : P.info? 5 = some i5) (h5z : i5.zero = some (.int .u8 0)) (h5s : i5.size = 1) (h5b : i5.bytes = 1)
    (ha : Fr n fr a) (hx : ev fr x = some (I (l : Int))) (hy : ev fr y = some (I (z : Int))) (hl : l ≤ z) (hz : z ≤ 100000) :
    (execOp a.eval ⟨some d, .makeSlice T x y, ty, pos, aft, none⟩).run P w1 = .ok (.value (.slice (some ⟨w1.heap.size, 0, none⟩) l z)) { w1 with heap := w1.heap.push (Blk.row (bC (List.replicate z 0)) 5 (0, 0)).den } := by
  have hr := run_make (P := P) w1 T 5 i5 (.int .u8 0) hT h5 h5z .i64 .i64 (l : Int) (z : Int) (by omega) (by omega) (by rw [h5b]; show ((1 : Nat) : Int) * _ ≤ _; omega) (by omega)
  rw [h5s, Nat.mul_one, Int.toNat_natCast, Int.toNat_natCast] at hr
  have hm : Go.madeCells (Value.cells (.int .u8 0)) z = (bC (List.replicate z 0)).toArray := by rw [← madeB]
  rw [hm] at hr
  simp only [execOp, ha.eval hx, ha.eval hy, Sem.run_bind, Blk.den]
  rw [hr]
  rfl
variable {P : Program} {c : Cx} {n : Nat} {k : List Item} {fr : SF} {H : SH} {ops : Array Oper} {rest : List Oper} {ty t : TypeId} {pos : String} {aft : Array Edge}
theorem G.copyS {dT sT elem : TypeId} {x y : Operand} {d b m cap i : Nat} {s l : List UInt8} {T : TypeId} (hu : P.underlying dT = some (.slice elem)) (hs : (P.info? elem).map (·.size) = some 1) (hx : ev fr x = some (.slice (some ⟨b, 0, none⟩) m cap)) (hy : ev fr y = some (S s))
    (hi : At i ⟨b, true, .row (bC l) T (0, 0)⟩ H) (hle : s.length ≤ m) (hfit : s.length ≤ l.length) (hd : Nat.blt d n = true)
    (hk : G P c n k ops rest ((d, I (s.length : Nat)) :: fr) (putE (.row (bC (s ++ l.drop s.length)) T (0, 0)) i H)) : G P c n k ops (⟨some d, .call ⟨.builtin .copy, #[x, y], #[dT, sT]⟩, ty, pos, aft, none⟩ :: rest) fr H := by
  refine G.eff (fun a w ha hw => ?_) hd hk
  have hb := hw.has _ hi.mem
  simp only [Blk.den] at hb
  have hsz : (⟨s.toArray⟩ : ByteArray).size = s.length := List.size_toArray
  have h := Lib.run_copy_row_string (P := P) w dT sT ty elem b 0 m cap ⟨s.toArray⟩ (bC l).toArray T hu hs hb (by rw [hsz]; exact hle) (by rw [hsz]; simpa [bC, Lib.byteCells] using hfit)
  have e : ((bC l).toArray.toList.take 0 ++ Lib.byteCells (⟨s.toArray⟩ : ByteArray).data.toList ++ (bC l).toArray.toList.drop (0 + (⟨s.toArray⟩ : ByteArray).size)).toArray = (bC (s ++ l.drop s.length)).toArray := by
    rw [hsz]
    simp [bC, Lib.byteCells]
  rw [e] at h
  refine ⟨w.setRow b (bC (s ++ l.drop s.length)).toArray, ?_, ?_⟩
  · simp [execOp, resolve, invoke, builtin, ha.eval hx, ha.eval hy, h, hsz, goInt]
  · have := hw.upd (w' := w.setRow b (bC (s ++ l.drop s.length)).toArray) hi rfl (.row (bC (s ++ l.drop s.length)) T (0, 0)) (by simp [World.setRow])
      (by simp only [Blk.den]; simp [World.setRow, Array.getElem?_modify, hb]) (fun x hx => by simp only [World.setRow]; rw [Array.getElem?_modify, if_neg (fun e => hx e.symm)]) rfl rfl rfl
    exact this
theorem V.cvBS {src dst e : TypeId} {x : Operand} {b m cap : Nat} {l : List UInt8} {T : TypeId} {wf : Bool} (hs : P.underlying src = some (.slice e)) (he : P.underlying e = some (.int .u8)) (hd : P.underlying dst = some .string) (hx : ev fr x = some (.slice (some ⟨b, 0, none⟩) m cap))
    (hm : ⟨b, wf, .row (bC l) T (0, 0)⟩ ∈ H) (hl : m ≤ l.length) : Val P c n (.convert src dst x) ty fr H (S (l.take m)) := by
  intro a w ha hw ds pos aft g
  have hcell : ∀ i, i < m → w.cell? ⟨b, 0 + i, none⟩ = some (.int .u8 (((l.take m).map fun x => (x.toNat : Int)).getD i 0)) := fun i hi => by
    refine cell_row hw hm ?_
    have hil : i < l.length := by omega
    rw [nth_eq, Nat.zero_add]
    simp only [bC, Lib.byteCells, List.getElem?_map, List.getElem?_eq_getElem hil, Option.map_some, List.getD_eq_getElem?_getD, List.getElem?_take_of_lt hi, Option.getD_some]
  have h := run_convert_bytes_arg (P := P) w src e hs he b 0 m cap ((l.take m).map fun x => (x.toNat : Int)) (by simp; omega) hcell dst hd
  have e2 : strOfNums ((l.take m).map fun x => (x.toNat : Int)) = ⟨(l.take m).toArray⟩ := by
    have h0 : ((fun n : Int => UInt8.ofNat n.toNat) ∘ fun x : UInt8 => (x.toNat : Int)) = id := by
      funext x; simp
    simp [strOfNums, List.map_map, h0]
  rw [e2] at h
  simp [execOp, ha.eval hx, h]
end Bw

/- More rules: bytes of a string in a new row, bytes put behind bytes, the greater number. -/
set_option maxRecDepth 20000
namespace Bw
open Go Go.Proofs
variable {P : Program} {c : Cx} {n : Nat} {k : List Item} {fr : SF} {H : SH} {ops : Array Oper} {rest : List Oper} {ty t : TypeId} {pos : String} {aft : Array Edge}
theorem G.cvSB {src dst e : TypeId} {x : Operand} {d : Nat} {l : List UInt8} (hs : P.underlying src = some .string) (hdt : P.underlying dst = some (.slice e)) (he : P.underlying e = some (.int .u8)) (hx : ev fr x = some (S l)) (hd : Nat.blt d n = true)
    (hk : ∀ b cp (z : List UInt8) fz, c.w0.heap.size ≤ b → l.length ≤ cp → G P c n k ops rest ((d, .slice (some ⟨b, 0, none⟩) l.length cp) :: fr) (⟨b, true, .row (bC (l ++ z)) e fz⟩ :: H)) : G P c n k ops (⟨some d, .convert src dst x, ty, pos, aft, none⟩ :: rest) fr H := by
  intro hf a w ha hw
  refine wpList_step fun K hK => ?_
  have hsz : (⟨l.toArray⟩ : ByteArray).size = l.length := List.size_toArray
  have h := run_bytes_of_string (P := P) w src dst e ⟨l.toArray⟩ hs hdt he
  have hcap := grownCap_ge w (⟨l.toArray⟩ : ByteArray).size 0 e
  rw [hsz] at h hcap
  generalize grownCap w l.length 0 e = cp at h hcap
  have hrow : bytesRow ⟨l.toArray⟩ cp = (bC (l ++ List.replicate (cp - l.length) 0)).toArray := by
    simp [bytesRow, bC, Lib.byteCells, hsz]
  rw [hrow] at h
  generalize hfz : ((bC (l ++ List.replicate (cp - l.length) 0)).toArray.size, (bC (l ++ List.replicate (cp - l.length) 0)).toArray.size + 1) = fz at h
  have hrun : (execOp a.eval ⟨some d, .convert src dst x, ty, pos, aft, none⟩).run P w = .ok (.value (.slice (some ⟨w.heap.size, 0, none⟩) l.length cp)) (w.drew.alloc (.cells (bC (l ++ List.replicate (cp - l.length) 0)).toArray e fz)) := by
    simp [execOp, ha.eval hx, h]
  simp only [Region.wanted, if_true, Oper.wp, hrun, Oper.upon]
  have hw2 : HF c.w0 c.D H w.drew := hw.drew _
  exact hK _ _ (hk w.heap.size cp (List.replicate (cp - l.length) 0) fz hw.size (by omega) hf _ _ (ha.put hd _) (hw2.push (.row (bC (l ++ List.replicate (cp - l.length) 0)) e fz)))
theorem G.appS {T U e : TypeId} {x y : Operand} {d b m cap i : Nat} {s l : List UInt8} {ie : TypeInfo} (ht : P.underlying T = some (.slice e)) (hu : P.underlying U = some .string) (hi : P.info? e = some ie) (hs1 : ie.size = 1) (hx : ev fr x = some (.slice (some ⟨b, 0, none⟩) m cap)) (hy : ev fr y = some (S s))
    (hat : At i ⟨b, true, .row (bC l) e (0, 0)⟩ H) (hroom : m + s.length ≤ cap) (hfit : m + s.length ≤ l.length) (hd : Nat.blt d n = true)
    (hk : G P c n k ops rest ((d, .slice (some ⟨b, 0, none⟩) (m + s.length) cap) :: fr) (putE (.row (bC (l.take m ++ s ++ l.drop (m + s.length))) e (0, 0)) i H)) : G P c n k ops (⟨some d, .call ⟨.builtin .append, #[x, y], #[T, U]⟩, ty, pos, aft, none⟩ :: rest) fr H := by
  refine G.eff (fun a w ha hw => ?_) hd hk
  have hb := hw.has _ hat.mem
  simp only [Blk.den] at hb
  have hsz : (⟨s.toArray⟩ : ByteArray).size = s.length := List.size_toArray
  have h := Lib.run_append_room_string (P := P) (w := w) T U ty e ie ht hu hi hs1 b m cap (bC l).toArray hb ⟨s.toArray⟩ (by rw [hsz]; exact hroom) (by rw [hsz]; simpa [bC, Lib.byteCells] using hfit)
  have e1 : ((bC l).toArray.toList.take m ++ Lib.strCells (⟨s.toArray⟩ : ByteArray) ++ (bC l).toArray.toList.drop (m + (⟨s.toArray⟩ : ByteArray).size)).toArray = (bC (l.take m ++ s ++ l.drop (m + s.length))).toArray := by
    rw [hsz]
    simp [bC, Lib.byteCells, Lib.strCells, List.map_take, List.map_drop]
  rw [e1, hsz] at h
  refine ⟨w.setRow b (bC (l.take m ++ s ++ l.drop (m + s.length))).toArray, ?_, ?_⟩
  · simp [execOp, resolve, invoke, builtin, ha.eval hx, ha.eval hy, h]
  · have := hw.upd (w' := w.setRow b (bC (l.take m ++ s ++ l.drop (m + s.length))).toArray) hat rfl (.row (bC (l.take m ++ s ++ l.drop (m + s.length))) e (0, 0)) (by simp [World.setRow])
      (by simp only [Blk.den]; simp [World.setRow, Array.getElem?_modify, hb]) (fun x hx => by simp only [World.setRow]; rw [Array.getElem?_modify, if_neg (fun e => hx e.symm)]) rfl rfl rfl
    exact this
theorem GC.ret3 {t u s : Nat} {v x y : Value} (hr : c.fn.results = #[.tmp t, .tmp u, .tmp s]) (hv : look t fr = some v) (hx : look u fr = some x) (hy : look s fr = some y) (hR : ∀ w, HF c.w0 c.D H w → c.R (.returned (.tuple #[v, x, y])) w) : GC P c n (.code .ret :: k) fr H := by
  intro hf a w ha hw b hb hk cs
  refine ⟨.returned _, w, _, hR w hw, .one step_ret, hb, rfl, ha.defers, hk, c.fn, by simpa [Frame.at, hb] using hf, ?_⟩
  have h1 := ha.at_ t v hv
  have h2 := ha.at_ u x hx
  have h3 := ha.at_ s y hy
  simp [results, hr, Frame.at, h1, h2, h3]
theorem V.neL {t u e : TypeId} {x : Operand} {p : Option Addr} {l cp : Nat} (hU : P.underlying t = some (.slice e)) (hx : ev fr x = some (.slice p l cp)) : Val P c n (.binOp .neq t x (.const (.slice none 0 0)) u) ty fr H (.bool (!p.isNone)) := by
  intro a w ha hw dst pos aft g
  have h1 : (Op.equal t (.slice p l cp) (.slice none 0 0)).run P w = .ok p.isNone w := eqIn_sl 9999 p l cp hU
  have hk : ∀ v : Value, a.eval (.const v) = v := fun _ => rfl
  simp [execOp, ha.eval hx, hk, eqGuard, binOp, h1]
theorem G.gd {P : Program} {c : Cx} {n : Nat} {k : List Item} {fr : SF} {H : SH} {ops : Array Oper} {rest : List Oper} {op : Op} {ty : TypeId} {d : Option Tmp} {j t : Nat} {b : Bool} {pos : String} {aft : Array Edge} (hj : (ops[j]?).bind (·.dst) = some t) (hb : look t fr = some (.bool b))
    (h : G P c n k ops (⟨d, op, ty, pos, aft, none⟩ :: rest) fr H) : G P c n k ops (⟨d, op, ty, pos, aft, some (j, b)⟩ :: rest) fr H := by
  intro hf a w ha hw
  have h1 := h hf a w ha hw
  have hy : yielded ops a.tmps j = some b := by simp [yielded, hj, ha.at_ t _ hb]
  have w1 : Region.wanted ⟨d, op, ty, pos, aft, some (j, b)⟩ (yielded ops a.tmps) = true := by simp [Region.wanted, hy]
  have w0 : Region.wanted ⟨d, op, ty, pos, aft, none⟩ (yielded ops a.tmps) = true := rfl
  unfold wpList at h1 ⊢
  rw [if_pos w0] at h1
  rw [if_pos w1]
  exact h1
theorem V.maxI {t u : TypeId} {x y : Operand} {kd : IntKind} {i j : Nat} (hx : ev fr x = some (.int kd (i : Int))) (hy : ev fr y = some (.int kd (j : Int))) : Val P c n (.call ⟨.builtin .max, #[x, y], #[t, u]⟩) ty fr H (.int kd ((max i j : Nat) : Int)) := by
  intro a w ha hw dst pos aft g
  have h := Go.run_max_int2 (P := P) (w := w) #[t, u] ty kd kd (i : Int) (j : Int)
  have e : (if ((j : Int) > (i : Int)) then (j : Int) else (i : Int)) = ((max i j : Nat) : Int) := by
    split <;> omega
  rw [e] at h
  simp [execOp, resolve, invoke, builtin, ha.eval hx, ha.eval hy, h]
end Bw
