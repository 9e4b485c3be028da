/- What small functions of the router do: findMethod, newNode, updateAllowHeader, addMethod. -/
import Derived.Test.YtekclaobeccbdaaDoorBa
import Derived.Test.YtekclaobeccbdaaDoorProg
import Derived.KernelRfl
import Derived.Lib.Buffer
import Derived.Lib.OthersKept
import Derived.Lib.UnsafeStr
import Derived.Test.YtekclaobeccbdaaDoorShelf
/- The places of fields, the order of evaluation: facts of the dump. Written by wip/facts.py. -/
namespace Go.Proofs
open Go Bw
theorem mixed : Tryd.prog.follows .mixedOrders = true := by kernel_rfl
theorem F23_0 : FF Tryd.prog 23 0 0 := .mk Tryd.underlying23 rfl Tryd.sizeOf9  -- Method
theorem F23_1 : FF Tryd.prog 23 1 1 := .mk Tryd.underlying23 rfl Tryd.sizeOf9  -- Path
theorem F23_2 : FF Tryd.prog 23 2 2 := .mk Tryd.underlying23 rfl Tryd.sizeOf9  -- Name
theorem F33_0 : FF Tryd.prog 33 0 0 := .mk Tryd.underlying33 rfl Tryd.sizeOf3  -- Number
theorem F33_1 : FF Tryd.prog 33 1 1 := .mk Tryd.underlying33 rfl Tryd.sizeOf9  -- Path
theorem F33_2 : FF Tryd.prog 33 2 2 := .mk Tryd.underlying33 rfl Tryd.sizeOf24  -- Names
theorem F33_3 : FF Tryd.prog 33 3 3 := .mk Tryd.underlying33 rfl Tryd.sizeOf24  -- Values
theorem F33_4 : FF Tryd.prog 33 4 4 := .mk Tryd.underlying33 rfl Tryd.sizeOf9  -- Allow
theorem F51_0 : FF Tryd.prog 51 0 0 := .mk Tryd.underlying51 rfl Tryd.sizeOf9  -- Method
theorem F51_1 : FF Tryd.prog 51 1 1 := .mk Tryd.underlying51 rfl Tryd.sizeOf9  -- Path
theorem F51_2 : FF Tryd.prog 51 2 2 := .mk Tryd.underlying51 rfl Tryd.sizeOf9  -- Name
theorem F81_0 : FF Tryd.prog 81 0 0 := .mk Tryd.underlying81 rfl Tryd.sizeOf9  -- Method
theorem F81_1 : FF Tryd.prog 81 1 1 := .mk Tryd.underlying81 rfl Tryd.sizeOf9  -- Path
theorem F81_2 : FF Tryd.prog 81 2 2 := .mk Tryd.underlying81 rfl Tryd.sizeOf9  -- Name
theorem F93_0 : FF Tryd.prog 93 0 0 := .mk Tryd.underlying93 rfl Tryd.sizeOf91  -- r
theorem F93_1 : FF Tryd.prog 93 1 1 := .mk Tryd.underlying93 rfl Tryd.sizeOf3  -- n
theorem F98_0 : FF Tryd.prog 98 0 0 := .mk Tryd.underlying98 rfl Tryd.sizeOf24  -- pvalues
theorem F98_1 : FF Tryd.prog 98 1 1 := .mk Tryd.underlying98 rfl Tryd.sizeOf24  -- pnames
theorem F98_2 : FF Tryd.prog 98 2 2 := .mk Tryd.underlying98 rfl Tryd.sizeOf95  -- handler
theorem F98_3 : FF Tryd.prog 98 3 3 := .mk Tryd.underlying98 rfl Tryd.sizeOf9  -- path
theorem F98_4 : FF Tryd.prog 98 4 4 := .mk Tryd.underlying98 rfl Tryd.sizeOf9  -- allow
theorem F125_0 : FF Tryd.prog 125 0 0 := .mk Tryd.underlying125 rfl Tryd.sizeOf83  -- Less
theorem F125_1 : FF Tryd.prog 125 1 1 := .mk Tryd.underlying125 rfl Tryd.sizeOf120  -- Swap
theorem F134_0 : FF Tryd.prog 134 0 0 := .mk Tryd.underlying134 rfl Tryd.sizeOf94  -- maxParam
theorem F139_0 : FF Tryd.prog 139 0 0 := .mk Tryd.underlying139 rfl Tryd.sizeOf136  -- tree
theorem F139_1 : FF Tryd.prog 139 1 1 := .mk Tryd.underlying139 rfl Tryd.sizeOf137  -- routes
theorem F139_2 : FF Tryd.prog 139 2 2 := .mk Tryd.underlying139 rfl Tryd.sizeOf132  -- echo
theorem F146_0 : FF Tryd.prog 146 0 0 := .mk Tryd.underlying146 rfl Tryd.sizeOf142  -- methods
theorem F146_1 : FF Tryd.prog 146 1 1 := .mk Tryd.underlying146 rfl Tryd.sizeOf136  -- parent
theorem F146_2 : FF Tryd.prog 146 2 2 := .mk Tryd.underlying146 rfl Tryd.sizeOf136  -- paramChild
theorem F146_3 : FF Tryd.prog 146 3 3 := .mk Tryd.underlying146 rfl Tryd.sizeOf136  -- anyChild
theorem F146_4 : FF Tryd.prog 146 4 4 := .mk Tryd.underlying146 rfl Tryd.sizeOf140  -- notFoundHandler
theorem F146_5 : FF Tryd.prog 146 5 5 := .mk Tryd.underlying146 rfl Tryd.sizeOf9  -- prefix
theorem F146_6 : FF Tryd.prog 146 6 6 := .mk Tryd.underlying146 rfl Tryd.sizeOf9  -- originalPath
theorem F146_7 : FF Tryd.prog 146 7 7 := .mk Tryd.underlying146 rfl Tryd.sizeOf144  -- staticChildren
theorem F146_8 : FF Tryd.prog 146 8 8 := .mk Tryd.underlying146 rfl Tryd.sizeOf3  -- paramsCount
theorem F146_9 : FF Tryd.prog 146 9 9 := .mk Tryd.underlying146 rfl Tryd.sizeOf5  -- label
theorem F146_10 : FF Tryd.prog 146 10 10 := .mk Tryd.underlying146 rfl Tryd.sizeOf141  -- kind
theorem F146_11 : FF Tryd.prog 146 11 11 := .mk Tryd.underlying146 rfl Tryd.sizeOf4  -- isLeaf
theorem F146_12 : FF Tryd.prog 146 12 12 := .mk Tryd.underlying146 rfl Tryd.sizeOf4  -- isHandler
theorem F152_0 : FF Tryd.prog 152 0 0 := .mk Tryd.underlying152 rfl Tryd.sizeOf95  -- handler
theorem F152_1 : FF Tryd.prog 152 1 1 := .mk Tryd.underlying152 rfl Tryd.sizeOf9  -- ppath
theorem F152_2 : FF Tryd.prog 152 2 2 := .mk Tryd.underlying152 rfl Tryd.sizeOf24  -- pnames
theorem F155_0 : FF Tryd.prog 155 0 0 := .mk Tryd.underlying155 rfl Tryd.sizeOf140  -- connect
theorem F155_1 : FF Tryd.prog 155 1 1 := .mk Tryd.underlying155 rfl Tryd.sizeOf140  -- delete
theorem F155_2 : FF Tryd.prog 155 2 2 := .mk Tryd.underlying155 rfl Tryd.sizeOf140  -- get
theorem F155_3 : FF Tryd.prog 155 3 3 := .mk Tryd.underlying155 rfl Tryd.sizeOf140  -- head
theorem F155_4 : FF Tryd.prog 155 4 4 := .mk Tryd.underlying155 rfl Tryd.sizeOf140  -- options
theorem F155_5 : FF Tryd.prog 155 5 5 := .mk Tryd.underlying155 rfl Tryd.sizeOf140  -- patch
theorem F155_6 : FF Tryd.prog 155 6 6 := .mk Tryd.underlying155 rfl Tryd.sizeOf140  -- post
theorem F155_7 : FF Tryd.prog 155 7 7 := .mk Tryd.underlying155 rfl Tryd.sizeOf140  -- propfind
theorem F155_8 : FF Tryd.prog 155 8 8 := .mk Tryd.underlying155 rfl Tryd.sizeOf140  -- put
theorem F155_9 : FF Tryd.prog 155 9 9 := .mk Tryd.underlying155 rfl Tryd.sizeOf140  -- trace
theorem F155_10 : FF Tryd.prog 155 10 10 := .mk Tryd.underlying155 rfl Tryd.sizeOf140  -- report
theorem F155_11 : FF Tryd.prog 155 11 11 := .mk Tryd.underlying155 rfl Tryd.sizeOf153  -- anyOther
theorem F155_12 : FF Tryd.prog 155 12 12 := .mk Tryd.underlying155 rfl Tryd.sizeOf9  -- allowHeader
theorem F175_0 : FF Tryd.prog 175 0 0 := .mk Tryd.underlying175 rfl Tryd.sizeOf58  -- buf
theorem F175_1 : FF Tryd.prog 175 1 1 := .mk Tryd.underlying175 rfl Tryd.sizeOf3  -- off
theorem F175_2 : FF Tryd.prog 175 2 2 := .mk Tryd.underlying175 rfl Tryd.sizeOf173  -- lastRead
end Go.Proofs

/- The router's node in memory: shapes. No program in sight. -/
namespace Bw
open Go

def PO : Option Nat → Value
  | none => Nil
  | some b => Pt b 0

theorem PO_isNone (p : Option Nat) : (match p with | none => (none : Option Addr) | some b => some ⟨b, 0, none⟩).isNone = p.isNone := by cases p <;> rfl

def nrow (m : Nat) (par pch ach nf : Option Nat) (pre orig : List UInt8) (sc : Value) (pc : Nat) (lab : UInt8) (kd : Nat) (leaf hdl : Bool) : List Value :=
  [Pt m 0, PO par, PO pch, PO ach, PO nf, S pre, S orig, sc, I pc, .int .u8 (lab.toNat : Int), .int .u8 (kd : Int), .bool leaf, .bool hdl]

def mrow (f : Nat → Option Nat) (mp : Option Nat) (hdr : List UInt8) : List Value :=
  [PO (f 0), PO (f 1), PO (f 2), PO (f 3), PO (f 4), PO (f 5), PO (f 6), PO (f 7), PO (f 8), PO (f 9), PO (f 10), .map mp, S hdr]

/-- the methods with a place of their own -/
def stdIx (m : List UInt8) : Option Nat :=
  if m = [67, 79, 78, 78, 69, 67, 84] then some 0 else
  if m = [68, 69, 76, 69, 84, 69] then some 1 else
  if m = [71, 69, 84] then some 2 else
  if m = [72, 69, 65, 68] then some 3 else
  if m = [79, 80, 84, 73, 79, 78, 83] then some 4 else
  if m = [80, 65, 84, 67, 72] then some 5 else
  if m = [80, 79, 83, 84] then some 6 else
  if m = [80, 82, 79, 80, 70, 73, 78, 68] then some 7 else
  if m = [80, 85, 84] then some 8 else
  if m = [84, 82, 65, 67, 69] then some 9 else
  if m = [82, 69, 80, 79, 82, 84] then some 10 else none

/-- 'echo_route_not_found' -/
def nfName : List UInt8 := [101, 99, 104, 111, 95, 114, 111, 117, 116, 101, 95, 110, 111, 116, 95, 102, 111, 117, 110, 100]

abbrev AL := List (List UInt8 × Nat)
def aGet : AL → List UInt8 → Option Nat
  | [], _ => none
  | (k, v) :: r, x => if k = x then some v else aGet r x
def aPut : AL → List UInt8 → Nat → AL
  | [], x, u => [(x, u)]
  | (k, v) :: r, x, u => if k = x then (k, u) :: r else (k, v) :: aPut r x u
def kvP (l : AL) : KV := l.map fun p => (p.1, Pt p.2 0)

theorem kvGet_kvP : ∀ (l : AL) (x : List UInt8), kvGet (kvP l) x = (aGet l x).map (Pt · 0)
  | [], x => rfl
  | (k, v) :: r, x => by
    simp only [kvP, List.map_cons, kvGet, aGet]
    by_cases h : k = x
    · simp [h]
    · rw [if_neg h, if_neg h]; exact kvGet_kvP r x
theorem kvPut_kvP : ∀ (l : AL) (x : List UInt8) (u : Nat), kvPut (kvP l) x (Pt u 0) = kvP (aPut l x u)
  | [], x, u => rfl
  | (k, v) :: r, x, u => by
    simp only [kvP, List.map_cons, kvPut, aPut]
    by_cases h : k = x
    · simp [h]
    · rw [if_neg h, if_neg h]
      have := kvPut_kvP r x u
      simp only [kvP] at this
      simp [this]

theorem PO_get (l : AL) (x : List UInt8) : (kvGet (kvP l) x).getD Nil = PO (aGet l x) := by
  rw [kvGet_kvP]; cases aGet l x <;> rfl

def getM (f : Nat → Option Nat) (l : AL) (m : List UInt8) : Option Nat :=
  match stdIx m with
  | some i => f i
  | none => aGet l m

def isH (f : Nat → Option Nat) (l : AL) : Bool :=
  (f 0).isSome || (f 1).isSome || (f 2).isSome || (f 3).isSome || (f 4).isSome || (f 5).isSome || (f 6).isSome || (f 7).isSome || (f 8).isSome || (f 9).isSome || (f 10).isSome || !l.isEmpty

/-- the map of the other methods: nil, or a block -/
def MapAt (w : World) : Option Nat → AL → Prop
  | none, l => l = []
  | some b, l => w.heap[b]? = some (mkM (kvP l))

theorem MapAt.of {w w' : World} {mp : Option Nat} {l : AL} (hkv : MapAt w mp l) (h : ∀ b, mp = some b → w'.heap[b]? = w.heap[b]?) : MapAt w' mp l := by
  cases mp with
  | none => exact hkv
  | some b => simp only [MapAt] at *; rw [h b rfl]; exact hkv
theorem MapAt.old {w w' : World} {H : SH} {mp : Option Nat} {l : AL} (hkv : MapAt w mp l) (h : HF w (fun _ => False) H w') : MapAt w' mp l := by
  cases mp with
  | none => exact hkv
  | some b => exact h.old hkv id

variable {P : Program} {c : Cx} {n : Nat} {k : List Item} {fr : SF} {H : SH} {ty : TypeId}

theorem V.neO {t e u : TypeId} {x : Operand} {p : Option Nat} (hU : P.underlying t = some (.pointer e)) (hx : ev fr x = some (PO p)) : Val P c n (.binOp .neq t x (.const Nil) u) ty fr H (.bool p.isSome) := by
  cases p with
  | none => exact V.neP (p := none) hU hx
  | some b => exact V.neP (p := some ⟨b, 0, none⟩) hU hx
theorem V.eqO {t e u : TypeId} {x : Operand} {p : Option Nat} (hU : P.underlying t = some (.pointer e)) (hx : ev fr x = some (PO p)) : Val P c n (.binOp .eql t x (.const Nil) u) ty fr H (.bool p.isNone) := by
  cases p with
  | none => exact V.eqP (p := none) hU hx
  | some b => exact V.eqP (p := some ⟨b, 0, none⟩) hU hx

theorem V.lenMC {t kt e : TypeId} {x : Operand} {p : Option Nat} {l : AL} (hU : P.underlying t = some (.map kt e)) (h : ev fr x = some (.map p)) (hm : MapAt c.w0 p l) (hD : ∀ b, p = some b → ¬ c.D b) :
    Val P c n (.call ⟨.builtin .len, #[x], #[t]⟩) ty fr H (I (l.length : Nat)) := by
  intro a w ha hw dst pos aft g
  cases p with
  | none =>
    simp only [MapAt] at hm
    subst hm
    simp [execOp, resolve, invoke, builtin, ha.eval h, Builtin.len_, underlying, hU, goInt]
  | some b =>
    have hb : w.heap[b]? = some (mkM (kvP l)) := hw.old hm (hD b rfl)
    have hg : (getObj b).run P w = .ok (.map (mkEL 0 (kvP l)).toArray (kvP l).length) w := by simp [getObj, Sem.run, hb, mkM]
    simp [execOp, resolve, invoke, builtin, ha.eval h, Builtin.len_, underlying, hU, goInt, hg, mkEL_length, kvP]

theorem cells_PO (p : Option Nat) : (PO p).cells = #[PO p] := by cases p <;> rfl
theorem cells_int (k : IntKind) (i : Int) : (Value.int k i).cells = #[.int k i] := rfl
theorem cells_bool (b : Bool) : (Value.bool b).cells = #[.bool b] := rfl
theorem cells_str (s : ByteArray) : (Value.string s).cells = #[.string s] := rfl
theorem cells_ptr (p : Option Addr) : (Value.pointer p).cells = #[.pointer p] := rfl
theorem cells_sl (p : Option Addr) (l c : Nat) : (Value.slice p l c).cells = #[.slice p l c] := rfl
theorem cells_map (p : Option Nat) : (Value.map p).cells = #[.map p] := rfl
theorem cells_agg (a : Array Value) : (Value.agg a).cells = a := rfl

def evp (fr : SF) : List (Nat × Operand) → Option (List (Nat × Value))
  | [] => some []
  | (i, x) :: r => match ev fr x, evp fr r with
    | some v, some vs => some ((i, v) :: vs)
    | _, _ => none

theorem Fr.evps {fr : SF} {n : Nat} {a : Act} (ha : Fr n fr a) : ∀ {xs : List (Nat × Operand)} {vs : List (Nat × Value)}, evp fr xs = some vs → xs.map (fun p => (p.1, a.eval p.2)) = vs
  | [], vs, h => by simp [evp] at h; simp [h]
  | (i, x) :: r, vs, h => by
    simp only [evp] at h
    split at h
    · rename_i v ws hv hws
      simp only [Option.some.injEq] at h
      subst h
      simp [ha.eval hv, ha.evps hws]
    · cases h

theorem V.bd {t : TypeId} {ps : List (Nat × Operand)} {vs : List (Nat × Value)} {v : Value} (he : evp fr ps = some vs) (hr : ∀ w, (Instr.build t vs.toArray).run P w = .ok v w) : Val P c n (.build t ps.toArray) ty fr H v := by
  intro a w ha hw dst pos aft g
  have := ha.evps he
  simp [execOp, this, hr]

end Bw

/- Contracts of the small functions of the router. Printed by wip/mk_e1.py. -/
namespace Go.Proofs
open Go Bw
set_option maxRecDepth 20000
theorem f92_any (w : World) (n m : Nat) (f : Nat → Option Nat) (mp : Option Nat) (kv : AL) (meth : List UInt8) (hn : w.cell? ⟨n, 0, none⟩ = some (Pt m 0)) (hm : ∀ i, i < 11 → w.cell? ⟨m, i, none⟩ = some (PO (f i)))
    (hmp : w.cell? ⟨m, 11, none⟩ = some (.map mp)) (hkv : MapAt w mp kv) :
    Calls Tryd.prog 92 #[Pt n 0, S meth] w fun e w' => e = .returned (PO (getM f kv meth)) ∧ HF w (fun _ => False) [] w' := by
  refine enter (fun _ => False) [] Tryd.func92 rfl Tryd.ntmps92 rfl rfl (HF.start w _) fun c hc => ?_
  subst hc
  refine GC.seq ?_
  refine GC.reg ?_  -- region 0, router.go:488
  refine G.v (V.asg rfl) rfl ?_
  refine G.nil ?_
  refine GC.seq ?_
  refine GC.reg ?_  -- region 1, router.go:489
  refine G.v (V.mv rfl) rfl ?_
  refine G.nil ?_
  refine GC.block ?_
  refine GC.seq ?_
  refine GC.reg ?_  -- region 3, router.go:490
  refine G.v (V.eqS rfl rfl) rfl ?_
  refine G.v (V.asg rfl) rfl ?_
  refine G.nil ?_
  refine GC.condD rfl (fun h15 => ?_) (fun h15 => ?_)
  · refine GC.seq ?_
    refine GC.reg ?_  -- region 4, router.go:491
    refine G.v (V.mv rfl) rfl ?_
    refine G.v (V.nc rfl) rfl ?_
    refine G.v (V.fa F146_0 rfl) rfl ?_
    refine G.v (V.ldC Tryd.isAgg142 rfl hn id) rfl ?_
    refine G.v (V.nc rfl) rfl ?_
    refine G.v (V.fa F155_0 rfl) rfl ?_
    refine G.v (V.ldC Tryd.isAgg140 rfl (hm 0 (by omega)) id) rfl ?_
    refine G.v (V.asg rfl) rfl ?_
    refine G.nil ?_
    refine GC.ret1 rfl rfl fun w' hw' => ⟨?_, hw'⟩
    have e : stdIx meth = some 0 := by rw [stdIx, if_pos h15]
    simp only [getM, e]
  refine GC.seq ?_
  refine GC.reg ?_  -- region 5, router.go:492
  refine G.v (V.eqS rfl rfl) rfl ?_
  refine G.v (V.asg rfl) rfl ?_
  refine G.nil ?_
  refine GC.condD rfl (fun h24 => ?_) (fun h24 => ?_)
  · refine GC.seq ?_
    refine GC.reg ?_  -- region 6, router.go:493
    refine G.v (V.mv rfl) rfl ?_
    refine G.v (V.nc rfl) rfl ?_
    refine G.v (V.fa F146_0 rfl) rfl ?_
    refine G.v (V.ldC Tryd.isAgg142 rfl hn id) rfl ?_
    refine G.v (V.nc rfl) rfl ?_
    refine G.v (V.fa F155_1 rfl) rfl ?_
    refine G.v (V.ldC Tryd.isAgg140 rfl (hm 1 (by omega)) id) rfl ?_
    refine G.v (V.asg rfl) rfl ?_
    refine G.nil ?_
    refine GC.ret1 rfl rfl fun w' hw' => ⟨?_, hw'⟩
    have e : stdIx meth = some 1 := by rw [stdIx, if_neg h15, if_pos h24]
    simp only [getM, e]
  refine GC.seq ?_
  refine GC.reg ?_  -- region 7, router.go:494
  refine G.v (V.eqS rfl rfl) rfl ?_
  refine G.v (V.asg rfl) rfl ?_
  refine G.nil ?_
  refine GC.condD rfl (fun h33 => ?_) (fun h33 => ?_)
  · refine GC.seq ?_
    refine GC.reg ?_  -- region 8, router.go:495
    refine G.v (V.mv rfl) rfl ?_
    refine G.v (V.nc rfl) rfl ?_
    refine G.v (V.fa F146_0 rfl) rfl ?_
    refine G.v (V.ldC Tryd.isAgg142 rfl hn id) rfl ?_
    refine G.v (V.nc rfl) rfl ?_
    refine G.v (V.fa F155_2 rfl) rfl ?_
    refine G.v (V.ldC Tryd.isAgg140 rfl (hm 2 (by omega)) id) rfl ?_
    refine G.v (V.asg rfl) rfl ?_
    refine G.nil ?_
    refine GC.ret1 rfl rfl fun w' hw' => ⟨?_, hw'⟩
    have e : stdIx meth = some 2 := by rw [stdIx, if_neg h15, if_neg h24, if_pos h33]
    simp only [getM, e]
  refine GC.seq ?_
  refine GC.reg ?_  -- region 9, router.go:496
  refine G.v (V.eqS rfl rfl) rfl ?_
  refine G.v (V.asg rfl) rfl ?_
  refine G.nil ?_
  refine GC.condD rfl (fun h42 => ?_) (fun h42 => ?_)
  · refine GC.seq ?_
    refine GC.reg ?_  -- region 10, router.go:497
    refine G.v (V.mv rfl) rfl ?_
    refine G.v (V.nc rfl) rfl ?_
    refine G.v (V.fa F146_0 rfl) rfl ?_
    refine G.v (V.ldC Tryd.isAgg142 rfl hn id) rfl ?_
    refine G.v (V.nc rfl) rfl ?_
    refine G.v (V.fa F155_3 rfl) rfl ?_
    refine G.v (V.ldC Tryd.isAgg140 rfl (hm 3 (by omega)) id) rfl ?_
    refine G.v (V.asg rfl) rfl ?_
    refine G.nil ?_
    refine GC.ret1 rfl rfl fun w' hw' => ⟨?_, hw'⟩
    have e : stdIx meth = some 3 := by rw [stdIx, if_neg h15, if_neg h24, if_neg h33, if_pos h42]
    simp only [getM, e]
  refine GC.seq ?_
  refine GC.reg ?_  -- region 11, router.go:498
  refine G.v (V.eqS rfl rfl) rfl ?_
  refine G.v (V.asg rfl) rfl ?_
  refine G.nil ?_
  refine GC.condD rfl (fun h51 => ?_) (fun h51 => ?_)
  · refine GC.seq ?_
    refine GC.reg ?_  -- region 12, router.go:499
    refine G.v (V.mv rfl) rfl ?_
    refine G.v (V.nc rfl) rfl ?_
    refine G.v (V.fa F146_0 rfl) rfl ?_
    refine G.v (V.ldC Tryd.isAgg142 rfl hn id) rfl ?_
    refine G.v (V.nc rfl) rfl ?_
    refine G.v (V.fa F155_4 rfl) rfl ?_
    refine G.v (V.ldC Tryd.isAgg140 rfl (hm 4 (by omega)) id) rfl ?_
    refine G.v (V.asg rfl) rfl ?_
    refine G.nil ?_
    refine GC.ret1 rfl rfl fun w' hw' => ⟨?_, hw'⟩
    have e : stdIx meth = some 4 := by rw [stdIx, if_neg h15, if_neg h24, if_neg h33, if_neg h42, if_pos h51]
    simp only [getM, e]
  refine GC.seq ?_
  refine GC.reg ?_  -- region 13, router.go:500
  refine G.v (V.eqS rfl rfl) rfl ?_
  refine G.v (V.asg rfl) rfl ?_
  refine G.nil ?_
  refine GC.condD rfl (fun h60 => ?_) (fun h60 => ?_)
  · refine GC.seq ?_
    refine GC.reg ?_  -- region 14, router.go:501
    refine G.v (V.mv rfl) rfl ?_
    refine G.v (V.nc rfl) rfl ?_
    refine G.v (V.fa F146_0 rfl) rfl ?_
    refine G.v (V.ldC Tryd.isAgg142 rfl hn id) rfl ?_
    refine G.v (V.nc rfl) rfl ?_
    refine G.v (V.fa F155_5 rfl) rfl ?_
    refine G.v (V.ldC Tryd.isAgg140 rfl (hm 5 (by omega)) id) rfl ?_
    refine G.v (V.asg rfl) rfl ?_
    refine G.nil ?_
    refine GC.ret1 rfl rfl fun w' hw' => ⟨?_, hw'⟩
    have e : stdIx meth = some 5 := by rw [stdIx, if_neg h15, if_neg h24, if_neg h33, if_neg h42, if_neg h51, if_pos h60]
    simp only [getM, e]
  refine GC.seq ?_
  refine GC.reg ?_  -- region 15, router.go:502
  refine G.v (V.eqS rfl rfl) rfl ?_
  refine G.v (V.asg rfl) rfl ?_
  refine G.nil ?_
  refine GC.condD rfl (fun h69 => ?_) (fun h69 => ?_)
  · refine GC.seq ?_
    refine GC.reg ?_  -- region 16, router.go:503
    refine G.v (V.mv rfl) rfl ?_
    refine G.v (V.nc rfl) rfl ?_
    refine G.v (V.fa F146_0 rfl) rfl ?_
    refine G.v (V.ldC Tryd.isAgg142 rfl hn id) rfl ?_
    refine G.v (V.nc rfl) rfl ?_
    refine G.v (V.fa F155_6 rfl) rfl ?_
    refine G.v (V.ldC Tryd.isAgg140 rfl (hm 6 (by omega)) id) rfl ?_
    refine G.v (V.asg rfl) rfl ?_
    refine G.nil ?_
    refine GC.ret1 rfl rfl fun w' hw' => ⟨?_, hw'⟩
    have e : stdIx meth = some 6 := by rw [stdIx, if_neg h15, if_neg h24, if_neg h33, if_neg h42, if_neg h51, if_neg h60, if_pos h69]
    simp only [getM, e]
  refine GC.seq ?_
  refine GC.reg ?_  -- region 17, router.go:504
  refine G.v (V.eqS rfl rfl) rfl ?_
  refine G.v (V.asg rfl) rfl ?_
  refine G.nil ?_
  refine GC.condD rfl (fun h78 => ?_) (fun h78 => ?_)
  · refine GC.seq ?_
    refine GC.reg ?_  -- region 18, router.go:505
    refine G.v (V.mv rfl) rfl ?_
    refine G.v (V.nc rfl) rfl ?_
    refine G.v (V.fa F146_0 rfl) rfl ?_
    refine G.v (V.ldC Tryd.isAgg142 rfl hn id) rfl ?_
    refine G.v (V.nc rfl) rfl ?_
    refine G.v (V.fa F155_7 rfl) rfl ?_
    refine G.v (V.ldC Tryd.isAgg140 rfl (hm 7 (by omega)) id) rfl ?_
    refine G.v (V.asg rfl) rfl ?_
    refine G.nil ?_
    refine GC.ret1 rfl rfl fun w' hw' => ⟨?_, hw'⟩
    have e : stdIx meth = some 7 := by rw [stdIx, if_neg h15, if_neg h24, if_neg h33, if_neg h42, if_neg h51, if_neg h60, if_neg h69, if_pos h78]
    simp only [getM, e]
  refine GC.seq ?_
  refine GC.reg ?_  -- region 19, router.go:506
  refine G.v (V.eqS rfl rfl) rfl ?_
  refine G.v (V.asg rfl) rfl ?_
  refine G.nil ?_
  refine GC.condD rfl (fun h87 => ?_) (fun h87 => ?_)
  · refine GC.seq ?_
    refine GC.reg ?_  -- region 20, router.go:507
    refine G.v (V.mv rfl) rfl ?_
    refine G.v (V.nc rfl) rfl ?_
    refine G.v (V.fa F146_0 rfl) rfl ?_
    refine G.v (V.ldC Tryd.isAgg142 rfl hn id) rfl ?_
    refine G.v (V.nc rfl) rfl ?_
    refine G.v (V.fa F155_8 rfl) rfl ?_
    refine G.v (V.ldC Tryd.isAgg140 rfl (hm 8 (by omega)) id) rfl ?_
    refine G.v (V.asg rfl) rfl ?_
    refine G.nil ?_
    refine GC.ret1 rfl rfl fun w' hw' => ⟨?_, hw'⟩
    have e : stdIx meth = some 8 := by rw [stdIx, if_neg h15, if_neg h24, if_neg h33, if_neg h42, if_neg h51, if_neg h60, if_neg h69, if_neg h78, if_pos h87]
    simp only [getM, e]
  refine GC.seq ?_
  refine GC.reg ?_  -- region 21, router.go:508
  refine G.v (V.eqS rfl rfl) rfl ?_
  refine G.v (V.asg rfl) rfl ?_
  refine G.nil ?_
  refine GC.condD rfl (fun h96 => ?_) (fun h96 => ?_)
  · refine GC.seq ?_
    refine GC.reg ?_  -- region 22, router.go:509
    refine G.v (V.mv rfl) rfl ?_
    refine G.v (V.nc rfl) rfl ?_
    refine G.v (V.fa F146_0 rfl) rfl ?_
    refine G.v (V.ldC Tryd.isAgg142 rfl hn id) rfl ?_
    refine G.v (V.nc rfl) rfl ?_
    refine G.v (V.fa F155_9 rfl) rfl ?_
    refine G.v (V.ldC Tryd.isAgg140 rfl (hm 9 (by omega)) id) rfl ?_
    refine G.v (V.asg rfl) rfl ?_
    refine G.nil ?_
    refine GC.ret1 rfl rfl fun w' hw' => ⟨?_, hw'⟩
    have e : stdIx meth = some 9 := by rw [stdIx, if_neg h15, if_neg h24, if_neg h33, if_neg h42, if_neg h51, if_neg h60, if_neg h69, if_neg h78, if_neg h87, if_pos h96]
    simp only [getM, e]
  refine GC.seq ?_
  refine GC.reg ?_  -- region 23, router.go:510
  refine G.v (V.eqS rfl rfl) rfl ?_
  refine G.v (V.asg rfl) rfl ?_
  refine G.nil ?_
  refine GC.condD rfl (fun h105 => ?_) (fun h105 => ?_)
  · refine GC.seq ?_
    refine GC.reg ?_  -- region 24, router.go:511
    refine G.v (V.mv rfl) rfl ?_
    refine G.v (V.nc rfl) rfl ?_
    refine G.v (V.fa F146_0 rfl) rfl ?_
    refine G.v (V.ldC Tryd.isAgg142 rfl hn id) rfl ?_
    refine G.v (V.nc rfl) rfl ?_
    refine G.v (V.fa F155_10 rfl) rfl ?_
    refine G.v (V.ldC Tryd.isAgg140 rfl (hm 10 (by omega)) id) rfl ?_
    refine G.v (V.asg rfl) rfl ?_
    refine G.nil ?_
    refine GC.ret1 rfl rfl fun w' hw' => ⟨?_, hw'⟩
    have e : stdIx meth = some 10 := by rw [stdIx, if_neg h15, if_neg h24, if_neg h33, if_neg h42, if_neg h51, if_neg h60, if_neg h69, if_neg h78, if_neg h87, if_neg h96, if_pos h105]
    simp only [getM, e]
  refine GC.seq ?_
  refine GC.reg ?_  -- region 2, router.go:513
  refine G.v (V.mv rfl) rfl ?_
  refine G.v (V.nc rfl) rfl ?_
  refine G.v (V.fa F146_0 rfl) rfl ?_
  refine G.v (V.ldC Tryd.isAgg142 rfl hn id) rfl ?_
  refine G.v (V.nc rfl) rfl ?_
  refine G.v (V.fa F155_11 rfl) rfl ?_
  refine G.v (V.ldC Tryd.isAgg153 rfl hmp id) rfl ?_
  refine G.v (V.mv rfl) rfl ?_
  refine G.v (v := PO (aGet kv meth)) (show Val _ _ _ _ _ _ _ _ from ?_) rfl ?_
  · rcases mp with _ | mb
    · simp only [MapAt] at hkv; subst hkv; exact V.lkN Tryd.underlying153 Tryd.underlying9 Tryd.zeroValue140 rfl rfl
    · rw [← PO_get]; exact V.lkC Tryd.underlying153 Tryd.underlying9 Tryd.zeroValue140 rfl rfl hkv id
  refine G.v (V.asg rfl) rfl ?_
  refine G.nil ?_
  refine GC.ret1 rfl rfl fun w' hw' => ⟨?_, hw'⟩
  have e : stdIx meth = none := by rw [stdIx, if_neg h15, if_neg h24, if_neg h33, if_neg h42, if_neg h51, if_neg h60, if_neg h69, if_neg h78, if_neg h87, if_neg h96, if_neg h105]
  simp only [getM, e]
theorem f145_any (w : World) (m : Nat) (f : Nat → Option Nat) (mp : Option Nat) (kv : AL) (hm : ∀ i, i < 11 → w.cell? ⟨m, i, none⟩ = some (PO (f i)))
    (hmp : w.cell? ⟨m, 11, none⟩ = some (.map mp)) (hkv : MapAt w mp kv) :
    Calls Tryd.prog 145 #[Pt m 0] w fun e w' => e = .returned (.bool (isH f kv)) ∧ HF w (fun _ => False) [] w' := by
  refine enter (fun _ => False) [] Tryd.func145 rfl Tryd.ntmps145 rfl rfl (HF.start w _) fun c hc => ?_
  subst hc
  refine GC.seq ?_
  refine GC.reg ?_  -- region 0, router.go:71
  refine G.v (V.asg rfl) rfl ?_
  refine G.nil ?_
  refine GC.seq ?_
  refine GC.reg ?_  -- region 1, router.go:72
  refine G.v (V.mv rfl) rfl ?_
  refine G.v (V.nc rfl) rfl ?_
  refine G.v (V.fa F155_0 rfl) rfl ?_
  refine G.v (V.ldC Tryd.isAgg140 rfl (hm 0 (by omega)) id) rfl ?_
  refine G.v (V.neO Tryd.underlying140 rfl) rfl ?_
  refine G.v (V.mv rfl) rfl ?_
  refine G.bc 8 rfl (fun h8 => ?_) (fun h8 => ?_)
  · refine G.sg rfl rfl rfl rfl rfl rfl ?_
    refine G.sg rfl rfl rfl rfl rfl rfl ?_
    refine G.sg rfl rfl rfl rfl rfl rfl ?_
    refine G.sg rfl rfl rfl rfl rfl rfl ?_
    refine G.sg rfl rfl rfl rfl rfl rfl ?_
    refine G.v (V.pickT rfl rfl) rfl ?_
    refine G.v (V.mv rfl) rfl ?_
    refine G.sg rfl rfl rfl rfl rfl rfl ?_
    refine G.sg rfl rfl rfl rfl rfl rfl ?_
    refine G.sg rfl rfl rfl rfl rfl rfl ?_
    refine G.sg rfl rfl rfl rfl rfl rfl ?_
    refine G.sg rfl rfl rfl rfl rfl rfl ?_
    refine G.v (V.pickT rfl rfl) rfl ?_
    refine G.v (V.mv rfl) rfl ?_
    refine G.sg rfl rfl rfl rfl rfl rfl ?_
    refine G.sg rfl rfl rfl rfl rfl rfl ?_
    refine G.sg rfl rfl rfl rfl rfl rfl ?_
    refine G.sg rfl rfl rfl rfl rfl rfl ?_
    refine G.sg rfl rfl rfl rfl rfl rfl ?_
    refine G.v (V.pickT rfl rfl) rfl ?_
    refine G.v (V.mv rfl) rfl ?_
    refine G.sg rfl rfl rfl rfl rfl rfl ?_
    refine G.sg rfl rfl rfl rfl rfl rfl ?_
    refine G.sg rfl rfl rfl rfl rfl rfl ?_
    refine G.sg rfl rfl rfl rfl rfl rfl ?_
    refine G.sg rfl rfl rfl rfl rfl rfl ?_
    refine G.v (V.pickT rfl rfl) rfl ?_
    refine G.v (V.mv rfl) rfl ?_
    refine G.sg rfl rfl rfl rfl rfl rfl ?_
    refine G.sg rfl rfl rfl rfl rfl rfl ?_
    refine G.sg rfl rfl rfl rfl rfl rfl ?_
    refine G.sg rfl rfl rfl rfl rfl rfl ?_
    refine G.sg rfl rfl rfl rfl rfl rfl ?_
    refine G.v (V.pickT rfl rfl) rfl ?_
    refine G.v (V.mv rfl) rfl ?_
    refine G.sg rfl rfl rfl rfl rfl rfl ?_
    refine G.sg rfl rfl rfl rfl rfl rfl ?_
    refine G.sg rfl rfl rfl rfl rfl rfl ?_
    refine G.sg rfl rfl rfl rfl rfl rfl ?_
    refine G.sg rfl rfl rfl rfl rfl rfl ?_
    refine G.v (V.pickT rfl rfl) rfl ?_
    refine G.v (V.mv rfl) rfl ?_
    refine G.sg rfl rfl rfl rfl rfl rfl ?_
    refine G.sg rfl rfl rfl rfl rfl rfl ?_
    refine G.sg rfl rfl rfl rfl rfl rfl ?_
    refine G.sg rfl rfl rfl rfl rfl rfl ?_
    refine G.sg rfl rfl rfl rfl rfl rfl ?_
    refine G.v (V.pickT rfl rfl) rfl ?_
    refine G.v (V.mv rfl) rfl ?_
    refine G.sg rfl rfl rfl rfl rfl rfl ?_
    refine G.sg rfl rfl rfl rfl rfl rfl ?_
    refine G.sg rfl rfl rfl rfl rfl rfl ?_
    refine G.sg rfl rfl rfl rfl rfl rfl ?_
    refine G.sg rfl rfl rfl rfl rfl rfl ?_
    refine G.v (V.pickT rfl rfl) rfl ?_
    refine G.v (V.mv rfl) rfl ?_
    refine G.sg rfl rfl rfl rfl rfl rfl ?_
    refine G.sg rfl rfl rfl rfl rfl rfl ?_
    refine G.sg rfl rfl rfl rfl rfl rfl ?_
    refine G.sg rfl rfl rfl rfl rfl rfl ?_
    refine G.sg rfl rfl rfl rfl rfl rfl ?_
    refine G.v (V.pickT rfl rfl) rfl ?_
    refine G.v (V.mv rfl) rfl ?_
    refine G.sg rfl rfl rfl rfl rfl rfl ?_
    refine G.sg rfl rfl rfl rfl rfl rfl ?_
    refine G.sg rfl rfl rfl rfl rfl rfl ?_
    refine G.sg rfl rfl rfl rfl rfl rfl ?_
    refine G.sg rfl rfl rfl rfl rfl rfl ?_
    refine G.v (V.pickT rfl rfl) rfl ?_
    refine G.v (V.mv rfl) rfl ?_
    refine G.sg rfl rfl rfl rfl rfl rfl ?_
    refine G.sg rfl rfl rfl rfl rfl rfl ?_
    refine G.sg rfl rfl rfl rfl rfl rfl ?_
    refine G.sg rfl rfl rfl rfl rfl rfl ?_
    refine G.sg rfl rfl rfl rfl rfl rfl ?_
    refine G.sg rfl rfl rfl rfl rfl rfl ?_
    refine G.v (V.pickT rfl rfl) rfl ?_
    refine G.v (V.asg rfl) rfl ?_
    refine G.nil ?_
    refine GC.ret1 rfl rfl fun w' hw' => ⟨?_, hw'⟩
    have hL : (!decide ((kv.length : Int) = 0)) = !kv.isEmpty := by cases kv <;> simp <;> omega
    simp only [isH]
    first | (simp [*]; done) | (simp_all; done)
  · refine G.vg rfl rfl (V.mv rfl) rfl ?_
    refine G.vg rfl rfl (V.nc rfl) rfl ?_
    refine G.vg rfl rfl (V.fa F155_1 rfl) rfl ?_
    refine G.vg rfl rfl (V.ldC Tryd.isAgg140 rfl (hm 1 (by omega)) id) rfl ?_
    refine G.vg rfl rfl (V.neO Tryd.underlying140 rfl) rfl ?_
    refine G.v (V.pickF rfl rfl) rfl ?_
    refine G.v (V.mv rfl) rfl ?_
    refine G.bc 15 rfl (fun h15 => ?_) (fun h15 => ?_)
    · refine G.sg rfl rfl rfl rfl rfl rfl ?_
      refine G.sg rfl rfl rfl rfl rfl rfl ?_
      refine G.sg rfl rfl rfl rfl rfl rfl ?_
      refine G.sg rfl rfl rfl rfl rfl rfl ?_
      refine G.sg rfl rfl rfl rfl rfl rfl ?_
      refine G.v (V.pickT rfl rfl) rfl ?_
      refine G.v (V.mv rfl) rfl ?_
      refine G.sg rfl rfl rfl rfl rfl rfl ?_
      refine G.sg rfl rfl rfl rfl rfl rfl ?_
      refine G.sg rfl rfl rfl rfl rfl rfl ?_
      refine G.sg rfl rfl rfl rfl rfl rfl ?_
      refine G.sg rfl rfl rfl rfl rfl rfl ?_
      refine G.v (V.pickT rfl rfl) rfl ?_
      refine G.v (V.mv rfl) rfl ?_
      refine G.sg rfl rfl rfl rfl rfl rfl ?_
      refine G.sg rfl rfl rfl rfl rfl rfl ?_
      refine G.sg rfl rfl rfl rfl rfl rfl ?_
      refine G.sg rfl rfl rfl rfl rfl rfl ?_
      refine G.sg rfl rfl rfl rfl rfl rfl ?_
      refine G.v (V.pickT rfl rfl) rfl ?_
      refine G.v (V.mv rfl) rfl ?_
      refine G.sg rfl rfl rfl rfl rfl rfl ?_
      refine G.sg rfl rfl rfl rfl rfl rfl ?_
      refine G.sg rfl rfl rfl rfl rfl rfl ?_
      refine G.sg rfl rfl rfl rfl rfl rfl ?_
      refine G.sg rfl rfl rfl rfl rfl rfl ?_
      refine G.v (V.pickT rfl rfl) rfl ?_
      refine G.v (V.mv rfl) rfl ?_
      refine G.sg rfl rfl rfl rfl rfl rfl ?_
      refine G.sg rfl rfl rfl rfl rfl rfl ?_
      refine G.sg rfl rfl rfl rfl rfl rfl ?_
      refine G.sg rfl rfl rfl rfl rfl rfl ?_
      refine G.sg rfl rfl rfl rfl rfl rfl ?_
      refine G.v (V.pickT rfl rfl) rfl ?_
      refine G.v (V.mv rfl) rfl ?_
      refine G.sg rfl rfl rfl rfl rfl rfl ?_
      refine G.sg rfl rfl rfl rfl rfl rfl ?_
      refine G.sg rfl rfl rfl rfl rfl rfl ?_
      refine G.sg rfl rfl rfl rfl rfl rfl ?_
      refine G.sg rfl rfl rfl rfl rfl rfl ?_
      refine G.v (V.pickT rfl rfl) rfl ?_
      refine G.v (V.mv rfl) rfl ?_
      refine G.sg rfl rfl rfl rfl rfl rfl ?_
      refine G.sg rfl rfl rfl rfl rfl rfl ?_
      refine G.sg rfl rfl rfl rfl rfl rfl ?_
      refine G.sg rfl rfl rfl rfl rfl rfl ?_
      refine G.sg rfl rfl rfl rfl rfl rfl ?_
      refine G.v (V.pickT rfl rfl) rfl ?_
      refine G.v (V.mv rfl) rfl ?_
      refine G.sg rfl rfl rfl rfl rfl rfl ?_
      refine G.sg rfl rfl rfl rfl rfl rfl ?_
      refine G.sg rfl rfl rfl rfl rfl rfl ?_
      refine G.sg rfl rfl rfl rfl rfl rfl ?_
      refine G.sg rfl rfl rfl rfl rfl rfl ?_
      refine G.v (V.pickT rfl rfl) rfl ?_
      refine G.v (V.mv rfl) rfl ?_
      refine G.sg rfl rfl rfl rfl rfl rfl ?_
      refine G.sg rfl rfl rfl rfl rfl rfl ?_
      refine G.sg rfl rfl rfl rfl rfl rfl ?_
      refine G.sg rfl rfl rfl rfl rfl rfl ?_
      refine G.sg rfl rfl rfl rfl rfl rfl ?_
      refine G.v (V.pickT rfl rfl) rfl ?_
      refine G.v (V.mv rfl) rfl ?_
      refine G.sg rfl rfl rfl rfl rfl rfl ?_
      refine G.sg rfl rfl rfl rfl rfl rfl ?_
      refine G.sg rfl rfl rfl rfl rfl rfl ?_
      refine G.sg rfl rfl rfl rfl rfl rfl ?_
      refine G.sg rfl rfl rfl rfl rfl rfl ?_
      refine G.sg rfl rfl rfl rfl rfl rfl ?_
      refine G.v (V.pickT rfl rfl) rfl ?_
      refine G.v (V.asg rfl) rfl ?_
      refine G.nil ?_
      refine GC.ret1 rfl rfl fun w' hw' => ⟨?_, hw'⟩
      have hL : (!decide ((kv.length : Int) = 0)) = !kv.isEmpty := by cases kv <;> simp <;> omega
      simp only [isH]
      first | (simp [*]; done) | (simp_all; done)
    · refine G.vg rfl rfl (V.mv rfl) rfl ?_
      refine G.vg rfl rfl (V.nc rfl) rfl ?_
      refine G.vg rfl rfl (V.fa F155_2 rfl) rfl ?_
      refine G.vg rfl rfl (V.ldC Tryd.isAgg140 rfl (hm 2 (by omega)) id) rfl ?_
      refine G.vg rfl rfl (V.neO Tryd.underlying140 rfl) rfl ?_
      refine G.v (V.pickF rfl rfl) rfl ?_
      refine G.v (V.mv rfl) rfl ?_
      refine G.bc 22 rfl (fun h22 => ?_) (fun h22 => ?_)
      · refine G.sg rfl rfl rfl rfl rfl rfl ?_
        refine G.sg rfl rfl rfl rfl rfl rfl ?_
        refine G.sg rfl rfl rfl rfl rfl rfl ?_
        refine G.sg rfl rfl rfl rfl rfl rfl ?_
        refine G.sg rfl rfl rfl rfl rfl rfl ?_
        refine G.v (V.pickT rfl rfl) rfl ?_
        refine G.v (V.mv rfl) rfl ?_
        refine G.sg rfl rfl rfl rfl rfl rfl ?_
        refine G.sg rfl rfl rfl rfl rfl rfl ?_
        refine G.sg rfl rfl rfl rfl rfl rfl ?_
        refine G.sg rfl rfl rfl rfl rfl rfl ?_
        refine G.sg rfl rfl rfl rfl rfl rfl ?_
        refine G.v (V.pickT rfl rfl) rfl ?_
        refine G.v (V.mv rfl) rfl ?_
        refine G.sg rfl rfl rfl rfl rfl rfl ?_
        refine G.sg rfl rfl rfl rfl rfl rfl ?_
        refine G.sg rfl rfl rfl rfl rfl rfl ?_
        refine G.sg rfl rfl rfl rfl rfl rfl ?_
        refine G.sg rfl rfl rfl rfl rfl rfl ?_
        refine G.v (V.pickT rfl rfl) rfl ?_
        refine G.v (V.mv rfl) rfl ?_
        refine G.sg rfl rfl rfl rfl rfl rfl ?_
        refine G.sg rfl rfl rfl rfl rfl rfl ?_
        refine G.sg rfl rfl rfl rfl rfl rfl ?_
        refine G.sg rfl rfl rfl rfl rfl rfl ?_
        refine G.sg rfl rfl rfl rfl rfl rfl ?_
        refine G.v (V.pickT rfl rfl) rfl ?_
        refine G.v (V.mv rfl) rfl ?_
        refine G.sg rfl rfl rfl rfl rfl rfl ?_
        refine G.sg rfl rfl rfl rfl rfl rfl ?_
        refine G.sg rfl rfl rfl rfl rfl rfl ?_
        refine G.sg rfl rfl rfl rfl rfl rfl ?_
        refine G.sg rfl rfl rfl rfl rfl rfl ?_
        refine G.v (V.pickT rfl rfl) rfl ?_
        refine G.v (V.mv rfl) rfl ?_
        refine G.sg rfl rfl rfl rfl rfl rfl ?_
        refine G.sg rfl rfl rfl rfl rfl rfl ?_
        refine G.sg rfl rfl rfl rfl rfl rfl ?_
        refine G.sg rfl rfl rfl rfl rfl rfl ?_
        refine G.sg rfl rfl rfl rfl rfl rfl ?_
        refine G.v (V.pickT rfl rfl) rfl ?_
        refine G.v (V.mv rfl) rfl ?_
        refine G.sg rfl rfl rfl rfl rfl rfl ?_
        refine G.sg rfl rfl rfl rfl rfl rfl ?_
        refine G.sg rfl rfl rfl rfl rfl rfl ?_
        refine G.sg rfl rfl rfl rfl rfl rfl ?_
        refine G.sg rfl rfl rfl rfl rfl rfl ?_
        refine G.v (V.pickT rfl rfl) rfl ?_
        refine G.v (V.mv rfl) rfl ?_
        refine G.sg rfl rfl rfl rfl rfl rfl ?_
        refine G.sg rfl rfl rfl rfl rfl rfl ?_
        refine G.sg rfl rfl rfl rfl rfl rfl ?_
        refine G.sg rfl rfl rfl rfl rfl rfl ?_
        refine G.sg rfl rfl rfl rfl rfl rfl ?_
        refine G.v (V.pickT rfl rfl) rfl ?_
        refine G.v (V.mv rfl) rfl ?_
        refine G.sg rfl rfl rfl rfl rfl rfl ?_
        refine G.sg rfl rfl rfl rfl rfl rfl ?_
        refine G.sg rfl rfl rfl rfl rfl rfl ?_
        refine G.sg rfl rfl rfl rfl rfl rfl ?_
        refine G.sg rfl rfl rfl rfl rfl rfl ?_
        refine G.sg rfl rfl rfl rfl rfl rfl ?_
        refine G.v (V.pickT rfl rfl) rfl ?_
        refine G.v (V.asg rfl) rfl ?_
        refine G.nil ?_
        refine GC.ret1 rfl rfl fun w' hw' => ⟨?_, hw'⟩
        have hL : (!decide ((kv.length : Int) = 0)) = !kv.isEmpty := by cases kv <;> simp <;> omega
        simp only [isH]
        first | (simp [*]; done) | (simp_all; done)
      · refine G.vg rfl rfl (V.mv rfl) rfl ?_
        refine G.vg rfl rfl (V.nc rfl) rfl ?_
        refine G.vg rfl rfl (V.fa F155_3 rfl) rfl ?_
        refine G.vg rfl rfl (V.ldC Tryd.isAgg140 rfl (hm 3 (by omega)) id) rfl ?_
        refine G.vg rfl rfl (V.neO Tryd.underlying140 rfl) rfl ?_
        refine G.v (V.pickF rfl rfl) rfl ?_
        refine G.v (V.mv rfl) rfl ?_
        refine G.bc 29 rfl (fun h29 => ?_) (fun h29 => ?_)
        · refine G.sg rfl rfl rfl rfl rfl rfl ?_
          refine G.sg rfl rfl rfl rfl rfl rfl ?_
          refine G.sg rfl rfl rfl rfl rfl rfl ?_
          refine G.sg rfl rfl rfl rfl rfl rfl ?_
          refine G.sg rfl rfl rfl rfl rfl rfl ?_
          refine G.v (V.pickT rfl rfl) rfl ?_
          refine G.v (V.mv rfl) rfl ?_
          refine G.sg rfl rfl rfl rfl rfl rfl ?_
          refine G.sg rfl rfl rfl rfl rfl rfl ?_
          refine G.sg rfl rfl rfl rfl rfl rfl ?_
          refine G.sg rfl rfl rfl rfl rfl rfl ?_
          refine G.sg rfl rfl rfl rfl rfl rfl ?_
          refine G.v (V.pickT rfl rfl) rfl ?_
          refine G.v (V.mv rfl) rfl ?_
          refine G.sg rfl rfl rfl rfl rfl rfl ?_
          refine G.sg rfl rfl rfl rfl rfl rfl ?_
          refine G.sg rfl rfl rfl rfl rfl rfl ?_
          refine G.sg rfl rfl rfl rfl rfl rfl ?_
          refine G.sg rfl rfl rfl rfl rfl rfl ?_
          refine G.v (V.pickT rfl rfl) rfl ?_
          refine G.v (V.mv rfl) rfl ?_
          refine G.sg rfl rfl rfl rfl rfl rfl ?_
          refine G.sg rfl rfl rfl rfl rfl rfl ?_
          refine G.sg rfl rfl rfl rfl rfl rfl ?_
          refine G.sg rfl rfl rfl rfl rfl rfl ?_
          refine G.sg rfl rfl rfl rfl rfl rfl ?_
          refine G.v (V.pickT rfl rfl) rfl ?_
          refine G.v (V.mv rfl) rfl ?_
          refine G.sg rfl rfl rfl rfl rfl rfl ?_
          refine G.sg rfl rfl rfl rfl rfl rfl ?_
          refine G.sg rfl rfl rfl rfl rfl rfl ?_
          refine G.sg rfl rfl rfl rfl rfl rfl ?_
          refine G.sg rfl rfl rfl rfl rfl rfl ?_
          refine G.v (V.pickT rfl rfl) rfl ?_
          refine G.v (V.mv rfl) rfl ?_
          refine G.sg rfl rfl rfl rfl rfl rfl ?_
          refine G.sg rfl rfl rfl rfl rfl rfl ?_
          refine G.sg rfl rfl rfl rfl rfl rfl ?_
          refine G.sg rfl rfl rfl rfl rfl rfl ?_
          refine G.sg rfl rfl rfl rfl rfl rfl ?_
          refine G.v (V.pickT rfl rfl) rfl ?_
          refine G.v (V.mv rfl) rfl ?_
          refine G.sg rfl rfl rfl rfl rfl rfl ?_
          refine G.sg rfl rfl rfl rfl rfl rfl ?_
          refine G.sg rfl rfl rfl rfl rfl rfl ?_
          refine G.sg rfl rfl rfl rfl rfl rfl ?_
          refine G.sg rfl rfl rfl rfl rfl rfl ?_
          refine G.v (V.pickT rfl rfl) rfl ?_
          refine G.v (V.mv rfl) rfl ?_
          refine G.sg rfl rfl rfl rfl rfl rfl ?_
          refine G.sg rfl rfl rfl rfl rfl rfl ?_
          refine G.sg rfl rfl rfl rfl rfl rfl ?_
          refine G.sg rfl rfl rfl rfl rfl rfl ?_
          refine G.sg rfl rfl rfl rfl rfl rfl ?_
          refine G.sg rfl rfl rfl rfl rfl rfl ?_
          refine G.v (V.pickT rfl rfl) rfl ?_
          refine G.v (V.asg rfl) rfl ?_
          refine G.nil ?_
          refine GC.ret1 rfl rfl fun w' hw' => ⟨?_, hw'⟩
          have hL : (!decide ((kv.length : Int) = 0)) = !kv.isEmpty := by cases kv <;> simp <;> omega
          simp only [isH]
          first | (simp [*]; done) | (simp_all; done)
        · refine G.vg rfl rfl (V.mv rfl) rfl ?_
          refine G.vg rfl rfl (V.nc rfl) rfl ?_
          refine G.vg rfl rfl (V.fa F155_4 rfl) rfl ?_
          refine G.vg rfl rfl (V.ldC Tryd.isAgg140 rfl (hm 4 (by omega)) id) rfl ?_
          refine G.vg rfl rfl (V.neO Tryd.underlying140 rfl) rfl ?_
          refine G.v (V.pickF rfl rfl) rfl ?_
          refine G.v (V.mv rfl) rfl ?_
          refine G.bc 36 rfl (fun h36 => ?_) (fun h36 => ?_)
          · refine G.sg rfl rfl rfl rfl rfl rfl ?_
            refine G.sg rfl rfl rfl rfl rfl rfl ?_
            refine G.sg rfl rfl rfl rfl rfl rfl ?_
            refine G.sg rfl rfl rfl rfl rfl rfl ?_
            refine G.sg rfl rfl rfl rfl rfl rfl ?_
            refine G.v (V.pickT rfl rfl) rfl ?_
            refine G.v (V.mv rfl) rfl ?_
            refine G.sg rfl rfl rfl rfl rfl rfl ?_
            refine G.sg rfl rfl rfl rfl rfl rfl ?_
            refine G.sg rfl rfl rfl rfl rfl rfl ?_
            refine G.sg rfl rfl rfl rfl rfl rfl ?_
            refine G.sg rfl rfl rfl rfl rfl rfl ?_
            refine G.v (V.pickT rfl rfl) rfl ?_
            refine G.v (V.mv rfl) rfl ?_
            refine G.sg rfl rfl rfl rfl rfl rfl ?_
            refine G.sg rfl rfl rfl rfl rfl rfl ?_
            refine G.sg rfl rfl rfl rfl rfl rfl ?_
            refine G.sg rfl rfl rfl rfl rfl rfl ?_
            refine G.sg rfl rfl rfl rfl rfl rfl ?_
            refine G.v (V.pickT rfl rfl) rfl ?_
            refine G.v (V.mv rfl) rfl ?_
            refine G.sg rfl rfl rfl rfl rfl rfl ?_
            refine G.sg rfl rfl rfl rfl rfl rfl ?_
            refine G.sg rfl rfl rfl rfl rfl rfl ?_
            refine G.sg rfl rfl rfl rfl rfl rfl ?_
            refine G.sg rfl rfl rfl rfl rfl rfl ?_
            refine G.v (V.pickT rfl rfl) rfl ?_
            refine G.v (V.mv rfl) rfl ?_
            refine G.sg rfl rfl rfl rfl rfl rfl ?_
            refine G.sg rfl rfl rfl rfl rfl rfl ?_
            refine G.sg rfl rfl rfl rfl rfl rfl ?_
            refine G.sg rfl rfl rfl rfl rfl rfl ?_
            refine G.sg rfl rfl rfl rfl rfl rfl ?_
            refine G.v (V.pickT rfl rfl) rfl ?_
            refine G.v (V.mv rfl) rfl ?_
            refine G.sg rfl rfl rfl rfl rfl rfl ?_
            refine G.sg rfl rfl rfl rfl rfl rfl ?_
            refine G.sg rfl rfl rfl rfl rfl rfl ?_
            refine G.sg rfl rfl rfl rfl rfl rfl ?_
            refine G.sg rfl rfl rfl rfl rfl rfl ?_
            refine G.v (V.pickT rfl rfl) rfl ?_
            refine G.v (V.mv rfl) rfl ?_
            refine G.sg rfl rfl rfl rfl rfl rfl ?_
            refine G.sg rfl rfl rfl rfl rfl rfl ?_
            refine G.sg rfl rfl rfl rfl rfl rfl ?_
            refine G.sg rfl rfl rfl rfl rfl rfl ?_
            refine G.sg rfl rfl rfl rfl rfl rfl ?_
            refine G.sg rfl rfl rfl rfl rfl rfl ?_
            refine G.v (V.pickT rfl rfl) rfl ?_
            refine G.v (V.asg rfl) rfl ?_
            refine G.nil ?_
            refine GC.ret1 rfl rfl fun w' hw' => ⟨?_, hw'⟩
            have hL : (!decide ((kv.length : Int) = 0)) = !kv.isEmpty := by cases kv <;> simp <;> omega
            simp only [isH]
            first | (simp [*]; done) | (simp_all; done)
          · refine G.vg rfl rfl (V.mv rfl) rfl ?_
            refine G.vg rfl rfl (V.nc rfl) rfl ?_
            refine G.vg rfl rfl (V.fa F155_5 rfl) rfl ?_
            refine G.vg rfl rfl (V.ldC Tryd.isAgg140 rfl (hm 5 (by omega)) id) rfl ?_
            refine G.vg rfl rfl (V.neO Tryd.underlying140 rfl) rfl ?_
            refine G.v (V.pickF rfl rfl) rfl ?_
            refine G.v (V.mv rfl) rfl ?_
            refine G.bc 43 rfl (fun h43 => ?_) (fun h43 => ?_)
            · refine G.sg rfl rfl rfl rfl rfl rfl ?_
              refine G.sg rfl rfl rfl rfl rfl rfl ?_
              refine G.sg rfl rfl rfl rfl rfl rfl ?_
              refine G.sg rfl rfl rfl rfl rfl rfl ?_
              refine G.sg rfl rfl rfl rfl rfl rfl ?_
              refine G.v (V.pickT rfl rfl) rfl ?_
              refine G.v (V.mv rfl) rfl ?_
              refine G.sg rfl rfl rfl rfl rfl rfl ?_
              refine G.sg rfl rfl rfl rfl rfl rfl ?_
              refine G.sg rfl rfl rfl rfl rfl rfl ?_
              refine G.sg rfl rfl rfl rfl rfl rfl ?_
              refine G.sg rfl rfl rfl rfl rfl rfl ?_
              refine G.v (V.pickT rfl rfl) rfl ?_
              refine G.v (V.mv rfl) rfl ?_
              refine G.sg rfl rfl rfl rfl rfl rfl ?_
              refine G.sg rfl rfl rfl rfl rfl rfl ?_
              refine G.sg rfl rfl rfl rfl rfl rfl ?_
              refine G.sg rfl rfl rfl rfl rfl rfl ?_
              refine G.sg rfl rfl rfl rfl rfl rfl ?_
              refine G.v (V.pickT rfl rfl) rfl ?_
              refine G.v (V.mv rfl) rfl ?_
              refine G.sg rfl rfl rfl rfl rfl rfl ?_
              refine G.sg rfl rfl rfl rfl rfl rfl ?_
              refine G.sg rfl rfl rfl rfl rfl rfl ?_
              refine G.sg rfl rfl rfl rfl rfl rfl ?_
              refine G.sg rfl rfl rfl rfl rfl rfl ?_
              refine G.v (V.pickT rfl rfl) rfl ?_
              refine G.v (V.mv rfl) rfl ?_
              refine G.sg rfl rfl rfl rfl rfl rfl ?_
              refine G.sg rfl rfl rfl rfl rfl rfl ?_
              refine G.sg rfl rfl rfl rfl rfl rfl ?_
              refine G.sg rfl rfl rfl rfl rfl rfl ?_
              refine G.sg rfl rfl rfl rfl rfl rfl ?_
              refine G.v (V.pickT rfl rfl) rfl ?_
              refine G.v (V.mv rfl) rfl ?_
              refine G.sg rfl rfl rfl rfl rfl rfl ?_
              refine G.sg rfl rfl rfl rfl rfl rfl ?_
              refine G.sg rfl rfl rfl rfl rfl rfl ?_
              refine G.sg rfl rfl rfl rfl rfl rfl ?_
              refine G.sg rfl rfl rfl rfl rfl rfl ?_
              refine G.sg rfl rfl rfl rfl rfl rfl ?_
              refine G.v (V.pickT rfl rfl) rfl ?_
              refine G.v (V.asg rfl) rfl ?_
              refine G.nil ?_
              refine GC.ret1 rfl rfl fun w' hw' => ⟨?_, hw'⟩
              have hL : (!decide ((kv.length : Int) = 0)) = !kv.isEmpty := by cases kv <;> simp <;> omega
              simp only [isH]
              first | (simp [*]; done) | (simp_all; done)
            · refine G.vg rfl rfl (V.mv rfl) rfl ?_
              refine G.vg rfl rfl (V.nc rfl) rfl ?_
              refine G.vg rfl rfl (V.fa F155_6 rfl) rfl ?_
              refine G.vg rfl rfl (V.ldC Tryd.isAgg140 rfl (hm 6 (by omega)) id) rfl ?_
              refine G.vg rfl rfl (V.neO Tryd.underlying140 rfl) rfl ?_
              refine G.v (V.pickF rfl rfl) rfl ?_
              refine G.v (V.mv rfl) rfl ?_
              refine G.bc 50 rfl (fun h50 => ?_) (fun h50 => ?_)
              · refine G.sg rfl rfl rfl rfl rfl rfl ?_
                refine G.sg rfl rfl rfl rfl rfl rfl ?_
                refine G.sg rfl rfl rfl rfl rfl rfl ?_
                refine G.sg rfl rfl rfl rfl rfl rfl ?_
                refine G.sg rfl rfl rfl rfl rfl rfl ?_
                refine G.v (V.pickT rfl rfl) rfl ?_
                refine G.v (V.mv rfl) rfl ?_
                refine G.sg rfl rfl rfl rfl rfl rfl ?_
                refine G.sg rfl rfl rfl rfl rfl rfl ?_
                refine G.sg rfl rfl rfl rfl rfl rfl ?_
                refine G.sg rfl rfl rfl rfl rfl rfl ?_
                refine G.sg rfl rfl rfl rfl rfl rfl ?_
                refine G.v (V.pickT rfl rfl) rfl ?_
                refine G.v (V.mv rfl) rfl ?_
                refine G.sg rfl rfl rfl rfl rfl rfl ?_
                refine G.sg rfl rfl rfl rfl rfl rfl ?_
                refine G.sg rfl rfl rfl rfl rfl rfl ?_
                refine G.sg rfl rfl rfl rfl rfl rfl ?_
                refine G.sg rfl rfl rfl rfl rfl rfl ?_
                refine G.v (V.pickT rfl rfl) rfl ?_
                refine G.v (V.mv rfl) rfl ?_
                refine G.sg rfl rfl rfl rfl rfl rfl ?_
                refine G.sg rfl rfl rfl rfl rfl rfl ?_
                refine G.sg rfl rfl rfl rfl rfl rfl ?_
                refine G.sg rfl rfl rfl rfl rfl rfl ?_
                refine G.sg rfl rfl rfl rfl rfl rfl ?_
                refine G.v (V.pickT rfl rfl) rfl ?_
                refine G.v (V.mv rfl) rfl ?_
                refine G.sg rfl rfl rfl rfl rfl rfl ?_
                refine G.sg rfl rfl rfl rfl rfl rfl ?_
                refine G.sg rfl rfl rfl rfl rfl rfl ?_
                refine G.sg rfl rfl rfl rfl rfl rfl ?_
                refine G.sg rfl rfl rfl rfl rfl rfl ?_
                refine G.sg rfl rfl rfl rfl rfl rfl ?_
                refine G.v (V.pickT rfl rfl) rfl ?_
                refine G.v (V.asg rfl) rfl ?_
                refine G.nil ?_
                refine GC.ret1 rfl rfl fun w' hw' => ⟨?_, hw'⟩
                have hL : (!decide ((kv.length : Int) = 0)) = !kv.isEmpty := by cases kv <;> simp <;> omega
                simp only [isH]
                first | (simp [*]; done) | (simp_all; done)
              · refine G.vg rfl rfl (V.mv rfl) rfl ?_
                refine G.vg rfl rfl (V.nc rfl) rfl ?_
                refine G.vg rfl rfl (V.fa F155_7 rfl) rfl ?_
                refine G.vg rfl rfl (V.ldC Tryd.isAgg140 rfl (hm 7 (by omega)) id) rfl ?_
                refine G.vg rfl rfl (V.neO Tryd.underlying140 rfl) rfl ?_
                refine G.v (V.pickF rfl rfl) rfl ?_
                refine G.v (V.mv rfl) rfl ?_
                refine G.bc 57 rfl (fun h57 => ?_) (fun h57 => ?_)
                · refine G.sg rfl rfl rfl rfl rfl rfl ?_
                  refine G.sg rfl rfl rfl rfl rfl rfl ?_
                  refine G.sg rfl rfl rfl rfl rfl rfl ?_
                  refine G.sg rfl rfl rfl rfl rfl rfl ?_
                  refine G.sg rfl rfl rfl rfl rfl rfl ?_
                  refine G.v (V.pickT rfl rfl) rfl ?_
                  refine G.v (V.mv rfl) rfl ?_
                  refine G.sg rfl rfl rfl rfl rfl rfl ?_
                  refine G.sg rfl rfl rfl rfl rfl rfl ?_
                  refine G.sg rfl rfl rfl rfl rfl rfl ?_
                  refine G.sg rfl rfl rfl rfl rfl rfl ?_
                  refine G.sg rfl rfl rfl rfl rfl rfl ?_
                  refine G.v (V.pickT rfl rfl) rfl ?_
                  refine G.v (V.mv rfl) rfl ?_
                  refine G.sg rfl rfl rfl rfl rfl rfl ?_
                  refine G.sg rfl rfl rfl rfl rfl rfl ?_
                  refine G.sg rfl rfl rfl rfl rfl rfl ?_
                  refine G.sg rfl rfl rfl rfl rfl rfl ?_
                  refine G.sg rfl rfl rfl rfl rfl rfl ?_
                  refine G.v (V.pickT rfl rfl) rfl ?_
                  refine G.v (V.mv rfl) rfl ?_
                  refine G.sg rfl rfl rfl rfl rfl rfl ?_
                  refine G.sg rfl rfl rfl rfl rfl rfl ?_
                  refine G.sg rfl rfl rfl rfl rfl rfl ?_
                  refine G.sg rfl rfl rfl rfl rfl rfl ?_
                  refine G.sg rfl rfl rfl rfl rfl rfl ?_
                  refine G.sg rfl rfl rfl rfl rfl rfl ?_
                  refine G.v (V.pickT rfl rfl) rfl ?_
                  refine G.v (V.asg rfl) rfl ?_
                  refine G.nil ?_
                  refine GC.ret1 rfl rfl fun w' hw' => ⟨?_, hw'⟩
                  have hL : (!decide ((kv.length : Int) = 0)) = !kv.isEmpty := by cases kv <;> simp <;> omega
                  simp only [isH]
                  first | (simp [*]; done) | (simp_all; done)
                · refine G.vg rfl rfl (V.mv rfl) rfl ?_
                  refine G.vg rfl rfl (V.nc rfl) rfl ?_
                  refine G.vg rfl rfl (V.fa F155_8 rfl) rfl ?_
                  refine G.vg rfl rfl (V.ldC Tryd.isAgg140 rfl (hm 8 (by omega)) id) rfl ?_
                  refine G.vg rfl rfl (V.neO Tryd.underlying140 rfl) rfl ?_
                  refine G.v (V.pickF rfl rfl) rfl ?_
                  refine G.v (V.mv rfl) rfl ?_
                  refine G.bc 64 rfl (fun h64 => ?_) (fun h64 => ?_)
                  · refine G.sg rfl rfl rfl rfl rfl rfl ?_
                    refine G.sg rfl rfl rfl rfl rfl rfl ?_
                    refine G.sg rfl rfl rfl rfl rfl rfl ?_
                    refine G.sg rfl rfl rfl rfl rfl rfl ?_
                    refine G.sg rfl rfl rfl rfl rfl rfl ?_
                    refine G.v (V.pickT rfl rfl) rfl ?_
                    refine G.v (V.mv rfl) rfl ?_
                    refine G.sg rfl rfl rfl rfl rfl rfl ?_
                    refine G.sg rfl rfl rfl rfl rfl rfl ?_
                    refine G.sg rfl rfl rfl rfl rfl rfl ?_
                    refine G.sg rfl rfl rfl rfl rfl rfl ?_
                    refine G.sg rfl rfl rfl rfl rfl rfl ?_
                    refine G.v (V.pickT rfl rfl) rfl ?_
                    refine G.v (V.mv rfl) rfl ?_
                    refine G.sg rfl rfl rfl rfl rfl rfl ?_
                    refine G.sg rfl rfl rfl rfl rfl rfl ?_
                    refine G.sg rfl rfl rfl rfl rfl rfl ?_
                    refine G.sg rfl rfl rfl rfl rfl rfl ?_
                    refine G.sg rfl rfl rfl rfl rfl rfl ?_
                    refine G.sg rfl rfl rfl rfl rfl rfl ?_
                    refine G.v (V.pickT rfl rfl) rfl ?_
                    refine G.v (V.asg rfl) rfl ?_
                    refine G.nil ?_
                    refine GC.ret1 rfl rfl fun w' hw' => ⟨?_, hw'⟩
                    have hL : (!decide ((kv.length : Int) = 0)) = !kv.isEmpty := by cases kv <;> simp <;> omega
                    simp only [isH]
                    first | (simp [*]; done) | (simp_all; done)
                  · refine G.vg rfl rfl (V.mv rfl) rfl ?_
                    refine G.vg rfl rfl (V.nc rfl) rfl ?_
                    refine G.vg rfl rfl (V.fa F155_9 rfl) rfl ?_
                    refine G.vg rfl rfl (V.ldC Tryd.isAgg140 rfl (hm 9 (by omega)) id) rfl ?_
                    refine G.vg rfl rfl (V.neO Tryd.underlying140 rfl) rfl ?_
                    refine G.v (V.pickF rfl rfl) rfl ?_
                    refine G.v (V.mv rfl) rfl ?_
                    refine G.bc 71 rfl (fun h71 => ?_) (fun h71 => ?_)
                    · refine G.sg rfl rfl rfl rfl rfl rfl ?_
                      refine G.sg rfl rfl rfl rfl rfl rfl ?_
                      refine G.sg rfl rfl rfl rfl rfl rfl ?_
                      refine G.sg rfl rfl rfl rfl rfl rfl ?_
                      refine G.sg rfl rfl rfl rfl rfl rfl ?_
                      refine G.v (V.pickT rfl rfl) rfl ?_
                      refine G.v (V.mv rfl) rfl ?_
                      refine G.sg rfl rfl rfl rfl rfl rfl ?_
                      refine G.sg rfl rfl rfl rfl rfl rfl ?_
                      refine G.sg rfl rfl rfl rfl rfl rfl ?_
                      refine G.sg rfl rfl rfl rfl rfl rfl ?_
                      refine G.sg rfl rfl rfl rfl rfl rfl ?_
                      refine G.sg rfl rfl rfl rfl rfl rfl ?_
                      refine G.v (V.pickT rfl rfl) rfl ?_
                      refine G.v (V.asg rfl) rfl ?_
                      refine G.nil ?_
                      refine GC.ret1 rfl rfl fun w' hw' => ⟨?_, hw'⟩
                      have hL : (!decide ((kv.length : Int) = 0)) = !kv.isEmpty := by cases kv <;> simp <;> omega
                      simp only [isH]
                      first | (simp [*]; done) | (simp_all; done)
                    · refine G.vg rfl rfl (V.mv rfl) rfl ?_
                      refine G.vg rfl rfl (V.nc rfl) rfl ?_
                      refine G.vg rfl rfl (V.fa F155_10 rfl) rfl ?_
                      refine G.vg rfl rfl (V.ldC Tryd.isAgg140 rfl (hm 10 (by omega)) id) rfl ?_
                      refine G.vg rfl rfl (V.neO Tryd.underlying140 rfl) rfl ?_
                      refine G.v (V.pickF rfl rfl) rfl ?_
                      refine G.v (V.mv rfl) rfl ?_
                      refine G.bc 78 rfl (fun h78 => ?_) (fun h78 => ?_)
                      · refine G.sg rfl rfl rfl rfl rfl rfl ?_
                        refine G.sg rfl rfl rfl rfl rfl rfl ?_
                        refine G.sg rfl rfl rfl rfl rfl rfl ?_
                        refine G.sg rfl rfl rfl rfl rfl rfl ?_
                        refine G.sg rfl rfl rfl rfl rfl rfl ?_
                        refine G.sg rfl rfl rfl rfl rfl rfl ?_
                        refine G.v (V.pickT rfl rfl) rfl ?_
                        refine G.v (V.asg rfl) rfl ?_
                        refine G.nil ?_
                        refine GC.ret1 rfl rfl fun w' hw' => ⟨?_, hw'⟩
                        have hL : (!decide ((kv.length : Int) = 0)) = !kv.isEmpty := by cases kv <;> simp <;> omega
                        simp only [isH]
                        first | (simp [*]; done) | (simp_all; done)
                      · refine G.vg rfl rfl (V.mv rfl) rfl ?_
                        refine G.vg rfl rfl (V.nc rfl) rfl ?_
                        refine G.vg rfl rfl (V.fa F155_11 rfl) rfl ?_
                        refine G.vg rfl rfl (V.ldC Tryd.isAgg153 rfl hmp id) rfl ?_
                        refine G.vg rfl rfl (V.lenMC Tryd.underlying153 rfl hkv (fun _ _ h => h)) rfl ?_
                        refine G.vg rfl rfl (V.neI rfl rfl) rfl ?_
                        refine G.v (V.pickF rfl rfl) rfl ?_
                        refine G.v (V.asg rfl) rfl ?_
                        refine G.nil ?_
                        refine GC.ret1 rfl rfl fun w' hw' => ⟨?_, hw'⟩
                        have hL : (!decide ((kv.length : Int) = 0)) = !kv.isEmpty := by cases kv <;> simp <;> omega
                        simp only [isH]
                        first | (simp [*]; done) | (simp_all; done)
end Go.Proofs

/- Contracts of newNode, findStaticChild, findChildWithLabel, addStaticChild. Printed by wip/mk_e2.py. -/
namespace Go.Proofs
open Go Bw
set_option maxRecDepth 20000
set_option maxHeartbeats 2000000 in
theorem build146 (m : Nat) (par pch ach nf : Option Nat) (pre orig : List UInt8) (ad : Option Addr) (ln cp : Nat) (pc : Int) (lab kd : Int) (leaf hdl : Bool) (w : World) :
   (Instr.build 146 #[(10, .int .u8 kd), (9, .int .u8 lab), (5, S pre), (1, PO par), (7, .slice ad ln cp), (6, S orig), (0, Pt m 0), (8, I pc), (2, PO pch), (3, PO ach), (11, .bool leaf), (12, .bool hdl), (4, PO nf)]).run Tryd.prog w =
     .ok (.agg #[Pt m 0, PO par, PO pch, PO ach, PO nf, S pre, S orig, .slice ad ln cp, I pc, .int .u8 lab, .int .u8 kd, .bool leaf, .bool hdl]) w := by
  simp [Instr.build, Tryd.zeroValue146, Tryd.runUnderlying146, Tryd.sizeOf142, Tryd.sizeOf136, Tryd.sizeOf140, Tryd.sizeOf9, Tryd.sizeOf144, Tryd.sizeOf3, Tryd.sizeOf5, Tryd.sizeOf141, Tryd.sizeOf4, cells_agg, Instr.fill, cells_PO, cells_int, cells_bool, cells_str, cells_ptr, cells_sl]

theorem f140_any (w : World) (kd : Int) (lab : UInt8) (pre orig : List UInt8) (par pch ach nf : Option Nat) (ad : Option Addr) (ln cp : Nat) (m : Nat) (pc : Int) (f : Nat → Option Nat) (mp : Option Nat) (kv : AL)
    (hm : ∀ i, i < 11 → w.cell? ⟨m, i, none⟩ = some (PO (f i))) (hmp : w.cell? ⟨m, 11, none⟩ = some (.map mp)) (hkv : MapAt w mp kv) :
    Calls Tryd.prog 140 #[.int .u8 kd, S (lab :: pre), PO par, .slice ad ln cp, S orig, Pt m 0, I pc, PO pch, PO ach, PO nf] w fun e w' => ∃ b, e = .returned (Pt b 0) ∧
      HF w (fun _ => False) [⟨b, true, .row [Pt m 0, PO par, PO pch, PO ach, PO nf, S (lab :: pre), S orig, .slice ad ln cp, I pc, .int .u8 (lab.toNat : Int), .int .u8 kd, .bool (ad.isNone && pch.isNone && ach.isNone), .bool (isH f kv)] 146 (0, 0)⟩] w' := by
  refine enter (fun _ => False) [] Tryd.func140 rfl Tryd.ntmps140 rfl rfl (HF.start w _) fun c hc => ?_
  subst hc
  refine GC.seq ?_
  refine GC.reg ?_  -- region 0, router.go:391
  refine G.v (V.asg rfl) rfl ?_
  refine G.nil ?_
  refine GC.seq ?_
  refine GC.regU 25 mixed (by kernel_rfl) rfl rfl ?_  -- region 1, router.go:403
  refine GT.v (V.mv rfl) rfl ?_
  refine GT.v (V.mv rfl) rfl ?_
  refine GT.v (V.idx (i := 0) Tryd.underlying9 rfl rfl rfl) rfl ?_
  refine GT.v (V.mv rfl) rfl ?_
  refine GT.v (V.mv rfl) rfl ?_
  refine GT.v (V.mv rfl) rfl ?_
  refine GT.v (V.mv rfl) rfl ?_
  refine GT.v (V.mv rfl) rfl ?_
  refine GT.v (V.mv rfl) rfl ?_
  refine GT.v (V.mv rfl) rfl ?_
  refine GT.v (V.mv rfl) rfl ?_
  refine GT.v (V.mv rfl) rfl ?_
  refine GT.v (V.eqL Tryd.underlying144 rfl) rfl ?_
  refine GT.v (V.mv rfl) rfl ?_
  refine GT.bc 34 rfl (fun h34 => ?_) (fun h34 => ?_)
  · refine GT.vg rfl rfl (V.mv rfl) rfl ?_
    refine GT.vg rfl rfl (V.eqO Tryd.underlying136 rfl) rfl ?_
    refine GT.v (V.pickT rfl rfl) rfl ?_
    refine GT.v (V.mv rfl) rfl ?_
    refine GT.bc 38 rfl (fun h38 => ?_) (fun h38 => ?_)
    · refine GT.vg rfl rfl (V.mv rfl) rfl ?_
      refine GT.vg rfl rfl (V.eqO Tryd.underlying136 rfl) rfl ?_
      refine GT.v (V.pickT rfl rfl) rfl ?_
      refine GT.v (V.mv rfl) rfl ?_
      refine GT.callP Tryd.call145 rfl rfl (fun w1 hw1 => f145_any w1 m f mp kv (fun i hi => hw1.cellOld (hm i hi) id) (hw1.cellOld hmp id) (hkv.old hw1)) ?_
      refine GT.v (V.mv rfl) rfl ?_
      refine GT.v (V.bd rfl (build146 m par pch ach nf (lab :: pre) orig ad ln cp pc lab.toNat kd _ (isH f kv))) rfl ?_
      refine GT.nil ?_
      refine G.bx rfl rfl rfl (fun b hb => ?_)
      refine G.v (V.asg rfl) rfl ?_
      refine G.nil ?_
      refine GC.ret1 rfl rfl fun w' hw' => ⟨b, rfl, ?_⟩
      first | (rw [h34, h38]; exact hw') | (rw [h34]; exact hw')
    · refine GT.sg rfl rfl rfl rfl rfl rfl ?_
      refine GT.sg rfl rfl rfl rfl rfl rfl ?_
      refine GT.v (V.pickF rfl rfl) rfl ?_
      refine GT.v (V.mv rfl) rfl ?_
      refine GT.callP Tryd.call145 rfl rfl (fun w1 hw1 => f145_any w1 m f mp kv (fun i hi => hw1.cellOld (hm i hi) id) (hw1.cellOld hmp id) (hkv.old hw1)) ?_
      refine GT.v (V.mv rfl) rfl ?_
      refine GT.v (V.bd rfl (build146 m par pch ach nf (lab :: pre) orig ad ln cp pc lab.toNat kd _ (isH f kv))) rfl ?_
      refine GT.nil ?_
      refine G.bx rfl rfl rfl (fun b hb => ?_)
      refine G.v (V.asg rfl) rfl ?_
      refine G.nil ?_
      refine GC.ret1 rfl rfl fun w' hw' => ⟨b, rfl, ?_⟩
      first | (rw [h34, h38]; exact hw') | (rw [h34]; exact hw')
  · refine GT.sg rfl rfl rfl rfl rfl rfl ?_
    refine GT.sg rfl rfl rfl rfl rfl rfl ?_
    refine GT.v (V.pickF rfl rfl) rfl ?_
    refine GT.v (V.mv rfl) rfl ?_
    refine GT.sg rfl rfl rfl rfl rfl rfl ?_
    refine GT.sg rfl rfl rfl rfl rfl rfl ?_
    refine GT.v (V.pickF rfl rfl) rfl ?_
    refine GT.v (V.mv rfl) rfl ?_
    refine GT.callP Tryd.call145 rfl rfl (fun w1 hw1 => f145_any w1 m f mp kv (fun i hi => hw1.cellOld (hm i hi) id) (hw1.cellOld hmp id) (hkv.old hw1)) ?_
    refine GT.v (V.mv rfl) rfl ?_
    refine GT.v (V.bd rfl (build146 m par pch ach nf (lab :: pre) orig ad ln cp pc lab.toNat kd _ (isH f kv))) rfl ?_
    refine GT.nil ?_
    refine G.bx rfl rfl rfl (fun b hb => ?_)
    refine G.v (V.asg rfl) rfl ?_
    refine G.nil ?_
    refine GC.ret1 rfl rfl fun w' hw' => ⟨b, rfl, ?_⟩
    first | (rw [h34, h38]; exact hw') | (rw [h34]; exact hw')
set_option maxRecDepth 10000 in
theorem f93_any (w : World) (n : Nat) (l : UInt8) (ad : Option Addr) (cap : Nat) (kids : List (Nat × UInt8)) (hs : w.cell? ⟨n, 7, none⟩ = some (.slice ad kids.length cap)) (hz : kids.length < 9223372036854775807)
    (hk : ∀ i p, kids[i]? = some p → ∃ a, ad = some ⟨a, 0, none⟩ ∧ w.cell? ⟨a, i, none⟩ = some (Pt p.1 0) ∧ w.cell? ⟨p.1, 9, none⟩ = some (.int .u8 (p.2.toNat : Int))) :
    Calls Tryd.prog 93 #[Pt n 0, .int .u8 (l.toNat : Int)] w fun e w' => e = .returned (PO ((kids.find? fun p => p.2 == l).map (·.1))) ∧ HF w (fun _ => False) [] w' := by
  refine enter (fun _ => False) [] Tryd.func93 rfl Tryd.ntmps93 rfl rfl (HF.start w _) fun c hc => ?_
  subst hc
  refine GC.seq ?_
  refine GC.reg ?_  -- region 0
  refine G.v (V.asg rfl) rfl ?_  -- router.go:424 t4
  refine G.nil ?_
  refine GC.seq ?_
  refine GC.seq ?_
  refine GC.reg ?_  -- region 1
  refine G.v (V.mv rfl) rfl ?_  -- router.go:425 t7
  refine G.v (V.nc rfl) rfl ?_  -- router.go:425 t8
  refine G.v (V.fa F146_7 rfl) rfl ?_  -- router.go:425 t9
  refine G.v (V.ldC Tryd.isAgg144 rfl hs id) rfl ?_  -- router.go:425 t10
  refine G.v (V.lenL Tryd.underlying144 rfl) rfl ?_  -- router.go:425 t11
  refine G.v (V.mv rfl) rfl ?_  -- router.go:425 t12
  refine G.nil ?_
  refine GC.block ?_  -- block 0
  refine GC.loop ?_  -- LOOP
  refine GC.weak (fr' := [(0, Pt n 0), (1, .int .u8 (l.toNat : Int)), (10, .slice ad kids.length cap), (11, I (kids.length : Nat)), (12, I ((0 : Nat) : Int))]) (.cons rfl (.cons rfl (.cons rfl (.cons rfl (.cons rfl .nil))))) ?_
  suffices loop : ∀ m j : Nat, j + m = kids.length → ((kids.find? fun p => p.2 == l) = ((kids.drop j).find? fun p => p.2 == l)) →
      GC Tryd.prog ⟨93, Tryd.f93, _, w, fun _ => False⟩ 24 _ [(0, Pt n 0), (1, .int .u8 (l.toNat : Int)), (10, .slice ad kids.length cap), (11, I (kids.length : Nat)), (12, I (j : Int))] [] from
    loop _ 0 (Nat.zero_add _) rfl
  intro m
  induction m with
  | zero =>
    intro j hj hfind
    refine GC.seq ?_
    refine GC.reg ?_  -- region 2
    refine G.v (V.lt rfl rfl) rfl ?_  -- router.go:425 t13
    refine G.nil ?_
    refine GC.seq ?_
    refine GC.condD rfl (fun h => by omega) (fun h => ?_)  -- t13
    refine GC.exit rfl ?_  -- exit 0
    refine GC.seq ?_
    refine GC.reg ?_  -- region 7
    refine G.v (V.asg rfl) rfl ?_  -- router.go:430 t4
    refine G.nil ?_
    refine GC.ret1 rfl rfl fun w' hw' => ⟨?_, hw'⟩
    rw [hfind, List.drop_eq_nil_of_le (by omega)]; rfl
  | succ m ih =>
    intro j hj hfind
    refine GC.seq ?_
    refine GC.reg ?_  -- region 2
    refine G.v (V.lt rfl rfl) rfl ?_  -- router.go:425 t13
    refine G.nil ?_
    refine GC.seq ?_
    refine GC.condD rfl (fun h => ?_) (fun h => by omega)  -- t13
    have hlt : j < kids.length := by omega
    obtain ⟨a, rfl, hc1, hc2⟩ := hk j kids[j] (List.getElem?_eq_getElem hlt)
    refine GC.skip ?_
    refine GC.seq ?_
    refine GC.block ?_  -- block 1
    refine GC.seq ?_
    refine GC.reg ?_  -- region 3
    refine G.v (V.ia Tryd.underlying144 Tryd.sizeOf136 rfl rfl hlt) rfl ?_  -- router.go:425 t14
    refine G.v (V.ldC Tryd.isAgg136 rfl (by simpa using hc1) id) rfl ?_  -- router.go:425 t15
    refine G.v (V.asg rfl) rfl ?_  -- router.go:425 t6
    refine G.nil ?_
    refine GC.seq ?_
    refine GC.reg ?_  -- region 4
    refine G.v (V.mv rfl) rfl ?_  -- router.go:426 t16
    refine G.v (V.nc rfl) rfl ?_  -- router.go:426 t17
    refine G.v (V.fa F146_9 rfl) rfl ?_  -- router.go:426 t18
    refine G.v (V.ldC Tryd.isAgg5 rfl hc2 id) rfl ?_  -- router.go:426 t19
    refine G.v (V.mv rfl) rfl ?_  -- router.go:426 t20
    refine G.v (V.eqI rfl rfl) rfl ?_  -- router.go:426 t21
    refine G.nil ?_
    have hdr : kids.drop j = kids[j] :: kids.drop (j + 1) := List.drop_eq_getElem_cons hlt
    refine GC.condD rfl (fun h => ?_) (fun h => ?_)  -- t21
    · refine GC.seq ?_
      refine GC.reg ?_  -- region 5
      refine G.v (V.mv rfl) rfl ?_  -- router.go:427 t22
      refine G.v (V.asg rfl) rfl ?_  -- router.go:427 t4
      refine G.nil ?_
      refine GC.ret1 rfl rfl fun w' hw' => ⟨?_, hw'⟩
      have he : kids[j].2 = l := UInt8.toNat_inj.1 (by omega)
      rw [hfind, hdr, List.find?_cons_of_pos (by simpa using he)]; rfl
    · have he : ¬ kids[j].2 = l := fun e => h (by rw [e])
      refine GC.skip ?_
      refine GC.inBlock ?_
      refine GC.reg ?_  -- region 6
      refine G.v (V.addI rfl rfl rfl (by omega) (by omega)) rfl ?_  -- router.go:425 t23
      refine G.v (V.mv rfl) rfl ?_  -- router.go:425 t12
      refine G.nil ?_
      refine GC.inLoop ?_
      refine GC.weak ?_ (ih (j + 1) (by omega) (by rw [hfind, hdr, List.find?_cons_of_neg (by simpa using he)]))
      exact .cons rfl (.cons rfl (.cons rfl (.cons rfl (.cons rfl .nil))))

def fcl (kids : List (Nat × UInt8)) (pch ach : Option Nat) (l : UInt8) : Option Nat :=
  match kids.find? fun p => p.2 == l with
  | some p => some p.1
  | none => if l = 58 then pch else if l = 42 then ach else none

theorem f142_any (w : World) (n : Nat) (l : UInt8) (ad : Option Addr) (cap : Nat) (kids : List (Nat × UInt8)) (pch ach : Option Nat) (hs : w.cell? ⟨n, 7, none⟩ = some (.slice ad kids.length cap)) (hz : kids.length < 9223372036854775807)
    (hk : ∀ i p, kids[i]? = some p → ∃ a, ad = some ⟨a, 0, none⟩ ∧ w.cell? ⟨a, i, none⟩ = some (Pt p.1 0) ∧ w.cell? ⟨p.1, 9, none⟩ = some (.int .u8 (p.2.toNat : Int))) (h2 : w.cell? ⟨n, 2, none⟩ = some (PO pch)) (h3 : w.cell? ⟨n, 3, none⟩ = some (PO ach)) :
    Calls Tryd.prog 142 #[Pt n 0, .int .u8 (l.toNat : Int)] w fun e w' => e = .returned (PO (fcl kids pch ach l)) ∧ HF w (fun _ => False) [] w' := by
  refine enter (fun _ => False) [] Tryd.func142 rfl Tryd.ntmps142 rfl rfl (HF.start w _) fun c hc => ?_
  subst hc
  refine GC.seq ?_
  refine GC.reg ?_  -- region 0, router.go:433
  refine G.v (V.asg rfl) rfl ?_
  refine G.nil ?_
  refine GC.seq ?_
  refine GC.seq ?_
  refine GC.reg ?_  -- region 1, router.go:434
  refine G.v (V.mv rfl) rfl ?_
  refine G.v (V.mv rfl) rfl ?_
  refine G.callP Tryd.call93 rfl rfl (fun w1 hw1 => f93_any w1 n l ad cap kids (hw1.cellOld hs id) hz (fun i p hp => by obtain ⟨a, h1, h2, h3⟩ := hk i p hp; exact ⟨a, h1, hw1.cellOld h2 id, hw1.cellOld h3 id⟩)) ?_
  refine G.v (V.asg rfl) rfl ?_
  refine G.nil ?_
  refine GC.seq ?_
  refine GC.reg ?_  -- region 2, router.go:434
  refine G.v (V.mv rfl) rfl ?_
  refine G.v (V.neO Tryd.underlying136 rfl) rfl ?_
  refine G.nil ?_
  refine GC.cond rfl (fun h10 => ?_) (fun h10 => ?_)
  · refine GC.seq ?_
    refine GC.reg ?_  -- region 3, router.go:435
    refine G.v (V.mv rfl) rfl ?_
    refine G.v (V.asg rfl) rfl ?_
    refine G.nil ?_
    refine GC.ret1 rfl rfl fun w' hw' => ⟨?_, hw'⟩
    rw [fcl]
    cases hf : kids.find? fun p => p.2 == l with
    | none => rw [hf] at h10; simp at h10
    | some p => rfl
  refine GC.skip ?_
  refine GC.seq ?_
  refine GC.seq ?_
  refine GC.reg ?_  -- region 4, router.go:437
  refine G.v (V.mv rfl) rfl ?_
  refine G.v (V.eqI rfl rfl) rfl ?_
  refine G.nil ?_
  refine GC.condD rfl (fun h13 => ?_) (fun h13 => ?_)
  · refine GC.seq ?_
    refine GC.reg ?_  -- region 5, router.go:438
    refine G.v (V.mv rfl) rfl ?_
    refine G.v (V.nc rfl) rfl ?_
    refine G.v (V.fa F146_2 rfl) rfl ?_
    refine G.v (V.ldC Tryd.isAgg136 rfl h2 id) rfl ?_
    refine G.v (V.asg rfl) rfl ?_
    refine G.nil ?_
    refine GC.ret1 rfl rfl fun w' hw' => ⟨?_, hw'⟩
    rw [fcl]
    cases hf : kids.find? fun p => p.2 == l with
    | some p => rw [hf] at h10; simp at h10
    | none => have : l = 58 := UInt8.toNat_inj.1 (show l.toNat = 58 by omega)
              simp [this]
  refine GC.skip ?_
  refine GC.seq ?_
  refine GC.seq ?_
  refine GC.reg ?_  -- region 6, router.go:440
  refine G.v (V.mv rfl) rfl ?_
  refine G.v (V.eqI rfl rfl) rfl ?_
  refine G.nil ?_
  refine GC.condD rfl (fun h19 => ?_) (fun h19 => ?_)
  · refine GC.seq ?_
    refine GC.reg ?_  -- region 7, router.go:441
    refine G.v (V.mv rfl) rfl ?_
    refine G.v (V.nc rfl) rfl ?_
    refine G.v (V.fa F146_3 rfl) rfl ?_
    refine G.v (V.ldC Tryd.isAgg136 rfl h3 id) rfl ?_
    refine G.v (V.asg rfl) rfl ?_
    refine G.nil ?_
    refine GC.ret1 rfl rfl fun w' hw' => ⟨?_, hw'⟩
    rw [fcl]
    cases hf : kids.find? fun p => p.2 == l with
    | some p => rw [hf] at h10; simp at h10
    | none => have : ¬ l = 58 := fun e => h13 (by rw [e]; rfl)
              have h4 : l = 42 := UInt8.toNat_inj.1 (show l.toNat = 42 by omega)
              simp [h4]
  refine GC.skip ?_
  refine GC.seq ?_
  refine GC.reg ?_  -- region 8, router.go:443
  refine G.v (V.asg rfl) rfl ?_
  refine G.nil ?_
  refine GC.ret1 rfl rfl fun w' hw' => ⟨?_, hw'⟩
  rw [fcl]
  cases hf : kids.find? fun p => p.2 == l with
  | some p => rw [hf] at h10; simp at h10
  | none => have : ¬ l = 58 := fun e => h13 (by rw [e]; rfl)
            have h4 : ¬ l = 42 := fun e => h19 (by rw [e]; rfl)
            simp [this, h4]; rfl
theorem f141_any (w : World) (D : Nat → Prop) (n ch : Nat) (l : List Value) (sv : Value) (q : Nat) (xs : List Value) (Hs : SH) (hH : HF w D (⟨n, true, .row l 146 (0, 0)⟩ :: Hs) w) (h7 : nth l 7 = some sv) (hown : Own 136 1 sv q xs Hs) (hq : q < 1000000) :
    Calls Tryd.prog 141 #[Pt n 0, Pt ch 0] w fun e w' => e = .returned (.tuple #[]) ∧ ∃ sv' Hs', Own 136 1 sv' (q + 1) (xs ++ [Pt ch 0]) Hs' ∧ HF w D (⟨n, true, .row (setL l 7 sv') 146 (0, 0)⟩ :: Hs') w' := by
  refine enter D (⟨n, true, .row l 146 (0, 0)⟩ :: Hs) Tryd.func141 rfl Tryd.ntmps141 rfl rfl hH fun c hc => ?_
  subst hc
  refine GC.reg ?_  -- region 0, router.go:421
  refine G.v (V.mv rfl) rfl ?_
  refine G.v (V.mv rfl) rfl ?_
  refine G.v (V.nc rfl) rfl ?_
  refine G.v (V.fa F146_7 rfl) rfl ?_
  refine G.v (V.ld Tryd.isAgg144 rfl (.head _) h7) rfl ?_
  refine G.v (V.mv rfl) rfl ?_
  refine G.bs (BS.one Tryd.underlying144 Tryd.sizeOf136 Tryd.zeroValue136 (v := Pt ch 0) rfl) rfl rfl (fun tb htb => ?_)
  refine G.app (i := Tryd.t136) (sz := 1) (by_ := 8) Tryd.underlying144 rfl rfl rfl rfl rfl rfl rfl hown (H' := [⟨tb, true, .row [Pt ch 0] 136 (0, 0)⟩, ⟨n, true, .row l 146 (0, 0)⟩]) ?_ (src_row (vs := [Pt ch 0]) (r := []) (.head _)) rfl (by simp [Value.oneCell']) (by omega) (by omega) (by omega) rfl (fun sv' Hs' hown' => ?_)
  · exact (List.perm_append_comm (l₁ := [⟨tb, true, .row [Pt ch 0] 136 (0, 0)⟩, ⟨n, true, .row l 146 (0, 0)⟩]) (l₂ := Hs))
  obtain ⟨ad2, cp2, rfl⟩ := hown'.slice
  refine G.v (V.nc rfl) rfl ?_
  refine G.v (V.fa F146_7 rfl) rfl ?_
  refine G.st Tryd.sizeOf144 rfl rfl rfl (.s .z) (by rw [h7]; rfl) rfl ?_
  refine G.nil ?_
  refine GC.end0 rfl fun w' hw' => ⟨rfl, _, Hs', hown', hw'.sub ?_⟩
  exact List.sublist_cons_self _ _
end Go.Proofs

/- A bytes.Buffer in the symbolic heap; calls that write. No program in sight. -/
namespace Bw
open Go

variable {P : Program} {c : Cx} {n : Nat} {k : List Item} {fr : SF} {H : SH} {ops : Array Oper} {rest : List Oper} {ty : TypeId} {pos : String} {aft : Array Edge}

/-- a call whose contract speaks of the symbolic heap -/
theorem G.callW {g : FuncId} {xs : List Operand} {vs : List Value} {tys : Array TypeId} {d : Nat} (J : Value → SH → Prop) (hg : ∀ (args : Array Value) w, (callFunc g args).run P w = .ok (.enter g args) w) (he : evs fr xs = some vs)
    (hd : Nat.blt d n = true) (hc : ∀ w, HF c.w0 c.D H w → Calls P g vs.toArray w (fun e w' => ∃ v H', e = .returned v ∧ HF c.w0 c.D H' w' ∧ J v H'))
    (hk : ∀ v H', J v H' → G P c n k ops rest ((d, v) :: fr) H') :
    G P c n k ops (⟨some d, .call ⟨.value (.func g), xs.toArray, tys⟩, ty, pos, aft, none⟩ :: rest) fr H := by
  intro hf a w ha hw
  refine wpList_step fun K' hK' => ?_
  simp only [Region.wanted, if_true, Oper.wp, run_callN ha hg he, Oper.upon]
  refine (hc w hw).mono fun e w' ⟨v, H', he', h1, h2⟩ => ?_
  subst he'
  exact hK' _ _ (hk v H' h2 hf _ _ (ha.put hd v) h1)
/-- .. whose result is let fall -/
theorem G.callW0 {g : FuncId} {xs : List Operand} {vs : List Value} {tys : Array TypeId} (J : Value → SH → Prop) (hg : ∀ (args : Array Value) w, (callFunc g args).run P w = .ok (.enter g args) w) (he : evs fr xs = some vs)
    (hc : ∀ w, HF c.w0 c.D H w → Calls P g vs.toArray w (fun e w' => ∃ v H', e = .returned v ∧ HF c.w0 c.D H' w' ∧ J v H'))
    (hk : ∀ v H', J v H' → G P c n k ops rest fr H') :
    G P c n k ops (⟨none, .call ⟨.value (.func g), xs.toArray, tys⟩, ty, pos, aft, none⟩ :: rest) fr H := by
  intro hf a w ha hw
  refine wpList_step fun K' hK' => ?_
  simp only [Region.wanted, if_true, Oper.wp, run_callN ha hg he, Oper.upon]
  refine (hc w hw).mono fun e w' ⟨v, H', he', h1, h2⟩ => ?_
  subst he'
  exact hK' _ _ (hk v H' h2 hf _ _ ha h1)

/-- two ways that meet -/
theorem GC.join {i : Item} (J : SF → SH → Prop) (h1 : (∀ fr' H', J fr' H' → GC P c n k fr' H') → GC P c n (i :: k) fr H) (h2 : ∀ fr' H', J fr' H' → GC P c n k fr' H') : GC P c n (i :: k) fr H := h1 h2

/-- a loop, with a measure -/
theorem GC.loopJ {x : Code} (J : Nat → SF → SH → Prop) (N : Nat) (h0 : J N fr H)
    (step : ∀ N fr H, J N fr H → (∀ M fr' H', M < N → J M fr' H' → GC P c n (.inLoop x :: k) fr' H') → GC P c n (.code x :: .inLoop x :: k) fr H) : GC P c n (.code (.loop x) :: k) fr H := by
  have key : ∀ M N, N ≤ M → ∀ fr H, J N fr H → GC P c n (.code x :: .inLoop x :: k) fr H := by
    intro M
    induction M with
    | zero => exact fun N hN fr H hJ => step N fr H hJ fun M _ _ hM _ => by omega
    | succ M ih => exact fun N hN fr H hJ => step N fr H hJ fun M' fr' H' hM hJ' => GC.inLoop (ih M' (by omega) fr' H' hJ')
  exact GC.loop (key N N (Nat.le_refl _) fr H h0)

abbrev bC (l : List UInt8) : List Value := Lib.byteCells l
theorem bC_app (a b : List UInt8) : bC (a ++ b) = bC a ++ bC b := by simp [bC, Lib.byteCells]
theorem bC_len (a : List UInt8) : (bC a).length = a.length := by simp [bC, Lib.byteCells]
theorem bC_one (a : List UInt8) : ∀ v ∈ bC a, v.oneCell' = true := by
  intro v hv
  simp only [bC, Lib.byteCells, List.mem_map] at hv
  obtain ⟨x, _, rfl⟩ := hv
  rfl

/-- a buffer that has only been written -/
inductive Buf (T e : TypeId) (N b : Nat) (bs : List UInt8) : SH → Prop
  | nil {lr : Int} (hb : N ≤ b) (h : bs = []) : Buf T e N b bs [⟨b, true, .row [.slice none 0 0, .int .i64 0, .int .i8 lr] T (0, 0)⟩]
  | row {lr : Int} {g cap : Nat} {spare : List Value} (hb : N ≤ b) (hg : N ≤ g) (hne : b ≠ g) (hle : bs.length ≤ cap) (hm : cap ≤ maxLen) (hc : (bC bs ++ spare).length = cap) :
      Buf T e N b bs [⟨b, true, .row [.slice (some ⟨g, 0, none⟩) bs.length cap, .int .i64 0, .int .i8 lr] T (0, 0)⟩, ⟨g, true, .row (bC bs ++ spare) e (0, 0)⟩]

theorem Buf.is {T e N b : Nat} {bs : List UInt8} {HB : SH} {w0 D w} (h : Buf T e N b bs HB) (hw : HF w0 D (HB ++ H) w) : Lib.IsBuffer T e N b (bC bs) w := by
  cases h with
  | nil hb he =>
    subst he
    refine ⟨hb, _, _, hw.has _ (.head _), World.ownsRow_nil _ _ _ _, by simp [Value.ownBlock]⟩
  | row hb hg hne hle hm hc =>
    rename_i lr g cap spare
    have hgw := hw.has ⟨g, true, .row (bC bs ++ spare) e (0, 0)⟩ (by simp)
    refine ⟨hb, _, _, hw.has ⟨b, true, .row [.slice (some ⟨g, 0, none⟩) bs.length cap, .int .i64 0, .int .i8 lr] T (0, 0)⟩ (by simp), ?_, by simp [Value.ownBlock]; exact fun h => hne h.symm⟩
    refine ⟨by simp, .inr ⟨g, cap, _, by rw [bC_len], hg, hgw, by rw [bC_len]; exact hle, hm, by simpa using hc, by simp⟩⟩

theorem Buf.of {T e N b : Nat} {bs : List UInt8} {w : World} (h : Lib.IsBuffer T e N b (bC bs) w) : ∃ HB, Buf T e N b bs HB ∧ (∀ x ∈ HB, w.heap[x.b]? = some x.k.den) ∧ HB.Pairwise (fun x y => x.b ≠ y.b) := by
  obtain ⟨hb, v, lr, hbw, ⟨_, hv⟩, hne⟩ := h
  rcases hv with ⟨rfl, h0⟩ | ⟨g, cap, cur, rfl, hg, hgw, hle, hm, hsz, htk⟩
  · refine ⟨_, .nil (lr := lr) hb (List.length_eq_zero_iff.1 (by rw [bC_len] at h0; exact h0)), ?_, List.pairwise_singleton _ _⟩
    intro x hx
    simp only [List.mem_singleton] at hx
    subst hx
    exact hbw
  · have hcur : cur.toList = bC bs ++ cur.toList.drop (bC bs).length := by
      conv => lhs; rw [← List.take_append_drop (bC bs).length cur.toList]
      rw [← htk]
      congr 1
      simp
    have hne' : b ≠ g := fun e => hne (by simp [Value.ownBlock, e])
    refine ⟨_, .row (lr := lr) (g := g) (cap := cap) (spare := cur.toList.drop (bC bs).length) hb hg hne' (by rw [bC_len] at hle; exact hle) hm (by rw [← hcur]; simpa using hsz), ?_, ?_⟩
    · intro x hx
      simp only [List.mem_cons, List.not_mem_nil, or_false] at hx
      rcases hx with rfl | rfl
      · rw [bC_len] at hbw; exact hbw
      · simp only [Blk.den]
        rw [← hcur]
        simpa using hgw
    · exact List.pairwise_cons.2 ⟨fun y hy => by simp only [List.mem_singleton] at hy; subst hy; exact hne', List.pairwise_singleton _ _⟩

theorem Buf.ge {T e N b : Nat} {bs : List UInt8} {HB : SH} (h : Buf T e N b bs HB) : ∀ x ∈ HB, N ≤ x.b := by
  cases h with
  | nil hb _ => intro x hx; simp only [List.mem_singleton] at hx; subst hx; exact hb
  | row hb hg _ _ _ _ =>
    intro x hx
    simp only [List.mem_cons, List.not_mem_nil, or_false] at hx
    rcases hx with rfl | rfl
    · exact hb
    · exact hg

/-- entries that a buffer's growth leaves alone -/
def NoRow (e : TypeId) (N : Nat) (H : SH) : Prop := ∀ x ∈ H, x.b < N ∨ ∀ c fz, x.k.den ≠ .cells c e fz
theorem NoRow.cons {e N : Nat} {x : Ent} {H : SH} (h1 : x.b < N ∨ ∀ c fz, x.k.den ≠ .cells c e fz) (h : NoRow e N H) : NoRow e N (x :: H) := fun y hy => by
  rcases List.mem_cons.1 hy with rfl | hy
  · exact h1
  · exact h y hy
theorem NoRow.nil {e N : Nat} : NoRow e N [] := fun _ h => by cases h
theorem NoRow.app {e N : Nat} {H H' : SH} (h1 : NoRow e N H) (h2 : NoRow e N H') : NoRow e N (H ++ H') := fun y hy => by
  rcases List.mem_append.1 hy with hy | hy
  · exact h1 y hy
  · exact h2 y hy

theorem Buf.kept {T e b : Nat} {bs bs' : List UInt8} {HB : SH} {w0 D w w'} (hB : Buf T e w0.heap.size b bs HB) (hw : HF w0 D (HB ++ H) w) (hn : NoRow e w0.heap.size H) (h1 : Lib.IsBuffer T e w0.heap.size b (bC bs') w')
    (h2 : RowKit.Below w0.heap.size w w') (h3 : Lib.OthersKept e (some b) w w') : ∃ HB', Buf T e w0.heap.size b bs' HB' ∧ HF w0 D (HB' ++ H) w' := by
  obtain ⟨HB', b1, b2, b3⟩ := Buf.of h1
  have hbb : ∀ x ∈ H, x.b ≠ b := by
    have := List.pairwise_append.1 hw.nd
    intro x hx e
    have hbm : ∃ y ∈ HB, y.b = b := by cases hB with
      | nil _ _ => exact ⟨_, .head _, rfl⟩
      | row _ _ _ _ _ _ => exact ⟨_, .head _, rfl⟩
    obtain ⟨y, hy, rfl⟩ := hbm
    exact this.2.2 y hy x hx e.symm
  have hkeep : ∀ x ∈ H, w'.heap[x.b]? = some x.k.den := by
    intro x hx
    have h := hw.has x (List.mem_append_right _ hx)
    rcases hn x hx with hlt | hno
    · rw [h2.block _ hlt]; exact h
    · exact h3 x.b _ h (fun e => hbb x hx (Option.some.inj e)) hno
  refine ⟨HB', b1, Nat.le_trans hw.size h2.size, fun i hi hD => ?_, fun x hx => ?_, fun x hx hxw => ?_, ?_, h2.tape.trans hw.tape, h2.os.trans hw.os, h2.output.trans hw.output⟩
  · rw [h2.block i hi]; exact hw.frame i hi hD
  · rcases List.mem_append.1 hx with hx | hx
    · exact b2 x hx
    · exact hkeep x hx
  · rcases List.mem_append.1 hx with hx | hx
    · exact .inr (b1.ge x hx)
    · exact hw.wr x (List.mem_append_right _ hx) hxw
  · refine List.pairwise_append.2 ⟨b3, (List.pairwise_append.1 hw.nd).2.1, fun x hx y hy e => ?_⟩
    have hy' := hkeep y hy
    have hge := b1.ge x hx
    rcases hn y hy with hlt | hno
    · omega
    · cases b1 with
      | nil _ _ =>
        simp only [List.mem_singleton] at hx
        subst hx
        exact hbb y hy e.symm
      | row _ _ _ _ _ _ =>
        simp only [List.mem_cons, List.not_mem_nil, or_false] at hx
        rcases hx with rfl | rfl
        · exact hbb y hy e.symm
        · have hgx := b2 _ (.tail _ (.head _))
          rw [e, hy'] at hgx
          exact hno _ _ (Option.some.inj hgx)

/-- the shape of WriteString's contract -/
def WSpec (P : Program) (f : FuncId) (T e : TypeId) : Prop :=
  ∀ (B b : Nat) (bs : List Value) (s : ByteArray) (w : World), Lib.IsBuffer T e B b bs w → B ≤ w.heap.size → (∀ v ∈ bs, v.oneCell' = true) → bs.length + s.size ≤ 140737488355328 →
    Calls P f #[.pointer (some ⟨b, 0, none⟩), .string s] w fun e' w' => e' = .returned (.tuple #[.int .i64 s.size, .nilIface]) ∧ Lib.IsBuffer T e B b (bs ++ Lib.byteCells s.data.toList) w' ∧ RowKit.Below B w w' ∧ Lib.OthersKept e (some b) w w'

theorem G.ws {f T e : Nat} (hws : WSpec P f T e) (hg : ∀ (args : Array Value) w, (callFunc f args).run P w = .ok (.enter f args) w) {x y : Operand} {b : Nat} {bs s : List UInt8} {HB : SH} {tys : Array TypeId} {d : Nat} (hx : ev fr x = some (Pt b 0)) (hy : ev fr y = some (S s))
    (hd : Nat.blt d n = true) (hB : Buf T e c.w0.heap.size b bs HB) (hn : NoRow e c.w0.heap.size H) (hl : bs.length + s.length ≤ 140737488355328)
    (hk : ∀ HB', Buf T e c.w0.heap.size b (bs ++ s) HB' → G P c n k ops rest ((d, .tuple #[.int .i64 s.length, .nilIface]) :: fr) (HB' ++ H)) :
    G P c n k ops (⟨some d, .call ⟨.value (.func f), #[x, y], tys⟩, ty, pos, aft, none⟩ :: rest) fr (HB ++ H) := by
  refine G.callW (xs := [x, y]) (vs := [Pt b 0, S s]) (fun v H' => v = .tuple #[.int .i64 s.length, .nilIface] ∧ ∃ HB', Buf T e c.w0.heap.size b (bs ++ s) HB' ∧ H' = HB' ++ H) hg (by simp [evs, hx, hy]) hd (fun w hw => ?_) (fun v H' ⟨h1, HB', h2, h3⟩ => ?_)
  · refine (hws c.w0.heap.size b (bC bs) ⟨s.toArray⟩ w (hB.is hw) hw.size (bC_one bs) (by rw [bC_len]; simpa [ByteArray.size] using hl)).mono fun e' w' ⟨h1, h2, h3, h4⟩ => ?_
    have h2' : Lib.IsBuffer T e c.w0.heap.size b (bC (bs ++ s)) w' := by rw [bC_app]; simpa using h2
    obtain ⟨HB', b1, b2⟩ := hB.kept hw hn h2' h3 h4
    exact ⟨_, _, h1, b2, by simp [ByteArray.size], HB', b1, rfl⟩
  · subst h1; subst h3
    exact hk HB' h2

/-- the shape of String's contract -/
def SSpec (P : Program) (f : FuncId) (T e : TypeId) : Prop :=
  ∀ (B b : Nat) (l : List UInt8) (w : World), Lib.IsBuffer T e B b (Lib.byteCells l) w → Calls P f #[.pointer (some ⟨b, 0, none⟩)] w fun e' w' => e' = .returned (.string ⟨l.toArray⟩) ∧ ∃ n, w' = w.drewN n

theorem HF.drewH {w : World} (n : Nat) : HF w (fun _ => False) [] (w.drewN n) := (HF.start w _).drewN n

theorem sPost {f T e b : Nat} {bs : List UInt8} {HB : SH} (hs : SSpec P f T e) (hB : Buf T e c.w0.heap.size b bs HB) : ∀ w, HF c.w0 c.D (HB ++ H) w → Calls P f #[Pt b 0] w (fun e w' => e = .returned (S bs) ∧ HF w (fun _ => False) [] w') :=
  fun w hw => (hs c.w0.heap.size b bs w (hB.is hw)).mono fun e' w' ⟨h1, n, h2⟩ => ⟨h1, by rw [h2]; exact HF.drewH n⟩

end Bw

/- updateAllowHeader. Printed by wip/mk_e3.py. -/
namespace Go.Proofs
open Go Bw
set_option maxRecDepth 20000

def stdNm : Nat → List UInt8
  | 0 => [67, 79, 78, 78, 69, 67, 84]
  | 1 => [68, 69, 76, 69, 84, 69]
  | 2 => [71, 69, 84]
  | 3 => [72, 69, 65, 68]
  | 4 => [79, 80, 84, 73, 79, 78, 83]
  | 5 => [80, 65, 84, 67, 72]
  | 6 => [80, 79, 83, 84]
  | 7 => [80, 82, 79, 80, 70, 73, 78, 68]
  | 8 => [80, 85, 84]
  | 9 => [84, 82, 65, 67, 69]
  | 10 => [82, 69, 80, 79, 82, 84]
  | _ => []
theorem stdNm_len (i : Nat) : (stdNm i).length ≤ 8 := by
  unfold stdNm; split <;> simp
def optNm : List UInt8 := [79, 80, 84, 73, 79, 78, 83]
def hp (f : Nat → Option Nat) (l : List Nat) : List UInt8 := optNm ++ (l.filter fun i => (f i).isSome).flatMap fun i => [44, 32] ++ stdNm i
theorem hp_T {f : Nat → Option Nat} {i : Nat} (l : List Nat) (h : (f i).isSome = true) : hp f l ++ [44, 32] ++ stdNm i = hp f (l ++ [i]) := by simp [hp, h]
theorem hp_T2 {f : Nat → Option Nat} {i : Nat} {s : List UInt8} (l : List Nat) (h : (f i).isSome = true) (hs : s = [44, 32] ++ stdNm i) : hp f l ++ s = hp f (l ++ [i]) := by simp [hp, h, hs]
theorem hp_F {f : Nat → Option Nat} {i : Nat} (l : List Nat) (h : (f i).isSome = false) : hp f l = hp f (l ++ [i]) := by simp [hp, h]
theorem hp_len (f : Nat → Option Nat) : ∀ l : List Nat, (hp f l).length ≤ 7 + 10 * l.length
  | [] => by simp [hp, optNm]
  | i :: l => by
    have := hp_len f l
    have h2 := stdNm_len i
    simp only [hp, List.length_append, List.filter_cons] at *
    split
    · simp only [List.flatMap_cons, List.length_append, List.length_cons, List.length_nil] at *; omega
    · simp only [List.length_cons] at *; omega

/-- the Allow header: the methods in the order of the fields, then the others in any order -/
def Hdr (f : Nat → Option Nat) (kv : AL) (hdr : List UInt8) : Prop :=
  ∃ ks : List (List UInt8), ks.Perm (kv.map (·.1)) ∧ hdr = hp f [0, 1, 2, 3, 5, 6, 7, 8, 9, 10] ++ ks.flatMap fun k => [44, 32] ++ k

theorem wspec : WSpec Tryd.prog 116 175 5 := fun B b bs s w h1 h2 h3 h4 => Tryd.Buffer_WriteString_k B b bs s w h1 h2 h3 h4
theorem sspec : SSpec Tryd.prog 118 175 5 := fun B b l w h => Tryd.Buffer_String B b l w h

theorem len_keys (kv : AL) (hk : ∀ p ∈ kv, p.1.length ≤ 1000) : ∀ ks : List (List UInt8), (∀ k ∈ ks, k.length ≤ 1000) → (ks.flatMap fun k => [44, 32] ++ k).length ≤ 1002 * ks.length
  | [], _ => by simp
  | k :: r, h => by
    have := len_keys kv hk r (fun x hx => h x (List.mem_cons_of_mem _ hx))
    have h2 := h k (.head _)
    simp only [List.flatMap_cons, List.length_append, List.length_cons, List.length_nil] at *
    omega

theorem f144_any (w : World) (m : Nat) (f : Nat → Option Nat) (mp : Option Nat) (kv : AL) (hdr : List UInt8) (hm : w.heap[m]? = some (.cells (mrow f mp hdr).toArray 155 (0, 0))) (hkv : MapAt w mp kv)
    (hk : ∀ p ∈ kv, p.1.length ≤ 1000) (hkl : kv.length ≤ 1000000) :
    Calls Tryd.prog 144 #[Pt m 0] w fun e w' => e = .returned (.tuple #[]) ∧ ∃ hdr', Hdr f kv hdr' ∧ HF w (fun b => b = m) [⟨m, true, .row (mrow f mp hdr') 155 (0, 0)⟩] w' := by
  have hml : m < w.heap.size := (Array.getElem?_eq_some_iff.1 hm).1
  have hH0 : HF w (fun b => b = m) [⟨m, true, .row (mrow f mp hdr) 155 (0, 0)⟩] w := (HF.start w _).add hm (fun _ => .inl rfl) (fun _ h => by cases h)
  refine enter (fun b => b = m) [⟨m, true, .row (mrow f mp hdr) 155 (0, 0)⟩] Tryd.func144 rfl Tryd.ntmps144 rfl rfl hH0 fun c hc => ?_
  subst hc
  refine GC.seq ?_
  refine GC.reg ?_
  refine G.al Tryd.zeroValue175 rfl rfl (fun b hb => ?_)
  refine G.v (V.asg rfl) rfl ?_
  refine G.nil ?_
  refine GC.weak (fr' := [(0, Pt m 0), (2, Pt b 0)]) (.cons rfl (.cons rfl .nil)) ?_
  have hn0 : NoRow 5 w.heap.size [⟨m, true, .row (mrow f mp hdr) 155 (0, 0)⟩] := .cons (.inl hml) .nil
  have hB0 : Buf 175 5 w.heap.size b [] [⟨b, true, .row [.slice none 0 0, .int .i64 0, .int .i8 0] 175 (0, 0)⟩] := .nil hb rfl
  generalize hHm : [(⟨m, true, .row (mrow f mp hdr) 155 (0, 0)⟩ : Ent)] = Hm at hn0
  have hmem : ∀ HB : SH, (⟨m, true, .row (mrow f mp hdr) 155 (0, 0)⟩ : Ent) ∈ HB ++ Hm := fun HB => by subst hHm; exact List.mem_append_right _ (.head _)
  have hgl := hp_len f
  have K : ∀ l s : List UInt8, l.length ≤ 107 → s.length ≤ 10 → l.length + s.length ≤ 140737488355328 := fun l s h1 h2 => by omega
  refine GC.seq ?_
  refine GC.reg ?_
  refine G.v (V.mv rfl) rfl ?_
  refine G.ws (HB := [⟨b, true, .row [.slice none 0 0, .int .i64 0, .int .i8 0] 175 (0, 0)⟩]) (s := optNm) wspec Tryd.call116 rfl rfl rfl hB0 hn0 (by decide) (fun HB hB => ?_)
  refine G.nil ?_
  refine GC.weak (fr' := [(0, Pt m 0), (2, Pt b 0)]) (.cons rfl (.cons rfl .nil)) ?_
  replace hB : Buf 175 5 w.heap.size b (hp f []) HB := hB
  clear hB0 hb
  -- CONNECT
  refine GC.seq ?_
  refine GC.join (fun fr' H' => Sub [(0, Pt m 0), (2, Pt b 0)] fr' ∧ ∃ HB, Buf 175 5 w.heap.size b (hp f [0]) HB ∧ H' = HB ++ Hm) (fun J => ?_) ?_
  · refine GC.seq ?_
    refine GC.reg ?_
    refine G.v (V.mv rfl) rfl ?_
    refine G.v (V.nc rfl) rfl ?_
    refine G.v (V.fa F155_0 rfl) rfl ?_
    refine G.v (V.ld Tryd.isAgg140 rfl (hmem HB) rfl) rfl ?_
    refine G.v (V.neO Tryd.underlying140 rfl) rfl ?_
    refine G.nil ?_
    refine GC.cond rfl (fun h => ?_) (fun h => ?_)
    · refine GC.seq ?_
      refine GC.reg ?_
      refine G.v (V.mv rfl) rfl ?_
      refine G.ws (s := [44, 32]) wspec Tryd.call116 rfl rfl rfl hB hn0 (K _ _ (Nat.le_trans (hgl _) (by decide)) (by decide)) (fun HB1 hB1 => ?_)
      refine G.nil ?_
      refine GC.reg ?_
      refine G.v (V.mv rfl) rfl ?_
      refine G.ws (s := stdNm 0) wspec Tryd.call116 rfl rfl rfl hB1 hn0 (by have := hgl []; simp only [List.length_append, List.length_cons, List.length_nil, stdNm] at *; omega) (fun HB2 hB2 => ?_)
      refine G.nil ?_
      exact J _ _ ⟨.cons rfl (.cons rfl .nil), HB2, (hp_T [] h) ▸ hB2, rfl⟩
    refine GC.skip ?_
    exact J _ _ ⟨.cons rfl (.cons rfl .nil), HB, (hp_F [] h) ▸ hB, rfl⟩
  clear hB HB
  rintro fr' H' ⟨hs, HB, hB, rfl⟩
  refine GC.weak hs ?_
  clear hs
  -- DELETE
  refine GC.seq ?_
  refine GC.join (fun fr' H' => Sub [(0, Pt m 0), (2, Pt b 0)] fr' ∧ ∃ HB, Buf 175 5 w.heap.size b (hp f [0, 1]) HB ∧ H' = HB ++ Hm) (fun J => ?_) ?_
  · refine GC.seq ?_
    refine GC.reg ?_
    refine G.v (V.mv rfl) rfl ?_
    refine G.v (V.nc rfl) rfl ?_
    refine G.v (V.fa F155_1 rfl) rfl ?_
    refine G.v (V.ld Tryd.isAgg140 rfl (hmem HB) rfl) rfl ?_
    refine G.v (V.neO Tryd.underlying140 rfl) rfl ?_
    refine G.nil ?_
    refine GC.cond rfl (fun h => ?_) (fun h => ?_)
    · refine GC.seq ?_
      refine GC.reg ?_
      refine G.v (V.mv rfl) rfl ?_
      refine G.ws (s := [44, 32]) wspec Tryd.call116 rfl rfl rfl hB hn0 (K _ _ (Nat.le_trans (hgl _) (by decide)) (by decide)) (fun HB1 hB1 => ?_)
      refine G.nil ?_
      refine GC.reg ?_
      refine G.v (V.mv rfl) rfl ?_
      refine G.ws (s := stdNm 1) wspec Tryd.call116 rfl rfl rfl hB1 hn0 (by have := hgl [0]; simp only [List.length_append, List.length_cons, List.length_nil, stdNm] at *; omega) (fun HB2 hB2 => ?_)
      refine G.nil ?_
      exact J _ _ ⟨.cons rfl (.cons rfl .nil), HB2, (hp_T [0] h) ▸ hB2, rfl⟩
    refine GC.skip ?_
    exact J _ _ ⟨.cons rfl (.cons rfl .nil), HB, (hp_F [0] h) ▸ hB, rfl⟩
  clear hB HB
  rintro fr' H' ⟨hs, HB, hB, rfl⟩
  refine GC.weak hs ?_
  clear hs
  -- GET
  refine GC.seq ?_
  refine GC.join (fun fr' H' => Sub [(0, Pt m 0), (2, Pt b 0)] fr' ∧ ∃ HB, Buf 175 5 w.heap.size b (hp f [0, 1, 2]) HB ∧ H' = HB ++ Hm) (fun J => ?_) ?_
  · refine GC.seq ?_
    refine GC.reg ?_
    refine G.v (V.mv rfl) rfl ?_
    refine G.v (V.nc rfl) rfl ?_
    refine G.v (V.fa F155_2 rfl) rfl ?_
    refine G.v (V.ld Tryd.isAgg140 rfl (hmem HB) rfl) rfl ?_
    refine G.v (V.neO Tryd.underlying140 rfl) rfl ?_
    refine G.nil ?_
    refine GC.cond rfl (fun h => ?_) (fun h => ?_)
    · refine GC.seq ?_
      refine GC.reg ?_
      refine G.v (V.mv rfl) rfl ?_
      refine G.ws (s := [44, 32]) wspec Tryd.call116 rfl rfl rfl hB hn0 (K _ _ (Nat.le_trans (hgl _) (by decide)) (by decide)) (fun HB1 hB1 => ?_)
      refine G.nil ?_
      refine GC.reg ?_
      refine G.v (V.mv rfl) rfl ?_
      refine G.ws (s := stdNm 2) wspec Tryd.call116 rfl rfl rfl hB1 hn0 (by have := hgl [0, 1]; simp only [List.length_append, List.length_cons, List.length_nil, stdNm] at *; omega) (fun HB2 hB2 => ?_)
      refine G.nil ?_
      exact J _ _ ⟨.cons rfl (.cons rfl .nil), HB2, (hp_T [0, 1] h) ▸ hB2, rfl⟩
    refine GC.skip ?_
    exact J _ _ ⟨.cons rfl (.cons rfl .nil), HB, (hp_F [0, 1] h) ▸ hB, rfl⟩
  clear hB HB
  rintro fr' H' ⟨hs, HB, hB, rfl⟩
  refine GC.weak hs ?_
  clear hs
  -- HEAD
  refine GC.seq ?_
  refine GC.join (fun fr' H' => Sub [(0, Pt m 0), (2, Pt b 0)] fr' ∧ ∃ HB, Buf 175 5 w.heap.size b (hp f [0, 1, 2, 3]) HB ∧ H' = HB ++ Hm) (fun J => ?_) ?_
  · refine GC.seq ?_
    refine GC.reg ?_
    refine G.v (V.mv rfl) rfl ?_
    refine G.v (V.nc rfl) rfl ?_
    refine G.v (V.fa F155_3 rfl) rfl ?_
    refine G.v (V.ld Tryd.isAgg140 rfl (hmem HB) rfl) rfl ?_
    refine G.v (V.neO Tryd.underlying140 rfl) rfl ?_
    refine G.nil ?_
    refine GC.cond rfl (fun h => ?_) (fun h => ?_)
    · refine GC.seq ?_
      refine GC.reg ?_
      refine G.v (V.mv rfl) rfl ?_
      refine G.ws (s := [44, 32]) wspec Tryd.call116 rfl rfl rfl hB hn0 (K _ _ (Nat.le_trans (hgl _) (by decide)) (by decide)) (fun HB1 hB1 => ?_)
      refine G.nil ?_
      refine GC.reg ?_
      refine G.v (V.mv rfl) rfl ?_
      refine G.ws (s := stdNm 3) wspec Tryd.call116 rfl rfl rfl hB1 hn0 (by have := hgl [0, 1, 2]; simp only [List.length_append, List.length_cons, List.length_nil, stdNm] at *; omega) (fun HB2 hB2 => ?_)
      refine G.nil ?_
      exact J _ _ ⟨.cons rfl (.cons rfl .nil), HB2, (hp_T [0, 1, 2] h) ▸ hB2, rfl⟩
    refine GC.skip ?_
    exact J _ _ ⟨.cons rfl (.cons rfl .nil), HB, (hp_F [0, 1, 2] h) ▸ hB, rfl⟩
  clear hB HB
  rintro fr' H' ⟨hs, HB, hB, rfl⟩
  refine GC.weak hs ?_
  clear hs
  -- PATCH
  refine GC.seq ?_
  refine GC.join (fun fr' H' => Sub [(0, Pt m 0), (2, Pt b 0)] fr' ∧ ∃ HB, Buf 175 5 w.heap.size b (hp f [0, 1, 2, 3, 5]) HB ∧ H' = HB ++ Hm) (fun J => ?_) ?_
  · refine GC.seq ?_
    refine GC.reg ?_
    refine G.v (V.mv rfl) rfl ?_
    refine G.v (V.nc rfl) rfl ?_
    refine G.v (V.fa F155_5 rfl) rfl ?_
    refine G.v (V.ld Tryd.isAgg140 rfl (hmem HB) rfl) rfl ?_
    refine G.v (V.neO Tryd.underlying140 rfl) rfl ?_
    refine G.nil ?_
    refine GC.cond rfl (fun h => ?_) (fun h => ?_)
    · refine GC.seq ?_
      refine GC.reg ?_
      refine G.v (V.mv rfl) rfl ?_
      refine G.ws (s := [44, 32]) wspec Tryd.call116 rfl rfl rfl hB hn0 (K _ _ (Nat.le_trans (hgl _) (by decide)) (by decide)) (fun HB1 hB1 => ?_)
      refine G.nil ?_
      refine GC.reg ?_
      refine G.v (V.mv rfl) rfl ?_
      refine G.ws (s := stdNm 5) wspec Tryd.call116 rfl rfl rfl hB1 hn0 (by have := hgl [0, 1, 2, 3]; simp only [List.length_append, List.length_cons, List.length_nil, stdNm] at *; omega) (fun HB2 hB2 => ?_)
      refine G.nil ?_
      exact J _ _ ⟨.cons rfl (.cons rfl .nil), HB2, (hp_T [0, 1, 2, 3] h) ▸ hB2, rfl⟩
    refine GC.skip ?_
    exact J _ _ ⟨.cons rfl (.cons rfl .nil), HB, (hp_F [0, 1, 2, 3] h) ▸ hB, rfl⟩
  clear hB HB
  rintro fr' H' ⟨hs, HB, hB, rfl⟩
  refine GC.weak hs ?_
  clear hs
  -- POST
  refine GC.seq ?_
  refine GC.join (fun fr' H' => Sub [(0, Pt m 0), (2, Pt b 0)] fr' ∧ ∃ HB, Buf 175 5 w.heap.size b (hp f [0, 1, 2, 3, 5, 6]) HB ∧ H' = HB ++ Hm) (fun J => ?_) ?_
  · refine GC.seq ?_
    refine GC.reg ?_
    refine G.v (V.mv rfl) rfl ?_
    refine G.v (V.nc rfl) rfl ?_
    refine G.v (V.fa F155_6 rfl) rfl ?_
    refine G.v (V.ld Tryd.isAgg140 rfl (hmem HB) rfl) rfl ?_
    refine G.v (V.neO Tryd.underlying140 rfl) rfl ?_
    refine G.nil ?_
    refine GC.cond rfl (fun h => ?_) (fun h => ?_)
    · refine GC.seq ?_
      refine GC.reg ?_
      refine G.v (V.mv rfl) rfl ?_
      refine G.ws (s := [44, 32]) wspec Tryd.call116 rfl rfl rfl hB hn0 (K _ _ (Nat.le_trans (hgl _) (by decide)) (by decide)) (fun HB1 hB1 => ?_)
      refine G.nil ?_
      refine GC.reg ?_
      refine G.v (V.mv rfl) rfl ?_
      refine G.ws (s := stdNm 6) wspec Tryd.call116 rfl rfl rfl hB1 hn0 (by have := hgl [0, 1, 2, 3, 5]; simp only [List.length_append, List.length_cons, List.length_nil, stdNm] at *; omega) (fun HB2 hB2 => ?_)
      refine G.nil ?_
      exact J _ _ ⟨.cons rfl (.cons rfl .nil), HB2, (hp_T [0, 1, 2, 3, 5] h) ▸ hB2, rfl⟩
    refine GC.skip ?_
    exact J _ _ ⟨.cons rfl (.cons rfl .nil), HB, (hp_F [0, 1, 2, 3, 5] h) ▸ hB, rfl⟩
  clear hB HB
  rintro fr' H' ⟨hs, HB, hB, rfl⟩
  refine GC.weak hs ?_
  clear hs
  -- PROPFIND
  refine GC.seq ?_
  refine GC.join (fun fr' H' => Sub [(0, Pt m 0), (2, Pt b 0)] fr' ∧ ∃ HB, Buf 175 5 w.heap.size b (hp f [0, 1, 2, 3, 5, 6, 7]) HB ∧ H' = HB ++ Hm) (fun J => ?_) ?_
  · refine GC.seq ?_
    refine GC.reg ?_
    refine G.v (V.mv rfl) rfl ?_
    refine G.v (V.nc rfl) rfl ?_
    refine G.v (V.fa F155_7 rfl) rfl ?_
    refine G.v (V.ld Tryd.isAgg140 rfl (hmem HB) rfl) rfl ?_
    refine G.v (V.neO Tryd.underlying140 rfl) rfl ?_
    refine G.nil ?_
    refine GC.cond rfl (fun h => ?_) (fun h => ?_)
    · refine GC.reg ?_
      refine G.v (V.mv rfl) rfl ?_
      refine G.ws (s := [44, 32, 80, 82, 79, 80, 70, 73, 78, 68]) wspec Tryd.call116 rfl rfl rfl hB hn0 (K _ _ (Nat.le_trans (hgl _) (by decide)) (by decide)) (fun HB2 hB2 => ?_)
      refine G.nil ?_
      exact J _ _ ⟨.cons rfl (.cons rfl .nil), HB2, (hp_T2 (i := 7) [0, 1, 2, 3, 5, 6] h rfl) ▸ hB2, rfl⟩
    refine GC.skip ?_
    exact J _ _ ⟨.cons rfl (.cons rfl .nil), HB, (hp_F [0, 1, 2, 3, 5, 6] h) ▸ hB, rfl⟩
  clear hB HB
  rintro fr' H' ⟨hs, HB, hB, rfl⟩
  refine GC.weak hs ?_
  clear hs
  -- PUT
  refine GC.seq ?_
  refine GC.join (fun fr' H' => Sub [(0, Pt m 0), (2, Pt b 0)] fr' ∧ ∃ HB, Buf 175 5 w.heap.size b (hp f [0, 1, 2, 3, 5, 6, 7, 8]) HB ∧ H' = HB ++ Hm) (fun J => ?_) ?_
  · refine GC.seq ?_
    refine GC.reg ?_
    refine G.v (V.mv rfl) rfl ?_
    refine G.v (V.nc rfl) rfl ?_
    refine G.v (V.fa F155_8 rfl) rfl ?_
    refine G.v (V.ld Tryd.isAgg140 rfl (hmem HB) rfl) rfl ?_
    refine G.v (V.neO Tryd.underlying140 rfl) rfl ?_
    refine G.nil ?_
    refine GC.cond rfl (fun h => ?_) (fun h => ?_)
    · refine GC.seq ?_
      refine GC.reg ?_
      refine G.v (V.mv rfl) rfl ?_
      refine G.ws (s := [44, 32]) wspec Tryd.call116 rfl rfl rfl hB hn0 (K _ _ (Nat.le_trans (hgl _) (by decide)) (by decide)) (fun HB1 hB1 => ?_)
      refine G.nil ?_
      refine GC.reg ?_
      refine G.v (V.mv rfl) rfl ?_
      refine G.ws (s := stdNm 8) wspec Tryd.call116 rfl rfl rfl hB1 hn0 (by have := hgl [0, 1, 2, 3, 5, 6, 7]; simp only [List.length_append, List.length_cons, List.length_nil, stdNm] at *; omega) (fun HB2 hB2 => ?_)
      refine G.nil ?_
      exact J _ _ ⟨.cons rfl (.cons rfl .nil), HB2, (hp_T [0, 1, 2, 3, 5, 6, 7] h) ▸ hB2, rfl⟩
    refine GC.skip ?_
    exact J _ _ ⟨.cons rfl (.cons rfl .nil), HB, (hp_F [0, 1, 2, 3, 5, 6, 7] h) ▸ hB, rfl⟩
  clear hB HB
  rintro fr' H' ⟨hs, HB, hB, rfl⟩
  refine GC.weak hs ?_
  clear hs
  -- TRACE
  refine GC.seq ?_
  refine GC.join (fun fr' H' => Sub [(0, Pt m 0), (2, Pt b 0)] fr' ∧ ∃ HB, Buf 175 5 w.heap.size b (hp f [0, 1, 2, 3, 5, 6, 7, 8, 9]) HB ∧ H' = HB ++ Hm) (fun J => ?_) ?_
  · refine GC.seq ?_
    refine GC.reg ?_
    refine G.v (V.mv rfl) rfl ?_
    refine G.v (V.nc rfl) rfl ?_
    refine G.v (V.fa F155_9 rfl) rfl ?_
    refine G.v (V.ld Tryd.isAgg140 rfl (hmem HB) rfl) rfl ?_
    refine G.v (V.neO Tryd.underlying140 rfl) rfl ?_
    refine G.nil ?_
    refine GC.cond rfl (fun h => ?_) (fun h => ?_)
    · refine GC.seq ?_
      refine GC.reg ?_
      refine G.v (V.mv rfl) rfl ?_
      refine G.ws (s := [44, 32]) wspec Tryd.call116 rfl rfl rfl hB hn0 (K _ _ (Nat.le_trans (hgl _) (by decide)) (by decide)) (fun HB1 hB1 => ?_)
      refine G.nil ?_
      refine GC.reg ?_
      refine G.v (V.mv rfl) rfl ?_
      refine G.ws (s := stdNm 9) wspec Tryd.call116 rfl rfl rfl hB1 hn0 (by have := hgl [0, 1, 2, 3, 5, 6, 7, 8]; simp only [List.length_append, List.length_cons, List.length_nil, stdNm] at *; omega) (fun HB2 hB2 => ?_)
      refine G.nil ?_
      exact J _ _ ⟨.cons rfl (.cons rfl .nil), HB2, (hp_T [0, 1, 2, 3, 5, 6, 7, 8] h) ▸ hB2, rfl⟩
    refine GC.skip ?_
    exact J _ _ ⟨.cons rfl (.cons rfl .nil), HB, (hp_F [0, 1, 2, 3, 5, 6, 7, 8] h) ▸ hB, rfl⟩
  clear hB HB
  rintro fr' H' ⟨hs, HB, hB, rfl⟩
  refine GC.weak hs ?_
  clear hs
  -- REPORT
  refine GC.seq ?_
  refine GC.join (fun fr' H' => Sub [(0, Pt m 0), (2, Pt b 0)] fr' ∧ ∃ HB, Buf 175 5 w.heap.size b (hp f [0, 1, 2, 3, 5, 6, 7, 8, 9, 10]) HB ∧ H' = HB ++ Hm) (fun J => ?_) ?_
  · refine GC.seq ?_
    refine GC.reg ?_
    refine G.v (V.mv rfl) rfl ?_
    refine G.v (V.nc rfl) rfl ?_
    refine G.v (V.fa F155_10 rfl) rfl ?_
    refine G.v (V.ld Tryd.isAgg140 rfl (hmem HB) rfl) rfl ?_
    refine G.v (V.neO Tryd.underlying140 rfl) rfl ?_
    refine G.nil ?_
    refine GC.cond rfl (fun h => ?_) (fun h => ?_)
    · refine GC.reg ?_
      refine G.v (V.mv rfl) rfl ?_
      refine G.ws (s := [44, 32, 82, 69, 80, 79, 82, 84]) wspec Tryd.call116 rfl rfl rfl hB hn0 (K _ _ (Nat.le_trans (hgl _) (by decide)) (by decide)) (fun HB2 hB2 => ?_)
      refine G.nil ?_
      exact J _ _ ⟨.cons rfl (.cons rfl .nil), HB2, (hp_T2 (i := 10) [0, 1, 2, 3, 5, 6, 7, 8, 9] h rfl) ▸ hB2, rfl⟩
    refine GC.skip ?_
    exact J _ _ ⟨.cons rfl (.cons rfl .nil), HB, (hp_F [0, 1, 2, 3, 5, 6, 7, 8, 9] h) ▸ hB, rfl⟩
  clear hB HB
  rintro fr' H' ⟨hs, HB, hB, rfl⟩
  refine GC.weak hs ?_
  clear hs
  -- the others
  refine GC.seq ?_
  refine GC.join (fun fr' H' => Sub [(0, Pt m 0), (2, Pt b 0)] fr' ∧ ∃ HB ks, Buf 175 5 w.heap.size b (hp f [0, 1, 2, 3, 5, 6, 7, 8, 9, 10] ++ List.flatMap (fun k => [44, 32] ++ k) ks) HB ∧ List.Perm ks (kv.map (·.1)) ∧ H' = HB ++ Hm) (fun J => ?_) ?_
  · refine GC.seq ?_
    refine GC.reg ?_
    refine G.v (V.mv rfl) rfl ?_
    refine G.v (V.nc rfl) rfl ?_
    refine G.v (V.fa F155_11 rfl) rfl ?_
    refine G.v (V.ld Tryd.isAgg153 rfl (hmem HB) rfl) rfl ?_
    cases mp with
    | none =>
      refine G.rngN Tryd.underlying153 rfl rfl (fun it hit => ?_)
      refine G.nil ?_
      refine GC.block ?_
      refine GC.loop ?_
      refine GC.seq ?_
      refine GC.reg ?_
      refine G.nxtN rfl (.head _) rfl ?_
      refine G.v (V.ex rfl rfl) rfl ?_
      refine G.nil ?_
      refine GC.seq ?_
      refine GC.condF rfl ?_
      refine GC.exit rfl ?_
      refine GC.weakH (List.sublist_cons_self _ _) ?_
      have hkv : kv = [] := hkv
      exact J _ _ ⟨.cons rfl (.cons rfl .nil), HB, [], by simpa using hB, by rw [hkv]; exact .nil, rfl⟩
    | some mb =>
      have hkv : w.heap[mb]? = some (mkM (kvP kv)) := hkv
      have hmbl : mb < w.heap.size := (Array.getElem?_eq_some_iff.1 hkv).1
      have hne : ¬ mb = m := fun e => by rw [e, hm] at hkv; simp [mkM] at hkv
      refine G.turn (H' := ⟨mb, false, .obj (mkM (kvP kv))⟩ :: (HB ++ Hm)) (fun w1 hw1 => hw1.add (hw1.old hkv hne) (fun h => by cases h) (fun e he h => ?_)) ?_
      · have h1 := hw1.has e he
        rw [h] at h1
        have h2 := hw1.old hkv hne
        rw [h2] at h1
        rcases List.mem_append.1 he with he | he
        · have := hB.ge e he; omega
        · subst hHm; simp only [List.mem_singleton] at he; subst he; exact hne h.symm
      refine G.rng (kv := kvP kv) Tryd.underlying153 rfl (.head _) rfl (fun it hit => ?_)
      refine G.nil ?_
      refine GC.block ?_
      have hlen : (kvP kv).length = kv.length := by simp [kvP]
      have hn1 : ∀ o, (∀ c fz, o ≠ Obj.cells c 5 fz) → NoRow 5 w.heap.size (⟨it, true, .obj o⟩ :: ⟨mb, false, .obj (mkM (kvP kv))⟩ :: Hm) := fun o ho => .cons (.inr ho) (.cons (.inl hmbl) hn0)
      have hkey : ∀ (j : Nat) (p : List UInt8 × Value), (kvP kv)[j]? = some p → ∃ q ∈ kv, q.1 = p.1 := fun j p hp => by
        replace hp : (List.map (fun p : List UInt8 × Nat => (p.1, Pt p.2 0)) kv)[j]? = some p := hp
        rw [List.getElem?_map] at hp
        cases hj : kv[j]? with
        | none => simp [hj] at hp
        | some q => simp [hj] at hp; exact ⟨q, List.mem_of_getElem? hj, by rw [← hp]⟩
      refine GC.loopJ (fun N fr' H' => Sub [(0, Pt m 0), (2, Pt b 0), (97, Pt it 0)] fr' ∧ ∃ rem seen HB ks, List.length rem = N ∧ (rem ++ seen).Perm (List.range kv.length) ∧ ks = seen.map (fun j => ((kv[j]?).getD ([], 0)).1) ∧
          Buf 175 5 w.heap.size b (hp f [0, 1, 2, 3, 5, 6, 7, 8, 9, 10] ++ List.flatMap (fun k => [44, 32] ++ k) ks) HB ∧ (H' : SH).Perm (HB ++ (⟨it, true, .obj (mkIt mb (kvP kv).length seen (kvP kv).length)⟩ :: ⟨mb, false, .obj (mkM (kvP kv))⟩ :: Hm))) kv.length ?_ ?_
      · refine ⟨.cons rfl (.cons rfl (.cons rfl .nil)), List.range kv.length, [], HB, [], by simp, by simp, rfl, by simpa using hB, ?_⟩
        have : ∀ (x y : Ent) (A B : SH), (x :: y :: (A ++ B)).Perm (A ++ (x :: y :: B)) := fun x y A B => ((List.Perm.cons x (List.perm_middle (l₁ := A) (l₂ := B)).symm).trans List.perm_middle.symm)
        exact this _ _ _ _
      rintro N fr' H' ⟨hs, rem, seen, HB, ks, hN, hp1, hks, hB, hpm⟩ ih
      refine GC.weak hs ?_
      clear hs
      have hbd : (hp f [0, 1, 2, 3, 5, 6, 7, 8, 9, 10] ++ List.flatMap (fun k => [44, 32] ++ k) ks).length ≤ 107 + 1002 * 1000000 := by
        have h1 : seen.length ≤ kv.length := by have := hp1.length_eq; simp at this; omega
        have h2 := len_keys kv hk ks (fun x hx => by
          rw [hks] at hx
          obtain ⟨j, hj, rfl⟩ := List.mem_map.1 hx
          cases h3 : kv[j]? with
          | none => simp
          | some q => simpa using hk q (List.mem_of_getElem? h3))
        have h3 := hgl [0, 1, 2, 3, 5, 6, 7, 8, 9, 10]
        have h4 : ks.length = seen.length := by rw [hks]; simp
        simp only [List.length_append, List.length_cons, List.length_nil] at *
        omega
      refine GC.turn (fun w1 hw1 => hw1.perm (hpm.trans List.perm_append_comm)) ?_
      refine GC.seq ?_
      refine GC.reg ?_
      refine G.nxt (kv := kvP kv) rfl .z (.tail _ (.head _)) rfl (fun hall => ?_) (fun j p hj hns => ?_)
      · refine G.v (V.ex rfl rfl) rfl ?_
        refine G.nil ?_
        refine GC.seq ?_
        refine GC.condF rfl ?_
        refine GC.exit rfl ?_
        refine GC.turn (H' := HB ++ Hm) (fun w1 hw1 => (hw1.sub ((List.sublist_cons_self _ _).trans (List.sublist_cons_self _ _))).perm List.perm_append_comm) ?_
        refine J _ _ ⟨.cons rfl (.cons rfl .nil), HB, ks, hB, ?_, rfl⟩
        have hrem : rem = [] := by
          cases hr : rem with
          | nil => rfl
          | cons j r =>
            subst hr
            have hjm : j ∈ List.range kv.length := hp1.mem_iff.1 (by simp)
            have hjs := hall j (by simpa [kvP] using hjm)
            have hnd : ((j :: r) ++ seen).Nodup := hp1.nodup_iff.2 List.nodup_range
            exact absurd (List.mem_append_right r hjs) (List.nodup_cons.1 hnd).1
        subst hrem
        rw [hks]
        refine (List.Perm.map _ hp1).trans ?_
        refine List.Perm.of_eq (List.ext_getElem? fun i => ?_)
        simp only [List.getElem?_map]
        by_cases hi : i < kv.length
        · simp [List.getElem?_range hi, List.getElem?_eq_getElem hi]
        · simp [List.getElem?_eq_none (Nat.le_of_not_lt hi)]
          omega
      · refine G.v (V.ex rfl rfl) rfl ?_
        refine G.nil ?_
        refine GC.seq ?_
        refine GC.condT rfl ?_
        refine GC.skip ?_
        refine GC.block ?_
        refine GC.seq ?_
        refine GC.reg ?_
        refine G.v (V.ent (kv := kvP kv) rfl (.head _) (.tail _ (.head _)) hj) rfl ?_
        refine G.v (V.ex rfl rfl) rfl ?_
        refine G.v (V.asg rfl) rfl ?_
        refine G.nil ?_
        obtain ⟨q, hq1, hq2⟩ := hkey j p hj
        have hpk : p.1.length ≤ 1000 := hq2 ▸ hk q hq1
        have hjl : j < kv.length := by have := (List.getElem?_eq_some_iff.1 hj).1; simpa [kvP] using this
        have hkj : ((kv[j]?).getD ([], 0)).1 = p.1 := by
          have hj : (List.map (fun p : List UInt8 × Nat => (p.1, Pt p.2 0)) kv)[j]? = some p := hj
          rw [List.getElem?_map] at hj
          cases h3 : kv[j]? with
          | none => simp [h3] at hj
          | some q => simp [h3] at hj; simp [← hj]
        refine GC.turn (H' := HB ++ (⟨it, true, .obj (mkIt mb (kvP kv).length (seen ++ [j]) (kvP kv).length)⟩ :: ⟨mb, false, .obj (mkM (kvP kv))⟩ :: Hm)) (fun w1 hw1 => HF.perm (H := ⟨it, true, .obj (mkIt mb (kvP kv).length (seen ++ [j]) (kvP kv).length)⟩ :: ⟨mb, false, .obj (mkM (kvP kv))⟩ :: (Hm ++ HB)) hw1 (List.perm_append_comm (l₁ := ⟨it, true, .obj (mkIt mb (kvP kv).length (seen ++ [j]) (kvP kv).length)⟩ :: ⟨mb, false, .obj (mkM (kvP kv))⟩ :: Hm))) ?_
        have hnj := hn1 (mkIt mb (kvP kv).length (seen ++ [j]) (kvP kv).length) (fun c fz h => by simp [mkIt] at h)
        refine GC.seq ?_
        refine GC.reg ?_
        refine G.v (V.mv rfl) rfl ?_
        refine G.ws (s := [44, 32]) wspec Tryd.call116 rfl rfl rfl hB hnj (by simp only [List.length_cons, List.length_nil]; omega) (fun HB1 hB1 => ?_)
        refine G.nil ?_
        refine GC.reg ?_
        refine G.v (V.mv rfl) rfl ?_
        refine G.v (V.mv rfl) rfl ?_
        refine G.ws (s := p.1) wspec Tryd.call116 rfl rfl rfl hB1 hnj (by simp only [List.length_append, List.length_cons, List.length_nil] at *; omega) (fun HB2 hB2 => ?_)
        refine G.nil ?_
        refine GC.inBlock ?_
        have hjr : j ∈ rem := by
          have : j ∈ rem ++ seen := hp1.mem_iff.2 (by simpa using hjl)
          exact (List.mem_append.1 this).resolve_right hns
        have hl := List.length_erase_of_mem hjr
        have hpos := List.length_pos_of_mem hjr
        refine ih (N - 1) _ _ (by omega) ⟨.cons rfl (.cons rfl (.cons rfl .nil)), rem.erase j, seen ++ [j], HB2, ks ++ [p.1], by omega, ?_, by rw [hks]; simp [hkj], ?_, .refl _⟩
        · refine List.Perm.trans ?_ hp1
          rw [← List.append_assoc]
          refine (List.perm_append_comm).trans ?_
          exact (List.Perm.append_right seen (List.perm_cons_erase hjr).symm)
        · simpa [List.append_assoc] using hB2
  rintro fr' H' ⟨hs, HB, ks, hB, hks, rfl⟩
  refine GC.weak hs ?_
  refine GC.reg ?_
  refine G.v (V.mv rfl) rfl ?_
  refine G.v (V.mv rfl) rfl ?_
  refine G.callP Tryd.call118 rfl rfl (sPost sspec hB) ?_
  refine G.v (V.nc rfl) rfl ?_
  refine G.v (V.fa F155_12 rfl) rfl ?_
  refine G.turn (fun w1 hw1 => hw1.perm List.perm_append_comm) ?_
  subst hHm
  refine G.st Tryd.sizeOf9 rfl rfl rfl .z rfl rfl ?_
  refine G.nil ?_
  exact GC.end0 rfl fun w' hw' => ⟨rfl, _, ⟨ks, hks, rfl⟩, hw'.sub (List.sublist_append_left _ _)⟩

end Go.Proofs

/- addMethod. Printed by wip/mk_e4.py. -/
namespace Go.Proofs
open Go Bw
set_option maxRecDepth 20000

def addF (f : Nat → Option Nat) (meth : List UInt8) (h : Nat) : Nat → Option Nat :=
  match stdIx meth with
  | some i => fun j => if j = i then some h else f j
  | none => f
def addKV (kv : AL) (meth : List UInt8) (h : Nat) : AL :=
  match stdIx meth with
  | some _ => kv
  | none => aPut kv meth h
/-- the map of the other methods as an entry -/
inductive MapH : Option Nat → AL → SH → Prop
  | nil : MapH none [] []
  | mk {b : Nat} {kv : AL} : MapH (some b) kv [⟨b, true, .obj (mkM (kvP kv))⟩]

theorem MapH.at {mp : Option Nat} {kv : AL} {Hm H : SH} (h : MapH mp kv Hm) {w0 D w} (hw : HF w0 D H w) (hs : ∀ e ∈ Hm, e ∈ H) : MapAt w mp kv := by
  cases h with
  | nil => rfl
  | mk => exact hw.has _ (hs _ (.head _))

theorem aPut_len : ∀ (kv : AL) (m : List UInt8) (h : Nat), (aPut kv m h).length ≤ kv.length + 1
  | [], _, _ => by simp [aPut]
  | (k, v) :: r, m, h => by
    simp only [aPut]
    split
    · simp
    · have := aPut_len r m h; simp only [List.length_cons]; omega
theorem aPut_mem : ∀ (kv : AL) (m : List UInt8) (h : Nat) (p), p ∈ aPut kv m h → p.1 = m ∨ ∃ q ∈ kv, q.1 = p.1
  | [], m, h, p, hp => by simp only [aPut, List.mem_singleton] at hp; subst hp; exact .inl rfl
  | (k, v) :: r, m, h, p, hp => by
    simp only [aPut] at hp
    split at hp
    · rcases List.mem_cons.1 hp with rfl | hp
      · exact .inr ⟨(k, v), .head _, rfl⟩
      · exact .inr ⟨p, .tail _ hp, rfl⟩
    · rcases List.mem_cons.1 hp with rfl | hp
      · exact .inr ⟨(k, v), .head _, rfl⟩
      · rcases aPut_mem r m h p hp with h1 | ⟨q, h1, h2⟩
        · exact .inl h1
        · exact .inr ⟨q, .tail _ h1, h2⟩
theorem addKV_len (kv : AL) (m : List UInt8) (h : Nat) : (addKV kv m h).length ≤ kv.length + 1 := by
  unfold addKV; split
  · omega
  · exact aPut_len _ _ _
theorem addKV_key {kv : AL} {m : List UInt8} {h : Nat} (hk : ∀ p ∈ kv, p.1.length ≤ 1000) (hm : m.length ≤ 1000) : ∀ p ∈ addKV kv m h, p.1.length ≤ 1000 := by
  intro p hp
  unfold addKV at hp; split at hp
  · exact hk p hp
  · rcases aPut_mem _ _ _ _ hp with h1 | ⟨q, h1, h2⟩
    · rw [h1]; exact hm
    · rw [← h2]; exact hk q h1

/-- what addMethod leaves -/
inductive AddM (n m h : Nat) (l : List Value) (f : Nat → Option Nat) (mp : Option Nat) (kv : AL) (hdr : List UInt8) (Hm : SH) (meth : List UInt8) : SH → Prop
  | nf (e : meth = nfName) : AddM n m h l f mp kv hdr Hm meth (⟨n, true, .row (setL l 4 (Pt h 0)) 146 (0, 0)⟩ :: ⟨m, true, .row (mrow f mp hdr) 155 (0, 0)⟩ :: Hm)
  | mk {mp' : Option Nat} {hdr' : List UInt8} {Hm' : SH} (e : meth ≠ nfName) (h1 : MapH mp' (addKV kv meth h) Hm') (h2 : Hdr (addF f meth h) (addKV kv meth h) hdr') :
      AddM n m h l f mp kv hdr Hm meth (⟨n, true, .row (setL l 12 (.bool true)) 146 (0, 0)⟩ :: ⟨m, true, .row (mrow (addF f meth h) mp' hdr') 155 (0, 0)⟩ :: Hm')

theorem f139_any (w : World) (D : Nat → Prop) (n m h hh : Nat) (l : List Value) (f : Nat → Option Nat) (mp : Option Nat) (kv : AL) (hdr meth : List UInt8) (Hm : SH)
    (hH : HF w D (⟨n, true, .row l 146 (0, 0)⟩ :: ⟨m, true, .row (mrow f mp hdr) 155 (0, 0)⟩ :: Hm) w) (hMap : MapH mp kv Hm) (h0 : nth l 0 = some (Pt m 0)) (h4 : (nth l 4).isSome = true) (h12 : (nth l 12).isSome = true)
    (hh0 : w.cell? ⟨h, 0, none⟩ = some (Pt hh 0)) (hhD : ¬ D h) (hk : ∀ p ∈ kv, p.1.length ≤ 1000) (hml : meth.length ≤ 1000) (hkl : kv.length < 1000000) :
    Calls Tryd.prog 139 #[Pt n 0, S meth, Pt h 0] w fun e w' => e = .returned (.tuple #[]) ∧ ∃ H', AddM n m h l f mp kv hdr Hm meth H' ∧ HF w D H' w' := by
  refine enter D (⟨n, true, .row l 146 (0, 0)⟩ :: ⟨m, true, .row (mrow f mp hdr) 155 (0, 0)⟩ :: Hm) Tryd.func139 rfl Tryd.ntmps139 rfl rfl hH fun c hc => ?_
  subst hc
  refine GC.seq ?_
  refine GC.join (fun fr' H' => Sub [(0, Pt n 0)] fr' ∧ ∃ mp' Hm', meth ≠ nfName ∧ MapH mp' (addKV kv meth h) Hm' ∧ H' = ⟨n, true, .row l 146 (0, 0)⟩ :: ⟨m, true, .row (mrow (addF f meth h) mp' hdr) 155 (0, 0)⟩ :: Hm') (fun J => ?_) ?_
  rotate_left
  · rintro fr' H' ⟨hs, mp', Hm', hne, hM', rfl⟩
    refine GC.weak hs ?_
    refine GC.seq ?_
    refine GC.reg ?_  -- region 30
    refine G.v (V.mv rfl) rfl ?_
    refine G.v (V.nc rfl) rfl ?_
    refine G.v (V.fa F146_0 rfl) rfl ?_
    refine G.v (V.ld Tryd.isAgg142 rfl (.head _) h0) rfl ?_
    refine G.callW (fun _ H2 => ∃ hdr', Hdr (addF f meth h) (addKV kv meth h) hdr' ∧ H2 = ⟨m, true, .row (mrow (addF f meth h) mp' hdr') 155 (0, 0)⟩ :: ⟨n, true, .row l 146 (0, 0)⟩ :: Hm') Tryd.call144 rfl rfl (fun w1 hw1 => ?_) ?_
    · refine (f144_any w1 m _ mp' (addKV kv meth h) hdr (hw1.has _ (.tail _ (.head _))) (hM'.at hw1 (fun e he => .tail _ (.tail _ he))) (addKV_key hk hml) (by have := addKV_len kv meth h; omega)).mono fun e w2 ⟨he, hdr', h1, h2⟩ => ?_
      have hnd := (hw1.perm (List.Perm.swap _ _ _)).nd
      refine ⟨_, _, he, hw1.after (Hk := ⟨n, true, .row l 146 (0, 0)⟩ :: Hm') h2 (.cons_cons _ (List.sublist_cons_self _ _)) (fun b hb => hb ▸ hw1.wr _ (.tail _ (.head _)) rfl) (fun e he hb => ?_) (fun e he x hx hb => ?_), hdr', h1, rfl⟩
      · exact (List.pairwise_cons.1 hnd).1 e he hb.symm
      · simp only [List.mem_singleton] at he
        subst he
        exact (List.pairwise_cons.1 hnd).1 x hx hb
    rintro v H2 ⟨hdr', h1, rfl⟩
    refine G.nil ?_
    refine GC.reg ?_  -- region 31
    refine G.v (V.mv rfl) rfl ?_
    refine G.v (V.nc rfl) rfl ?_
    refine G.v (V.fa F146_12 rfl) rfl ?_
    refine G.st Tryd.sizeOf4 rfl rfl rfl (.s .z) h12 rfl ?_
    refine G.nil ?_
    exact GC.end0 rfl fun w' hw' => ⟨rfl, _, .mk hne hM' h1, hw'.perm (List.Perm.swap _ _ _)⟩
  refine GC.seq ?_
  refine GC.reg ?_  -- region 0, router.go:447
  refine G.v (V.mv rfl) rfl ?_
  refine G.nil ?_
  refine GC.block ?_
  refine GC.seq ?_
  refine GC.reg ?_  -- region 6, router.go:448
  refine G.v (V.eqS rfl rfl) rfl ?_
  refine G.v (V.asg rfl) rfl ?_
  refine G.nil ?_
  refine GC.condD rfl (fun h44 => ?_) (fun h44 => ?_)
  · refine GC.reg ?_  -- region 7, router.go:449
    refine G.v (V.mv rfl) rfl ?_
    refine G.v (V.nc rfl) rfl ?_
    refine G.v (V.fa F146_0 rfl) rfl ?_
    refine G.v (V.ld Tryd.isAgg142 rfl (.head _) h0) rfl ?_
    refine G.v (V.mv rfl) rfl ?_
    refine G.v (V.nc rfl) rfl ?_
    refine G.v (V.fa F155_0 rfl) rfl ?_
    refine G.st Tryd.sizeOf140 rfl rfl rfl (.s .z) rfl rfl ?_
    refine G.nil ?_
    refine GC.inBlock ?_
    have e : stdIx meth = some 0 := by rw [stdIx, if_pos h44]
    have e1 : addF f meth h = fun j => if j = 0 then some h else f j := by rw [addF, e]
    have e2 : addKV kv meth h = kv := by rw [addKV, e]
    exact J _ _ ⟨.cons rfl .nil, mp, Hm, fun e3 => by rw [e3] at e; revert e; decide, by rw [e2]; exact hMap, by rw [e1]; rfl⟩
  refine GC.seq ?_
  refine GC.reg ?_  -- region 8, router.go:450
  refine G.v (V.eqS rfl rfl) rfl ?_
  refine G.v (V.asg rfl) rfl ?_
  refine G.nil ?_
  refine GC.condD rfl (fun h53 => ?_) (fun h53 => ?_)
  · refine GC.reg ?_  -- region 9, router.go:451
    refine G.v (V.mv rfl) rfl ?_
    refine G.v (V.nc rfl) rfl ?_
    refine G.v (V.fa F146_0 rfl) rfl ?_
    refine G.v (V.ld Tryd.isAgg142 rfl (.head _) h0) rfl ?_
    refine G.v (V.mv rfl) rfl ?_
    refine G.v (V.nc rfl) rfl ?_
    refine G.v (V.fa F155_1 rfl) rfl ?_
    refine G.st Tryd.sizeOf140 rfl rfl rfl (.s .z) rfl rfl ?_
    refine G.nil ?_
    refine GC.inBlock ?_
    have e : stdIx meth = some 1 := by rw [stdIx, if_neg h44, if_pos h53]
    have e1 : addF f meth h = fun j => if j = 1 then some h else f j := by rw [addF, e]
    have e2 : addKV kv meth h = kv := by rw [addKV, e]
    exact J _ _ ⟨.cons rfl .nil, mp, Hm, fun e3 => by rw [e3] at e; revert e; decide, by rw [e2]; exact hMap, by rw [e1]; rfl⟩
  refine GC.seq ?_
  refine GC.reg ?_  -- region 10, router.go:452
  refine G.v (V.eqS rfl rfl) rfl ?_
  refine G.v (V.asg rfl) rfl ?_
  refine G.nil ?_
  refine GC.condD rfl (fun h62 => ?_) (fun h62 => ?_)
  · refine GC.reg ?_  -- region 11, router.go:453
    refine G.v (V.mv rfl) rfl ?_
    refine G.v (V.nc rfl) rfl ?_
    refine G.v (V.fa F146_0 rfl) rfl ?_
    refine G.v (V.ld Tryd.isAgg142 rfl (.head _) h0) rfl ?_
    refine G.v (V.mv rfl) rfl ?_
    refine G.v (V.nc rfl) rfl ?_
    refine G.v (V.fa F155_2 rfl) rfl ?_
    refine G.st Tryd.sizeOf140 rfl rfl rfl (.s .z) rfl rfl ?_
    refine G.nil ?_
    refine GC.inBlock ?_
    have e : stdIx meth = some 2 := by rw [stdIx, if_neg h44, if_neg h53, if_pos h62]
    have e1 : addF f meth h = fun j => if j = 2 then some h else f j := by rw [addF, e]
    have e2 : addKV kv meth h = kv := by rw [addKV, e]
    exact J _ _ ⟨.cons rfl .nil, mp, Hm, fun e3 => by rw [e3] at e; revert e; decide, by rw [e2]; exact hMap, by rw [e1]; rfl⟩
  refine GC.seq ?_
  refine GC.reg ?_  -- region 12, router.go:454
  refine G.v (V.eqS rfl rfl) rfl ?_
  refine G.v (V.asg rfl) rfl ?_
  refine G.nil ?_
  refine GC.condD rfl (fun h71 => ?_) (fun h71 => ?_)
  · refine GC.reg ?_  -- region 13, router.go:455
    refine G.v (V.mv rfl) rfl ?_
    refine G.v (V.nc rfl) rfl ?_
    refine G.v (V.fa F146_0 rfl) rfl ?_
    refine G.v (V.ld Tryd.isAgg142 rfl (.head _) h0) rfl ?_
    refine G.v (V.mv rfl) rfl ?_
    refine G.v (V.nc rfl) rfl ?_
    refine G.v (V.fa F155_3 rfl) rfl ?_
    refine G.st Tryd.sizeOf140 rfl rfl rfl (.s .z) rfl rfl ?_
    refine G.nil ?_
    refine GC.inBlock ?_
    have e : stdIx meth = some 3 := by rw [stdIx, if_neg h44, if_neg h53, if_neg h62, if_pos h71]
    have e1 : addF f meth h = fun j => if j = 3 then some h else f j := by rw [addF, e]
    have e2 : addKV kv meth h = kv := by rw [addKV, e]
    exact J _ _ ⟨.cons rfl .nil, mp, Hm, fun e3 => by rw [e3] at e; revert e; decide, by rw [e2]; exact hMap, by rw [e1]; rfl⟩
  refine GC.seq ?_
  refine GC.reg ?_  -- region 14, router.go:456
  refine G.v (V.eqS rfl rfl) rfl ?_
  refine G.v (V.asg rfl) rfl ?_
  refine G.nil ?_
  refine GC.condD rfl (fun h80 => ?_) (fun h80 => ?_)
  · refine GC.reg ?_  -- region 15, router.go:457
    refine G.v (V.mv rfl) rfl ?_
    refine G.v (V.nc rfl) rfl ?_
    refine G.v (V.fa F146_0 rfl) rfl ?_
    refine G.v (V.ld Tryd.isAgg142 rfl (.head _) h0) rfl ?_
    refine G.v (V.mv rfl) rfl ?_
    refine G.v (V.nc rfl) rfl ?_
    refine G.v (V.fa F155_4 rfl) rfl ?_
    refine G.st Tryd.sizeOf140 rfl rfl rfl (.s .z) rfl rfl ?_
    refine G.nil ?_
    refine GC.inBlock ?_
    have e : stdIx meth = some 4 := by rw [stdIx, if_neg h44, if_neg h53, if_neg h62, if_neg h71, if_pos h80]
    have e1 : addF f meth h = fun j => if j = 4 then some h else f j := by rw [addF, e]
    have e2 : addKV kv meth h = kv := by rw [addKV, e]
    exact J _ _ ⟨.cons rfl .nil, mp, Hm, fun e3 => by rw [e3] at e; revert e; decide, by rw [e2]; exact hMap, by rw [e1]; rfl⟩
  refine GC.seq ?_
  refine GC.reg ?_  -- region 16, router.go:458
  refine G.v (V.eqS rfl rfl) rfl ?_
  refine G.v (V.asg rfl) rfl ?_
  refine G.nil ?_
  refine GC.condD rfl (fun h89 => ?_) (fun h89 => ?_)
  · refine GC.reg ?_  -- region 17, router.go:459
    refine G.v (V.mv rfl) rfl ?_
    refine G.v (V.nc rfl) rfl ?_
    refine G.v (V.fa F146_0 rfl) rfl ?_
    refine G.v (V.ld Tryd.isAgg142 rfl (.head _) h0) rfl ?_
    refine G.v (V.mv rfl) rfl ?_
    refine G.v (V.nc rfl) rfl ?_
    refine G.v (V.fa F155_5 rfl) rfl ?_
    refine G.st Tryd.sizeOf140 rfl rfl rfl (.s .z) rfl rfl ?_
    refine G.nil ?_
    refine GC.inBlock ?_
    have e : stdIx meth = some 5 := by rw [stdIx, if_neg h44, if_neg h53, if_neg h62, if_neg h71, if_neg h80, if_pos h89]
    have e1 : addF f meth h = fun j => if j = 5 then some h else f j := by rw [addF, e]
    have e2 : addKV kv meth h = kv := by rw [addKV, e]
    exact J _ _ ⟨.cons rfl .nil, mp, Hm, fun e3 => by rw [e3] at e; revert e; decide, by rw [e2]; exact hMap, by rw [e1]; rfl⟩
  refine GC.seq ?_
  refine GC.reg ?_  -- region 18, router.go:460
  refine G.v (V.eqS rfl rfl) rfl ?_
  refine G.v (V.asg rfl) rfl ?_
  refine G.nil ?_
  refine GC.condD rfl (fun h98 => ?_) (fun h98 => ?_)
  · refine GC.reg ?_  -- region 19, router.go:461
    refine G.v (V.mv rfl) rfl ?_
    refine G.v (V.nc rfl) rfl ?_
    refine G.v (V.fa F146_0 rfl) rfl ?_
    refine G.v (V.ld Tryd.isAgg142 rfl (.head _) h0) rfl ?_
    refine G.v (V.mv rfl) rfl ?_
    refine G.v (V.nc rfl) rfl ?_
    refine G.v (V.fa F155_6 rfl) rfl ?_
    refine G.st Tryd.sizeOf140 rfl rfl rfl (.s .z) rfl rfl ?_
    refine G.nil ?_
    refine GC.inBlock ?_
    have e : stdIx meth = some 6 := by rw [stdIx, if_neg h44, if_neg h53, if_neg h62, if_neg h71, if_neg h80, if_neg h89, if_pos h98]
    have e1 : addF f meth h = fun j => if j = 6 then some h else f j := by rw [addF, e]
    have e2 : addKV kv meth h = kv := by rw [addKV, e]
    exact J _ _ ⟨.cons rfl .nil, mp, Hm, fun e3 => by rw [e3] at e; revert e; decide, by rw [e2]; exact hMap, by rw [e1]; rfl⟩
  refine GC.seq ?_
  refine GC.reg ?_  -- region 20, router.go:462
  refine G.v (V.eqS rfl rfl) rfl ?_
  refine G.v (V.asg rfl) rfl ?_
  refine G.nil ?_
  refine GC.condD rfl (fun h107 => ?_) (fun h107 => ?_)
  · refine GC.reg ?_  -- region 21, router.go:463
    refine G.v (V.mv rfl) rfl ?_
    refine G.v (V.nc rfl) rfl ?_
    refine G.v (V.fa F146_0 rfl) rfl ?_
    refine G.v (V.ld Tryd.isAgg142 rfl (.head _) h0) rfl ?_
    refine G.v (V.mv rfl) rfl ?_
    refine G.v (V.nc rfl) rfl ?_
    refine G.v (V.fa F155_7 rfl) rfl ?_
    refine G.st Tryd.sizeOf140 rfl rfl rfl (.s .z) rfl rfl ?_
    refine G.nil ?_
    refine GC.inBlock ?_
    have e : stdIx meth = some 7 := by rw [stdIx, if_neg h44, if_neg h53, if_neg h62, if_neg h71, if_neg h80, if_neg h89, if_neg h98, if_pos h107]
    have e1 : addF f meth h = fun j => if j = 7 then some h else f j := by rw [addF, e]
    have e2 : addKV kv meth h = kv := by rw [addKV, e]
    exact J _ _ ⟨.cons rfl .nil, mp, Hm, fun e3 => by rw [e3] at e; revert e; decide, by rw [e2]; exact hMap, by rw [e1]; rfl⟩
  refine GC.seq ?_
  refine GC.reg ?_  -- region 22, router.go:464
  refine G.v (V.eqS rfl rfl) rfl ?_
  refine G.v (V.asg rfl) rfl ?_
  refine G.nil ?_
  refine GC.condD rfl (fun h116 => ?_) (fun h116 => ?_)
  · refine GC.reg ?_  -- region 23, router.go:465
    refine G.v (V.mv rfl) rfl ?_
    refine G.v (V.nc rfl) rfl ?_
    refine G.v (V.fa F146_0 rfl) rfl ?_
    refine G.v (V.ld Tryd.isAgg142 rfl (.head _) h0) rfl ?_
    refine G.v (V.mv rfl) rfl ?_
    refine G.v (V.nc rfl) rfl ?_
    refine G.v (V.fa F155_8 rfl) rfl ?_
    refine G.st Tryd.sizeOf140 rfl rfl rfl (.s .z) rfl rfl ?_
    refine G.nil ?_
    refine GC.inBlock ?_
    have e : stdIx meth = some 8 := by rw [stdIx, if_neg h44, if_neg h53, if_neg h62, if_neg h71, if_neg h80, if_neg h89, if_neg h98, if_neg h107, if_pos h116]
    have e1 : addF f meth h = fun j => if j = 8 then some h else f j := by rw [addF, e]
    have e2 : addKV kv meth h = kv := by rw [addKV, e]
    exact J _ _ ⟨.cons rfl .nil, mp, Hm, fun e3 => by rw [e3] at e; revert e; decide, by rw [e2]; exact hMap, by rw [e1]; rfl⟩
  refine GC.seq ?_
  refine GC.reg ?_  -- region 24, router.go:466
  refine G.v (V.eqS rfl rfl) rfl ?_
  refine G.v (V.asg rfl) rfl ?_
  refine G.nil ?_
  refine GC.condD rfl (fun h125 => ?_) (fun h125 => ?_)
  · refine GC.reg ?_  -- region 25, router.go:467
    refine G.v (V.mv rfl) rfl ?_
    refine G.v (V.nc rfl) rfl ?_
    refine G.v (V.fa F146_0 rfl) rfl ?_
    refine G.v (V.ld Tryd.isAgg142 rfl (.head _) h0) rfl ?_
    refine G.v (V.mv rfl) rfl ?_
    refine G.v (V.nc rfl) rfl ?_
    refine G.v (V.fa F155_9 rfl) rfl ?_
    refine G.st Tryd.sizeOf140 rfl rfl rfl (.s .z) rfl rfl ?_
    refine G.nil ?_
    refine GC.inBlock ?_
    have e : stdIx meth = some 9 := by rw [stdIx, if_neg h44, if_neg h53, if_neg h62, if_neg h71, if_neg h80, if_neg h89, if_neg h98, if_neg h107, if_neg h116, if_pos h125]
    have e1 : addF f meth h = fun j => if j = 9 then some h else f j := by rw [addF, e]
    have e2 : addKV kv meth h = kv := by rw [addKV, e]
    exact J _ _ ⟨.cons rfl .nil, mp, Hm, fun e3 => by rw [e3] at e; revert e; decide, by rw [e2]; exact hMap, by rw [e1]; rfl⟩
  refine GC.seq ?_
  refine GC.reg ?_  -- region 26, router.go:468
  refine G.v (V.eqS rfl rfl) rfl ?_
  refine G.v (V.asg rfl) rfl ?_
  refine G.nil ?_
  refine GC.condD rfl (fun h134 => ?_) (fun h134 => ?_)
  · refine GC.reg ?_  -- region 27, router.go:469
    refine G.v (V.mv rfl) rfl ?_
    refine G.v (V.nc rfl) rfl ?_
    refine G.v (V.fa F146_0 rfl) rfl ?_
    refine G.v (V.ld Tryd.isAgg142 rfl (.head _) h0) rfl ?_
    refine G.v (V.mv rfl) rfl ?_
    refine G.v (V.nc rfl) rfl ?_
    refine G.v (V.fa F155_10 rfl) rfl ?_
    refine G.st Tryd.sizeOf140 rfl rfl rfl (.s .z) rfl rfl ?_
    refine G.nil ?_
    refine GC.inBlock ?_
    have e : stdIx meth = some 10 := by rw [stdIx, if_neg h44, if_neg h53, if_neg h62, if_neg h71, if_neg h80, if_neg h89, if_neg h98, if_neg h107, if_neg h116, if_neg h125, if_pos h134]
    have e1 : addF f meth h = fun j => if j = 10 then some h else f j := by rw [addF, e]
    have e2 : addKV kv meth h = kv := by rw [addKV, e]
    exact J _ _ ⟨.cons rfl .nil, mp, Hm, fun e3 => by rw [e3] at e; revert e; decide, by rw [e2]; exact hMap, by rw [e1]; rfl⟩
  refine GC.seq ?_
  refine GC.reg ?_  -- region 28, router.go:470
  refine G.v (V.eqS rfl rfl) rfl ?_
  refine G.v (V.asg rfl) rfl ?_
  refine G.nil ?_
  refine GC.condD rfl (fun h143 => ?_) (fun h143 => ?_)
  · refine GC.seq ?_
    refine GC.reg ?_  -- region 29, router.go:471
    refine G.v (V.mv rfl) rfl ?_
    refine G.v (V.mv rfl) rfl ?_
    refine G.v (V.nc rfl) rfl ?_
    refine G.v (V.fa F146_4 rfl) rfl ?_
    refine G.st Tryd.sizeOf140 rfl rfl rfl .z h4 rfl ?_
    refine G.nil ?_
    exact GC.ret0 rfl fun w' hw' => ⟨rfl, _, .nf h143, hw'⟩
  refine GC.seq ?_
  refine GC.seq ?_
  have e : stdIx meth = none := by rw [stdIx, if_neg h44, if_neg h53, if_neg h62, if_neg h71, if_neg h80, if_neg h89, if_neg h98, if_neg h107, if_neg h116, if_neg h125, if_neg h134]
  have e1 : addF f meth h = f := by rw [addF, e]
  have e2 : addKV kv meth h = aPut kv meth h := by rw [addKV, e]
  refine GC.reg ?_  -- region 1
  refine G.v (V.mv rfl) rfl ?_
  refine G.v (V.nc rfl) rfl ?_
  refine G.v (V.fa F146_0 rfl) rfl ?_
  refine G.v (V.ld Tryd.isAgg142 rfl (.head _) h0) rfl ?_
  refine G.v (V.nc rfl) rfl ?_
  refine G.v (V.fa F155_11 rfl) rfl ?_
  refine G.v (V.ld Tryd.isAgg153 rfl (.tail _ (.head _)) rfl) rfl ?_
  refine G.v (V.eqM Tryd.underlying153 rfl) rfl ?_
  refine G.nil ?_
  cases hMap with
  | nil =>
    refine GC.condT rfl ?_
    refine GC.reg ?_  -- region 2
    refine G.v (V.mv rfl) rfl ?_
    refine G.v (V.nc rfl) rfl ?_
    refine G.v (V.fa F146_0 rfl) rfl ?_
    refine G.v (V.ld Tryd.isAgg142 rfl (.head _) h0) rfl ?_
    refine G.mm rfl (fun b hb => ?_)
    refine G.v (V.nc rfl) rfl ?_
    refine G.v (V.fa F155_11 rfl) rfl ?_
    refine G.st Tryd.sizeOf153 rfl rfl rfl (.s (.s .z)) rfl rfl ?_
    refine G.nil ?_
    refine GC.turn (H' := [⟨n, true, .row l 146 (0, 0)⟩, ⟨m, true, .row (mrow f (some b) hdr) 155 (0, 0)⟩, ⟨b, true, .obj (mkM (kvP []))⟩]) (fun w1 hw1 => HF.perm (H := [⟨b, true, .obj (mkM (kvP []))⟩, ⟨n, true, .row l 146 (0, 0)⟩, ⟨m, true, .row (mrow f (some b) hdr) 155 (0, 0)⟩]) hw1 (List.perm_append_comm (l₁ := [(⟨b, true, .obj (mkM (kvP []))⟩ : Ent)]))) ?_
    refine GC.seq ?_
    refine GC.reg ?_  -- region 3
    refine G.v (V.mv rfl) rfl ?_
    refine G.v (V.nc rfl) rfl ?_
    refine G.v (V.fa F152_0 rfl) rfl ?_
    refine G.v (V.ldC Tryd.isAgg95 rfl hh0 hhD) rfl ?_
    refine G.v (V.eqP (p := some ⟨hh, 0, none⟩) Tryd.underlying95 rfl) rfl ?_
    refine G.nil ?_
    refine GC.condF rfl ?_
    refine GC.reg ?_  -- region 5
    refine G.v (V.mv rfl) rfl ?_
    refine G.v (V.nc rfl) rfl ?_
    refine G.v (V.fa F146_0 rfl) rfl ?_
    refine G.v (V.ld Tryd.isAgg142 rfl (.head _) h0) rfl ?_
    refine G.v (V.nc rfl) rfl ?_
    refine G.v (V.fa F155_11 rfl) rfl ?_
    refine G.v (V.ld Tryd.isAgg153 rfl (.tail _ (.head _)) rfl) rfl ?_
    refine G.v (V.mv rfl) rfl ?_
    refine G.v (V.mv rfl) rfl ?_
    refine G.mu (kv := kvP []) Tryd.underlying153 Tryd.underlying9 rfl rfl rfl (.s (.s .z)) ?_
    refine G.nil ?_
    refine GC.inBlock ?_
    rw [kvPut_kvP]
    exact J _ _ ⟨.cons rfl .nil, some b, [⟨b, true, .obj (mkM (kvP (aPut [] meth h)))⟩], h143, by rw [e2]; exact .mk, by rw [e1]; rfl⟩
  | @mk b _ =>
    refine GC.condF rfl ?_
    refine GC.skip ?_
    refine GC.seq ?_
    refine GC.reg ?_  -- region 3
    refine G.v (V.mv rfl) rfl ?_
    refine G.v (V.nc rfl) rfl ?_
    refine G.v (V.fa F152_0 rfl) rfl ?_
    refine G.v (V.ldC Tryd.isAgg95 rfl hh0 hhD) rfl ?_
    refine G.v (V.eqP (p := some ⟨hh, 0, none⟩) Tryd.underlying95 rfl) rfl ?_
    refine G.nil ?_
    refine GC.condF rfl ?_
    refine GC.reg ?_  -- region 5
    refine G.v (V.mv rfl) rfl ?_
    refine G.v (V.nc rfl) rfl ?_
    refine G.v (V.fa F146_0 rfl) rfl ?_
    refine G.v (V.ld Tryd.isAgg142 rfl (.head _) h0) rfl ?_
    refine G.v (V.nc rfl) rfl ?_
    refine G.v (V.fa F155_11 rfl) rfl ?_
    refine G.v (V.ld Tryd.isAgg153 rfl (.tail _ (.head _)) rfl) rfl ?_
    refine G.v (V.mv rfl) rfl ?_
    refine G.v (V.mv rfl) rfl ?_
    refine G.mu (kv := kvP kv) Tryd.underlying153 Tryd.underlying9 rfl rfl rfl (.s (.s .z)) ?_
    refine G.nil ?_
    refine GC.inBlock ?_
    rw [kvPut_kvP]
    exact J _ _ ⟨.cons rfl .nil, some b, [⟨b, true, .obj (mkM (kvP (aPut kv meth h)))⟩], h143, by rw [e2]; exact .mk, by rw [e1]; rfl⟩
end Go.Proofs
