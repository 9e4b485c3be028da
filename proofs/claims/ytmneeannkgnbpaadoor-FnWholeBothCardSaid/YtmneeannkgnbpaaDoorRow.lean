/- From a law to its row. -/
import Derived.Test.YtmneeannkgnbpaaDoorL1
import Derived.Test.YtmneeannkgnbpaaDoorL2
import Derived.Test.YtmneeannkgnbpaaDoorCards
import Derived.Test.YtmneeannkgnbpaaDoorTie
import Derived.Test.YtmneeannkgnbpaaDoorP01
import Derived.WalkKit
import Derived.ProofKit
import Derived.OpenShut
import Derived.SliceStrings
import Derived.Carry
import Derived.ChangeSame
import Derived.Deep.DeepHandedRow
import Derived.Deep.DeepWitnessRowRef
import Derived.Lib.LaidTab
set_option maxRecDepth 100000
namespace Go.Proofs.YtmneeannkgnbpaaDoor
open Go Bw Go.ChangeShapes Go.WideShapes Go.ChangeAt Go.RowKit Go.WideElems
theorem aiG:ownKnob Tryd.prog.godebug=none:=by kernel_rfl
theorem aiH:laidOutB Tryd.prog=true:=by kernel_rfl
theorem aiI:Tryd.prog.cellsOf 9=1:=by kernel_rfl
theorem aiJ {W W':World} (h:HF W (fun _=>False) [] W'):Below W.heap.size W W':=⟨h.os,h.tape,h.output,h.size,fun b hb=>h.frame b hb id⟩
theorem aiK {H:Type} {so:TypeId×Value->H} {P:Program} (lo:laidOutB P=true) {W W':World} {Y3:Nat->Bool}:∀(ts:List TypeId) (vs:List Value) (ds:List (DataW H)) (ps:List MemPlace),ts.all (fun t=>P.readableRec t&&decide (t<P.types.size))=true->
  DataW.TrodAll so P W 0 (fun _=>true) true ts vs ds ps->(∀p∈ps,W.sameAt W' p)->(∀p∈ps,Y3 p.block=true)->DataW.TrodAll so P W' 0 Y3 true ts vs ds ps:=by
 intro ts
 induction ts with
 |nil=>
  intro vs ds ps _ h _ _
  cases vs with
  |nil=>cases ds with
   |nil=>exact h
   |cons=>exact h.elim
  |cons=>cases ds<;>exact h.elim
 |cons t ts ih=>
  intro vs ds ps hb h hs M4
  cases vs with
  |nil=>cases ds<;>exact h.elim
  |cons v vs=>
   cases ds with
   |nil=>exact h.elim
   |cons d ds=>
    obtain⟨p,q,h1,h2,rfl⟩:=h;simp only[List.all_cons,cG,decide_eq_true_eq] at hb
    exact⟨p,q,Trod_stays lo hb.1.1 hb.1.2 h1 (fun x hx=>hs x (ay _ hx)) (fun x hx=>M4 x (ay _ hx)),
     ih vs ds q hb.2 h2 (fun x hx=>hs x (au _ hx)) (fun x hx=>M4 x (au _ hx)),rfl⟩
theorem aiL {W':World}:Value.okWide Tryd.prog W' .any 0 4 (.bool true):=okWide_bool_mk eo _
theorem aiM {H:Type} {so:TypeId×Value->H} {f:Func} {s:ChangeSpec} {apart fresh handsOn again:Bool} {W W':World} {args:Array Value} {ds gs:List (DataW H)} {before:List MemPlace}
  (hW:DataW.Whole so Tryd.prog f.params.toList s.vars apart W args.toList ds gs before) (hv:s.vars=[]) (hr:f.resultTypes= #[4]) (hf:s.fn H (ds++gs)={results:=[.lit (.bool true)],args:=ds})
  (hb:f.params.toList.all (fun t=>Tryd.prog.readableRec t&&decide (t<Tryd.prog.types.size))=true) (hB:Below W.heap.size W W'):s.post so Tryd.prog f apart fresh handsOn again W args (.bool true) W':=by
 have R8:=hW;obtain⟨pa,pv,hA,hV,rfl,hz,hn⟩:=hW
 have hg:gs=[]/\pv=[]:=by
  rw[hv] at hV
  cases gs with
  |nil=>exact⟨rfl,hV⟩
  |cons g r=>exact absurd hV (by intro h;cases h)
 obtain⟨rfl,rfl⟩:=hg;have mS:∀p∈pa,p.block<W.heap.size:=fun p hp=>hA.lt p hp
 have RN:∀p∈pa,W.sameAt W' p:=fun p hp=>hB.same (mS p hp)
 have ol:∀(b:Nat) (sp:Nat->Bool) (hd:Bool),DataW.TrodAll so Tryd.prog W' b sp hd f.resultTypes.toList ((Value.bool true).resultList f.resultTypes.size) (s.fn H (ds++[])).results []:=fun b sp hd=>by
  rw[hf,hr];exact trodAll_mk1 (shut_bool eo true)
 have R9:∀sp:Nat->Bool,(∀p∈pa,sp p.block=true)->DataW.TrodAll so Tryd.prog W' 0 sp true f.params.toList args.toList (s.fn H (ds++[])).args pa:=fun sp M4=>by
  rw[hf];exact aiK aiH _ _ _ _ hb hA RN M4
 have Y4:∀sp:Nat->Bool,DataW.TrodVars so Tryd.prog W' sp s.vars (s.fn H (ds++[])).vars []:=fun sp=>by
  rw[hf,hv];rfl
 refine⟨ds,[],pa++[],[],pa,[],R8,ol _ _ _,R9 _ (fun p hp=>by simpa using mS p hp),Y4 _,World.keptBut_mono (fun p hp=>⟨hp,.inr (by simpa using hp)⟩) (hB.frame _),fun _=>?_⟩;refine⟨ok_one hr rfl aiL,_,_,([]++pa)++[],⟨[]++pa,[],trodAll_append (R9 _ (fun _ _=>rfl)) (ol _ _ _),Y4 _,rfl,?_,?_⟩,?_⟩
 ·intro b off hp;have uQ:MemPlace.cell b off∈pa:=by simpa using hp
  rw[hB.frozen (p:=⟨b,off,none⟩) (mS _ uQ)];exact hz b off (by simpa using hp)
 ·intro ha;have:=hn ha;simpa using this
 intro p hp _;simpa using hp
section
variable {H:Type} {so:TypeId×Value->H} {P:Program} {W:World} {b0:Nat} {v:Value} {d:DataW H} {ps:List MemPlace}
theorem aiN {t:TypeId} (ht:P.underlying t=some .string) (DO:Value.okWide P W .any b0 t v):∃l,v=S l:=by
 obtain⟨s,rfl⟩:=okWide_string ht DO;exact⟨s.data.toList,Sr s⟩
end
abbrev aiO:ByteArray:={data:= #[98,121,116,101,115,46,66,117,102,102,101,114,58,32,116,111,111,32,108,97,114,103,101]}
noncomputable def low:Nat:=(World.holding Tryd.prog default ⟨#[], #[],[]⟩).heap.size
noncomputable def Sa (os:Os):World:=
 let w0:=World.holding Tryd.prog os ⟨#[.cells #[.string aiO] 176], #[],[]⟩
 { w0 with heap:=w0.heap.modify 1 fun
   |.cells _ t frozen=>.cells #[.iface 174 (.pointer (some ⟨low,0,none⟩))] t frozen
   |o=>o}
end Go.Proofs.YtmneeannkgnbpaaDoor
