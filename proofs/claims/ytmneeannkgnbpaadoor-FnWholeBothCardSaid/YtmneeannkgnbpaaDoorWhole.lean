/- The law FnWholeBoth holds for every input: both routers find the same route with the same names and values. -/
import Derived.Test.YtmneeannkgnbpaaDoorL1
import Derived.Test.YtmneeannkgnbpaaDoorL2
import Derived.Test.YtmneeannkgnbpaaDoorRowb
import Derived.Test.YtmneeannkgnbpaaDoorP33
import Derived.Test.YtmneeannkgnbpaaDoorP01
set_option maxRecDepth 100000
namespace Go.Proofs.YtmneeannkgnbpaaDoor.wholeboth
open Go Bw Go.ChangeShapes Go.WideShapes Go.ChangeAt Go.RowKit
theorem ai5 (H:Type) (so:TypeId×Value->H) (W:World) (base:Nat) (args:Array Value) (ds gs:List (DataW H)) (before:List MemPlace)
  (DO:∀(j:Nat) t v,Tryd.f3.params[j]? =some t->args[j]? =some v->Value.okWide Tryd.prog W .any base t v)
  (hW:DataW.Whole so Tryd.prog Tryd.f3.params.toList Rows.fnWholeBothSpec.vars false W args.toList ds gs before):
  Calls Tryd.prog 3 args W fun e W'=>∃v,e=.returned v/\Rows.fnWholeBothSpec.post so Tryd.prog Tryd.f3 false true false false W args v W':=by
 have R8:=hW;obtain⟨p,q,hA0,hV,rfl,DR,nj⟩:=hW;have hA:DataW.TrodAll so Tryd.prog W 0 (fun _=>true) true [22,9] args.toList ds p:=hA0;obtain⟨v0,vs0,d0,ds0,p0,q0,R9,rfl,rfl,h0,r0⟩:=trodAll_cons hA;obtain⟨v1,akm,d1,ds1,p1,q1,rfl,rfl,rfl,h1,r1⟩:=trodAll_cons r0;obtain⟨rfl,rfl,rfl⟩:=trodAll_nil r1;obtain rfl:args= #[v0,v1]:=by cases args;simp_all
 obtain⟨rs0,ai8⟩:=aiV (DO 0 22 v0 rfl rfl) h0;obtain⟨l1,rfl⟩:=aiN aa (DO 1 9 v1 rfl rfl);refine(ait W rs0 v0 ai8 l1).mono fun e W' ⟨he,hf⟩=>⟨_,he,?_⟩
 refine aiM R8 rfl rfl ?_ (by kernel_rfl) (aiJ hf);obtain⟨rfl,rfl⟩:=trodVars_none hV;rfl
theorem ai9 (os:Os):laidMet Tryd.prog Rows.fnWholeBothRow.laid ((Sa os).forCall (fun _ _=>0) ⟨#[], #[.slice none 0 0,.string ⟨#[]⟩],[]⟩).memory :=
 laidMet_of_run (ps:=[.cell 1 0,.cell low 0]) 8 (by kernel_rfl) (by kernel_rfl) (by kernel_rfl)
theorem reads (os:Os) {H:Type} (so:TypeId×Value->H):∃places,DataW.whole so Tryd.prog ((Sa os).forCall (fun _ _=>0) ⟨#[], #[.slice none 0 0,.string ⟨#[]⟩],[]⟩).memory Tryd.f3.params.toList Rows.fnWholeBothSpec.vars false (#[.slice none 0 0,.string ⟨#[]⟩]:Array Value).toList 8=some ([.nil,.lit (.string [])],[],places):=
 ⟨[],by kernel_rfl⟩
theorem lifted (os:Os) (started:os.Started) (H:Type) (so:TypeId×Value->H) (F:Stop.Interp):
  ReturnsInHanded {} Tryd.checked os 3 .any ((OpenSpec.ofChange Rows.fnWholeBothSpec).preRow so Tryd.prog Tryd.f3 Rows.fnWholeBothRow.domain false Rows.fnWholeBothRow.laid) (((OpenSpec.ofChange Rows.fnWholeBothSpec).at F).post so Tryd.prog Tryd.f3 false true false false):=by
 obtain⟨places,hx⟩:=reads os so
 refine returnsInHanded_of_row (C:=Tryd.checked) (s:=OpenSpec.ofChange Rows.fnWholeBothSpec) aiG started (by kernel_rfl) Tryd.func3
  (witness_row_atRef (enc:=so) (C:=Tryd.checked) false (Sa os) #[.slice none 0 0,.string ⟨#[]⟩] rfl (by kernel_rfl) (by kernel_rfl) (by kernel_rfl)
   (OpenSpec.preRow_of_cond 8 hx (by kernel_rfl) (fun k hk=>by cases hk) (by kernel_rfl) (ai9 os))) ?_
 intro W base args ds gs before DO hW _ _ _ hL _ _;exact ai5 H so W base args ds gs before DO hW
theorem said:Rows.FnWholeBothSaid:=
 OpenClaim.holds_of_cond 3 Tryd.f3 rfl rfl rfl rfl rfl rfl rfl ⟨rfl,rfl,rfl,rfl,rfl⟩ rfl rfl rfl rfl rfl (by kernel_rfl) Tryd.func3 (by kernel_rfl)
  (of_decide_eq_true (by kernel_rfl)) (by unfold Func.isWrapper;first|(rw[if_pos (by decide+kernel)];kernel_rfl)|(rw[if_neg (by decide+kernel)];exact⟨rfl,rfl⟩))
  (fun os started H so _ F=>by rw[OpenClaim.pre_eq_preRow];exact lifted os started H so F)
theorem plain (f:FuncId) (fn:Func) (hf:Tryd.pinned.checked.prog.funcNamed "pub-bridleway/laws.FnWholeBoth" =some f) (De:Tryd.pinned.checked.prog.funcs[f]? =some fn):
  false=Tryd.pinned.checked.prog.looks []/\∀(j:Nat) t,fn.params[j]? =some t->Tryd.pinned.checked.prog.wantsStandIn t=false:=by
 obtain rfl:f=3:=bp ((show Tryd.prog.funcNamed "pub-bridleway/laws.FnWholeBoth" =some 3 by kernel_rfl).symm.trans hf)|>.symm;obtain rfl:fn=Tryd.f3:=(bp (Tryd.func3.symm.trans De)).symm;refine⟨by kernel_rfl,fun j t ht=>?_⟩;have hm:t∈[22,9]:=by have:=Array.mem_of_getElem? ht;simpa[Tryd.params3] using this
 have pN:∀u∈[22,9],Tryd.prog.wantsStandIn u=false:=by
  intro u hu;simp only[af,aC,or_false] at hu;rcases hu with rfl|rfl
  ·exact(show Tryd.prog.wantsStandIn 22=false by kernel_rfl)
  exact(show Tryd.prog.wantsStandIn 9=false by kernel_rfl)
 exact pN t hm
theorem card:Rows.FnWholeBothCardSaid:=
 Claim7.holds_tied_plain_at .later [] _ _ _ _ said (fun _ h=>by cases h) (by kernel_rfl) (fun _ h=>by cases h) fnWholeBoth_row_tie rfl ⟨rfl,rfl⟩ (by kernel_rfl) rfl plain (by kernel_rfl)
end Go.Proofs.YtmneeannkgnbpaaDoor.wholeboth
