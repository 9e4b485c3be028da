/- Lemmas of the walk and plain facts (BwMap .. JgF). -/
import Derived.Test.YtmneeannkgnbpaaDoorL1
import Derived.Test.YtmneeannkgnbpaaDoorL2
import Derived.Test.YtmneeannkgnbpaaDoorP00
import Derived.MapKept
import Derived.Test.YtmneeannkgnbpaaDoorProg
import Derived.KernelRfl
import Derived.Test.YtmneeannkgnbpaaDoorP01
namespace Bw
open Go
variable {P:Program} {c:Cx} {n:Nat} {k:List Item} {fr:SF} {H:SH} {ops:Array Oper} {rest:List Oper} {ty:TypeId} {pos:String} {mG:Array Edge}
abbrev KV:=List (List UInt8×Value)
def p4 (i:Nat):KV->List MapEntry
 |[]=>[]
 |(k,v)::r=>⟨S k,v,i⟩::p4 (i+1) r
def pG (kv:KV):Obj:=.map (p4 0 kv).toArray kv.length
def Cu:KV->List UInt8->Option Value
 |[],_=>none
 |(k,v)::r,x=>if k=x then some v else Cu r x
def ug:KV->List UInt8->Value->KV
 |[],x,u=>[(x,u)]
 |(k,v)::r,x,u=>if k=x then(k,u)::r else(k,v)::ug r x u
def tv:KV->List UInt8->Nat->Option (Nat×Value)
 |[],_,_=>none
 |(k,v)::r,x,i=>if k=x then some (i,v) else tv r x (i+1)
theorem SP:∀(kv:KV) (i:Nat),(p4 i kv).length =kv.length
 |[],_=>rfl
 |(k,v)::r,i=>by simp[p4,SP r (i+1)]
theorem bytes_beq (a b:List UInt8):((⟨a.toArray⟩:ByteArray)==⟨b.toArray⟩)=decide (a=b):=by
 rw[df,decide_eq_true_eq];constructor
 ·intro h;have h2:(⟨a.toArray⟩:ByteArray).data =(⟨b.toArray⟩:ByteArray).data :=congrArg ByteArray.data ((MapKept.bytes_beq _ _).1 h);simpa using congrArg Array.toList h2
 rintro rfl;exact(MapKept.bytes_beq _ _).2 rfl
theorem SQ (x:List UInt8):∀(kv:KV) (i j:Nat),Instr.findNow .string (S x) (p4 j kv) i=some (tv kv x i)
 |[],i,j=>rfl
 |(k,v)::r,i,j=>by
  simp only[p4,Instr.findNow,Instr.sameNow,bytes_beq,tv];by_cases h:x=k
  ·subst h;simp
  have h':¬k=x:=fun e=>h e.symm
  simp[h,h',SQ x r (i+1) (j+1)]
theorem SR:∀(kv:KV) (x:List UInt8) (i:Nat),(tv kv x i).map (·.2)=Cu kv x
 |[],x,i=>rfl
 |(k,v)::r,x,i=>by
  simp only[tv,Cu];by_cases h:k=x
  ·simp[h]
  simp[h,SR r x (i+1)]
theorem run_findKey (kv:KV) (x:List UInt8) {K:TypeId} (hK:P.underlying K=some .string) (w:World):
  (Instr.findKey K (S x) (p4 0 kv)).run P w=.ok (tv kv x 0) w:=by
 simp[Instr.findKey,underlying,hK,SQ]
theorem run_checkKey (b:Bool) (x:List UInt8) {K:TypeId} (hK:P.underlying K=some .string) (w:World):(Instr.checkKey b 10000 K (S x)).run P w=.ok () w:=by
 have h:∀d,(Instr.checkKey b (d+1) K (S x)).run P w=.ok () w:=fun d=>by simp[Instr.checkKey,underlying,hK]
 exact h 9999
theorem Zq (kv:KV) (x:List UInt8) {T K E:TypeId} {z:Value} (hT:P.underlying T=some (.map K E)) (hK:P.underlying K=some .string) (hz:∀w,(zeroValue E).run P w=.ok z w) {w:World} {b:Nat} (hb:w.heap[b]? =some (pG kv)):
  (Instr.lookup T (.map (some b)) (S x) false).run P w=.ok ((Cu kv x).getD z) w:=by
 have hg:(getObj b).run P w=.ok (pG kv) w:=by simp[getObj,Sem.run,hb,pG]
 simp only[pG] at hg;have h2:=SR kv x 0;simp only[Instr.lookup,Sem.run_bind,underlying,run_program,Result.andThen_ok,hT,hg,Sem.run_pure,run_checkKey _ _ hK,run_findKey kv x hK]
 cases hi:tv kv x 0 with
 |none=>rw[hi] at h2;simp at h2;simp[hz,<-h2]
 |some p=>rw[hi] at h2;simp at h2;simp[<-h2]
theorem lX {T K E:TypeId} {x y:Operand} {b:Nat} {kv:KV} {l:List UInt8} {z:Value} (hT:P.underlying T=some (.map K E)) (hK:P.underlying K=some .string) (hz:∀w,(zeroValue E).run P w=.ok z w) (hx:ev fr x=some (.map (some b))) (hy:ev fr y=some (S l))
  (hb:c.w0.heap[b]? =some (pG kv)) (hD:¬c.D b):nB P c n (.lookup T x y false) ty fr H ((Cu kv l).getD z):=by
 intro a w ha hw dst pos mG g;simp[execOp,ha.eval hx,ha.eval hy,Zq kv l hT hK hz (hw.old hb hD)]
theorem lY {T K E:TypeId} {x y:Operand} {l:List UInt8} {z:Value} (hT:P.underlying T=some (.map K E)) (hK:P.underlying K=some .string) (hz:∀w,(zeroValue E).run P w=.ok z w) (hx:ev fr x=some (.map none)) (hy:ev fr y=some (S l)):
  nB P c n (.lookup T x y false) ty fr H z:=by
 intro a w ha hw dst pos mG g;simp[execOp,ha.eval hx,ha.eval hy,Instr.lookup,underlying,hT,run_checkKey _ _ hK,Instr.findKey,hK,Instr.findNow,hz]
theorem Nj:∀(kv:KV) (x:List UInt8) (i:Nat) (p:Nat×Value),tv kv x i=some p->i<=p.1/\p.1<i+kv.length
 |[],x,i,p,h=>by simp[tv] at h
 |(k,v)::r,x,i,p,h=>by
  simp only[tv] at h;by_cases e:k=x
  ·rw[if_pos e] at h;simp at h;subst h;simp
  rw[if_neg e] at h;obtain⟨h1,h2⟩:=Nj r x (i+1) p h;simp;omega
theorem SU:∀(kv:KV) (x:List UInt8) (u:Value) (i:Nat),tv kv x i=none->ug kv x u=kv++[(x,u)]
 |[],x,u,i,h=>rfl
 |(k,v)::r,x,u,i,h=>by
  simp only[tv] at h;by_cases e:k=x
  ·rw[if_pos e] at h;cases h
  rw[if_neg e] at h;simp[ug,e,SU r x u (i+1) h]
theorem SV:∀(a b:KV) (i:Nat),p4 i (a++b)=p4 i a++p4 (i+a.length) b
 |[],b,i=>by simp[p4]
 |(k,v)::r,b,i=>by simp[p4,SV r b (i+1),eL,eF 1]
theorem SW:∀(kv:KV) (x:List UInt8) (i j:Nat) (p:Nat×Value),tv kv x i=some p->(p4 j kv)[p.1-i]? =some ⟨S x,p.2,j+(p.1-i)⟩
 |[],x,i,j,p,h=>by simp[tv] at h
 |(k,v)::r,x,i,j,p,h=>by
  simp only[tv] at h;by_cases e:k=x
  ·rw[if_pos e] at h;simp at h;subst h;simp[p4,e]
  rw[if_neg e] at h;have h1:=Nj r x (i+1) p h;have:=SW r x (i+1) (j+1) p h;rw[show p.1-i=(p.1-(i+1))+1 by omega];simp only[p4,List.getElem?_cons_succ,this];congr 2;omega
theorem SX:∀(kv:KV) (x:List UInt8) (u:Value) (i j:Nat) (p:Nat×Value),tv kv x i=some p->p4 j (ug kv x u)=(p4 j kv).modify (p.1-i) (fun e=>{e with key:=S x,val:=u})
 |[],x,u,i,j,p,h=>by simp[tv] at h
 |(k,v)::r,x,u,i,j,p,h=>by
  simp only[tv] at h;by_cases e:k=x
  ·rw[if_pos e] at h;simp at h;subst h;simp[p4,ug,e]
  rw[if_neg e] at h;have h1:=Nj r x (i+1) p h;have:=SX r x u (i+1) (j+1) p h;rw[show p.1-i=(p.1-(i+1))+1 by omega];simp[p4,ug,e,this]
theorem SY:∀(kv:KV) (x:List UInt8) (u:Value) (i:Nat) (p:Nat×Value),tv kv x i=some p->(ug kv x u).length =kv.length
 |[],x,u,i,p,h=>by simp[tv] at h
 |(k,v)::r,x,u,i,p,h=>by
  simp only[tv] at h;by_cases e:k=x
  ·simp[ug,e]
  rw[if_neg e] at h;simp[ug,e,SY r x u (i+1) p h]
theorem Zr (kv:KV) (x:List UInt8) (u:Value) {T K E:TypeId} (hT:P.underlying T=some (.map K E)) (hK:P.underlying K=some .string) {w:World} {b:Nat} (hb:w.heap[b]? =some (pG kv)):
  (Instr.mapUpdate T (.map (some b)) (S x) u).run P w=.ok () {w with heap:=w.heap.setIfInBounds b (pG (ug kv x u))}:=by
 have hg:(getObj b).run P w=.ok (pG kv) w:=by simp[getObj,Sem.run,hb,pG]
 have hs:∀o,(setObj b o).run P w=.ok () {w with heap:=w.heap.setIfInBounds b o}:=fun o=>by simp[setObj,Sem.run,hb,pG]
 simp only[pG] at hg;simp only[Instr.mapUpdate,Sem.run_bind,underlying,run_program,Result.andThen_ok,hT,hg,Sem.run_pure,run_checkKey _ _ hK,run_findKey kv x hK]
 cases hi:tv kv x 0 with
 |none=>
  have h2:=SU kv x u 0 hi
  simp[hs,pG,h2,SV,p4]
 |some p=>
  have h2:=SX kv x u 0 0 p hi;have h3:=SW kv x 0 0 p hi;have h4:=SY kv x u 0 p hi;simp only[Nat.sub_zero] at h2 h3
  have sd:Instr.sameBits 10000 (S x) (S x)=true:=by
   have:∀d,Instr.sameBits d (S x) (S x)=true:=fun d=>by cases d<;>simp[Instr.sameBits,bytes_beq]
   exact this _
  simp[Instr.keyThatStays,h3,sd,hs,pG,h2,h4]
theorem HF.setObj {w0 D w} (h:HF w0 D H w) {i b:Nat} {o:Obj} (hi:At i ⟨b,true,.obj o⟩ H) (o':Obj):HF w0 D (sV (.obj o') i H) {w with heap:=w.heap.setIfInBounds b o'}:=
 h.pM hi rfl (.obj o') (by simp) (by
  have:=h.lt hi.mem;show(w.heap.setIfInBounds b o')[b]? =some o'
  rw[fB this]) (fun x hx=>by
  show(w.heap.setIfInBounds b o')[x]? =_
  rw[Array.getElem?_setIfInBounds_ne (fun e=>hx e.symm)]) rfl rfl rfl
theorem kN {T K E:TypeId} {x y z:Operand} {b i:Nat} {kv:KV} {l:List UInt8} {v:Value} (hT:P.underlying T=some (.map K E)) (hK:P.underlying K=some .string) (hx:ev fr x=some (.map (some b))) (hy:ev fr y=some (S l)) (hz:ev fr z=some v)
  (hi:At i ⟨b,true,.obj (pG kv)⟩ H) (hk:G P c n k ops rest fr (sV (.obj (pG (ug kv l v))) i H)):G P c n k ops (⟨none,.mapUpdate T x y z,ty,pos,mG,none⟩::rest) fr H:=by
 refine kg (fun a w ha hw=>⟨_,?_,hw.setObj hi (pG (ug kv l v))⟩) hk;simp[execOp,ha.eval hx,ha.eval hy,ha.eval hz,Zr kv l v hT hK (hw.has _ hi.mem)]
def uh (mb:Nat) (n:Nat) (seen:List Nat) (st:Nat):Obj:=.mapIter (some mb) n seen.toArray st
theorem lZ {T K E:TypeId} {x:Operand} {d mb:Nat} {wf:Bool} {kv:KV} (hT:P.underlying T=some (.map K E)) (hx:ev fr x=some (.map (some mb))) (hm:⟨mb,wf,.obj (pG kv)⟩∈H) (hd:Nat.blt d n=true)
  (hk:∀b,c.w0.heap.size<=b->G P c n k ops rest ((d,Pt b 0)::fr) (⟨b,true,.obj (uh mb kv.length [] kv.length)⟩::H)):G P c n k ops (⟨some d,.range T x,ty,pos,mG,none⟩::rest) fr H:=by
 refine jO (kb:=.obj (uh mb kv.length [] kv.length)) (v:=fun b=>Pt b 0) (fun a w ha hw=>?_) hd hk;have hb:=hw.has _ hm
 have hg:(getObj mb).run P w=.ok (pG kv) w:=by
  have:w.heap[mb]? =some (pG kv):=hb;simp[getObj,Sem.run,this,pG]
 simp only[pG] at hg;simp[execOp,ha.eval hx,Instr.range,underlying,hT,hg,oe.den,uh]
theorem l0 {T K E:TypeId} {x:Operand} {d:Nat} (hT:P.underlying T=some (.map K E)) (hx:ev fr x=some (.map none)) (hd:Nat.blt d n=true)
  (hk:∀b,c.w0.heap.size<=b->G P c n k ops rest ((d,Pt b 0)::fr) (⟨b,true,.obj (.mapIter none 0 #[] 0)⟩::H)):G P c n k ops (⟨some d,.range T x,ty,pos,mG,none⟩::rest) fr H:=by
 refine jO (kb:=.obj (.mapIter none 0 #[] 0)) (v:=fun b=>Pt b 0) (fun a w ha hw=>?_) hd hk;simp[execOp,ha.eval hx,Instr.range,underlying,hT,oe.den]
theorem l5 {x:Operand} {d b:Nat} {wf:Bool} (hx:ev fr x=some (Pt b 0)) (hm:⟨b,wf,.obj (.mapIter none 0 #[] 0)⟩∈H) (hd:Nat.blt d n=true)
  (hk:G P c n k ops rest ((d,.tuple #[.bool false])::fr) H):G P c n k ops (⟨some d,.next x false,ty,pos,mG,none⟩::rest) fr H:=by
 refine iZ (v:=.tuple #[.bool false]) (fun a w ha hw dst pos mG g=>?_) hd hk;have hb:w.heap[b]? =some (.mapIter none 0 #[] 0):=hw.has _ hm;have hg:(getObj b).run P w=.ok (.mapIter none 0 #[] 0) w:=by simp[getObj,Sem.run,hb]
 simp[execOp,ha.eval hx,Instr.next,hg]
theorem Nk:∀(kv:KV) (i:Nat) (e:MapEntry),e∈p4 i kv->∃j p,kv[j]? =some p/\e=⟨S p.1,p.2,i+j⟩
 |[],i,e,h=>by simp[p4] at h
 |(k,v)::r,i,e,h=>by
  simp only[p4,af] at h;rcases h with rfl|h
  ·exact⟨0,(k,v),rfl,by simp⟩
  obtain⟨j,p,h1,h2⟩:=Nk r (i+1) e h;exact⟨j+1,p,by simpa using h1,by rw[h2];congr 1;omega⟩
theorem SZ:∀(kv:KV) (i j:Nat) (p:List UInt8×Value),kv[j]? =some p->(p4 i kv)[j]? =some ⟨S p.1,p.2,i+j⟩
 |[],i,j,p,h=>by simp at h
 |(k,v)::r,i,0,p,h=>by simp at h;subst h;simp[p4]
 |(k,v)::r,i,j+1,p,h=>by
  have:=SZ r (i+1) j p (by simpa using h);simp only[p4,List.getElem?_cons_succ,this];congr 2;omega
theorem l6 {x:Operand} {d b mb i:Nat} {wf:Bool} {kv:KV} {seen:List Nat} (hx:ev fr x=some (Pt b 0)) (hi:At i ⟨b,true,.obj (uh mb kv.length seen kv.length)⟩ H) (hm:⟨mb,wf,.obj (pG kv)⟩∈H) (hd:Nat.blt d n=true)
  (h0:(∀j,j<kv.length->j∈seen)->G P c n k ops rest ((d,.tuple #[.bool false])::fr) H)
  (h1:∀j p,kv[j]? =some p->j∉seen->G P c n k ops rest ((d,.tuple #[.bool true,S p.1,p.2])::fr) (sV (.obj (uh mb kv.length (seen++[j]) kv.length)) i H)):
  G P c n k ops (⟨some d,.next x false,ty,pos,mG,none⟩::rest) fr H:=by
 intro hf a w ha hw;have hb:w.heap[b]? =some (uh mb kv.length seen kv.length):=hw.has _ hi.mem;have qD:w.heap[mb]? =some (pG kv):=hw.has _ hm;have hg:(getObj b).run P w=.ok (.mapIter (some mb) kv.length seen.toArray kv.length) w:=by simp[getObj,Sem.run,hb,uh]
 have Nl:(getObj mb).run P w=.ok (.map (p4 0 kv).toArray kv.length) w:=by simp[getObj,Sem.run,qD,pG]
 have Nn:∀e∈p4 0 kv,e.born<kv.length:=fun e he=>by
  obtain⟨j,p,h2,rfl⟩:=Nk kv 0 e he;have:=(ae.1 h2).1;simpa using this
 have pN:((p4 0 kv).toArray.isEmpty =false)->((p4 0 kv).toArray.all (fun e=>decide (e.born>=kv.length)))=false:=by
  intro mW
  cases qJ:p4 0 kv with
  |nil=>rw[qJ] at mW;simp at mW
  |cons e r=>
   have:=Nn e (by rw[qJ];exact List.mem_cons_self);simp;intro Bi;omega
 have ui:(!seen.toArray.isEmpty&& !(p4 0 kv).toArray.isEmpty &&(p4 0 kv).toArray.all (fun e=>decide (e.born>=kv.length)))=false:=by
  cases he:(p4 0 kv).toArray.isEmpty with
  |true=>simp
  |false=>rw[pN he];simp
 let left:=(p4 0 kv).filter (fun e=> !seen.contains e.born)
 have Zs:(p4 0 kv).toArray.filter (fun e=> !seen.toArray.contains e.born)=left.toArray:=by simp[left]
 have hold:left.toArray.filter (fun e=>decide (e.born<kv.length))=left.toArray:=by
  apply Array.ext';simp only[Array.toList_filter];exact List.filter_eq_self.2 fun e he=>by simpa using Nn e (dF.1 he).1
 have xl:left.toArray.filter (fun e=>decide (e.born>=kv.length))= #[]:=by
  apply Array.ext';simp only[Array.toList_filter];exact List.filter_eq_nil_iff.2 fun e he=>by have:=Nn e (dF.1 he).1;simp;omega
 refine wpList_step fun K hK=>?_
 simp only[Region.wanted,if_true,Oper.wp]
 have vd:∀dd,(execOp a.eval ⟨dd,.next x false,ty,pos,mG,none⟩).run P w=(((if left.toArray.isEmpty then #[none] else #[])++(left.toArray++ #[]).map some:Array (Option MapEntry))|>fun HR=>
   ((choose (.mapNext HR.size)).run P w).andThen fun t w'=>match HR[t]? with
    |some (some e)=>(setObj b (.mapIter (some mb) kv.length (seen.toArray.push e.born) kv.length)|>.run P w').andThen fun _ HS=>.ok (.value (.tuple #[.bool true,e.key,e.val])) HS
    |some none=>.ok (.value (.tuple #[.bool false])) w'
    |none=>.halt (.stuck "Next: no such candidate") w'):=by
  intro dd;simp only[execOp,ha.eval hx,Instr.next,Sem.run_bind,hg,Result.andThen_ok,Nl,ui,c6,if_false,Sem.run_pure,Zs,hold,xl];generalize ((if left.toArray.isEmpty=true then #[none] else #[])++Array.map some (left.toArray++ #[]):Array (Option MapEntry))=HR
  cases hc:(choose (Question.mapNext HR.size)).run P w with
  |halt h w'=>rfl
  |ok t w'=>
   simp only[Result.andThen_ok];rcases HR[t]? with _|_|e
   ·rfl
   ·rfl
   simp only[Sem.run_bind];cases S1:(setObj b (.mapIter (some mb) kv.length (seen.toArray.push e.born) kv.length)).run P w'<;>rfl
 rw[vd]
 cases hl:left with
 |nil=>
  have hz:∀j,j<kv.length->j∈seen:=fun j hj=>by
   have h2:=SZ kv 0 j kv[j] (ao hj);have h3:=ap h2;have h4:(⟨S kv[j].1,kv[j].2,0+j⟩:MapEntry)∉left:=by rw[hl];simp
   simp only[left,dF,h3,true_and] at h4;simpa using h4
  simp[choose,Sem.run,Question.forced]
  exact hK _ _ (h0 hz hf _ _ (ha.put hd _) hw)
 |cons e0 r0=>
  have mW:¬left.toArray.isEmpty=true:=by simp[hl]
  have Zt:((if (e0::r0).toArray.isEmpty then #[none] else #[])++((e0::r0).toArray ++ #[]).map some:Array (Option MapEntry))=((e0::r0).map some).toArray :=by simp
  simp only[Zt];have rM:((e0::r0).map some).toArray.size =(e0::r0).length :=by simp
  rw[rM]
  have key:∀t w',t<(e0::r0).length ->HF c.w0 c.D H w'->w'.heap=w.heap->Oper.upon P ⟨some d,.next x false,ty,pos,mG,none⟩ a K (Qk P c k)
    (match ((e0::r0).map some).toArray[t]? with
    |some (some e)=>(setObj b (.mapIter (some mb) kv.length (seen.toArray.push e.born) kv.length)|>.run P w').andThen fun _ HS=>.ok (.value (.tuple #[.bool true,e.key,e.val])) HS
    |some none=>.ok (.value (.tuple #[.bool false])) w'
    |none=>.halt (.stuck "Next: no such candidate") w'):=by
   intro t w' ht ia hh
   have h2:((e0::r0).map some).toArray[t]? =some (some (e0::r0)[t]):=by
    rw[List.getElem?_toArray,aD,ao ht];rfl
   rw[h2];have nM:(e0::r0)[t]∈left:=by rw[hl];exact eG ht
   obtain⟨Zu,vg⟩:=dF.1 nM;obtain⟨j,p,hj,he⟩:=Nk kv 0 _ Zu;rw[he] at vg⊢;have No:w'.heap[b]? =some (uh mb kv.length seen kv.length):=by rw[hh];exact hb
   have S1:∀o,(setObj b o).run P w'=.ok () {w' with heap:=w'.heap.setIfInBounds b o}:=fun o=>by simp[setObj,Sem.run,No,uh]
   simp only[S1,Result.andThen_ok,Oper.upon,aH];have HU:j∉seen:=by simpa using vg
   have:=h1 j p hj HU hf _ _ (ha.put hd _) (ia.setObj hi (uh mb kv.length (seen++[j]) kv.length));refine hK _ _ ?_;simpa[uh] using this
  by_cases zr:(e0::r0).length <=1
  ·have:(choose (.mapNext (e0::r0).length)).run P w=.ok 0 w:=by
    have Np:(Question.mapNext (e0::r0).length).forced =true:=by simpa only[Question.forced,decide_eq_true_eq] using zr
    simp only[choose,Sem.run,Np,if_true]
   rw[this];exact key 0 w (by simp) hw rfl
  have:(choose (.mapNext (e0::r0).length)).run P w=.ok (w.tape w.drawn (.mapNext (e0::r0).length)%(e0::r0).length) {w with drawn:=w.drawn+1}:=by
   have Np:(Question.mapNext (e0::r0).length).forced =false:=by simpa only[Question.forced,decide_eq_false_iff_not] using zr
   simp only[choose,Sem.run,Np,c6,if_false,Question.cut]
  rw[this];exact key _ _ (Nat.mod_lt _ (by simp)) (hw.drew _) rfl
theorem l7 {x:Operand} {b mb j:Nat} {wf Zv:Bool} {kv:KV} {seen:List Nat} {p:List UInt8×Value} (hx:ev fr x=some (Pt b 0)) (hi:⟨b,Zv,.obj (uh mb kv.length (seen++[j]) kv.length)⟩∈H) (hm:⟨mb,wf,.obj (pG kv)⟩∈H) (hj:kv[j]? =some p):
  nB P c n (.entry x) ty fr H (.tuple #[S p.1,p.2]):=by
 intro a w ha hw dst pos mG g;have hb:w.heap[b]? =some (uh mb kv.length (seen++[j]) kv.length):=hw.has _ hi;have qD:w.heap[mb]? =some (pG kv):=hw.has _ hm;have hg:(getObj b).run P w=.ok (.mapIter (some mb) kv.length (seen++[j]).toArray kv.length) w:=by simp[getObj,Sem.run,hb,uh]
 have Nl:(getObj mb).run P w=.ok (.map (p4 0 kv).toArray kv.length) w:=by simp[getObj,Sem.run,qD,pG]
 have Fq:(p4 0 kv).find? (fun e=>e.born==j)=some ⟨S p.1,p.2,j⟩:=by
  have:∀(l:KV) (i:Nat) (j:Nat),l[j]? =some p->(p4 i l).find? (fun e=>e.born==i+j)=some ⟨S p.1,p.2,i+j⟩:=by
   intro l
   induction l with
   |nil=>intro i j h;simp at h
   |cons q r ih=>
    intro i j h
    cases j with
    |zero=>simp at h;subst h;simp[p4]
    |succ j=>
     have:=ih (i+1) j (by simpa using h);simp only[p4,List.find?_cons];have mW:(i==i+(j+1))=false:=by simp
     simp only[mW];rw[show i+(j+1)=i+1+j by omega];exact this
  simpa using this kv 0 j hj
 simp[execOp,ha.eval hx,Instr.entry,hg,Nl,Fq]
end Bw
namespace Go.Proofs
open Go Bw
theorem mixed:Tryd.prog.follows .mixedOrders =true:=by kernel_rfl
theorem HW:FF Tryd.prog 50 0 0:=.mk Tryd.underlying50 rfl bh
theorem HX:FF Tryd.prog 50 1 1:=.mk Tryd.underlying50 rfl Tryd.sizeOf48
theorem S2:FF Tryd.prog 50 2 2:=.mk Tryd.underlying50 rfl ah
theorem yM:FF Tryd.prog 34 0 0:=.mk Tryd.underlying34 rfl bV
theorem tw:FF Tryd.prog 34 1 1:=.mk Tryd.underlying34 rfl ah
theorem Ky:FF Tryd.prog 27 0 0:=.mk Tryd.underlying27 rfl bh
theorem Nq:FF Tryd.prog 87 0 0:=.mk Tryd.underlying87 rfl bi
theorem Kz:FF Tryd.prog 87 1 1:=.mk Tryd.underlying87 rfl eO
theorem KA:FF Tryd.prog 87 2 2:=.mk Tryd.underlying87 rfl eO
theorem Zw:FF Tryd.prog 95 0 0:=.mk Tryd.underlying95 rfl ah
theorem Zx:FF Tryd.prog 95 1 1:=.mk Tryd.underlying95 rfl ah
theorem zt:FF Tryd.prog 78 0 0:=.mk Tryd.underlying78 rfl bV
theorem S3:FF Tryd.prog 78 1 1:=.mk Tryd.underlying78 rfl bV
theorem pU:FF Tryd.prog 115 0 0:=.mk dr rfl ah
theorem sP:FF Tryd.prog 115 1 1:=.mk dr rfl ah
theorem uI:FF Tryd.prog 115 2 2:=.mk dr rfl aP
theorem sX:FF Tryd.prog 115 3 3:=.mk dr rfl dS
theorem tz:FF Tryd.prog 115 4 4:=.mk dr rfl cy
theorem p5:FF Tryd.prog 115 5 5:=.mk dr rfl de
theorem sY:FF Tryd.prog 115 6 6:=.mk dr rfl cu
theorem Aq:FF Tryd.prog 115 7 7:=.mk dr rfl ah
theorem yN:FF Tryd.prog 122 0 0:=.mk fN rfl cu
theorem sZ:FF Tryd.prog 122 1 1:=.mk fN rfl Tryd.sizeOf120
theorem s6:FF Tryd.prog 122 2 2:=.mk fN rfl aP
theorem KB:FF Tryd.prog 122 3 3:=.mk fN rfl ah
theorem Fs:FF Tryd.prog 159 0 0:=.mk Tryd.underlying159 rfl ah
theorem Nr:FF Tryd.prog 159 1 1:=.mk Tryd.underlying159 rfl bi
theorem Ft:FF Tryd.prog 159 2 2:=.mk Tryd.underlying159 rfl Tryd.sizeOf157
end Go.Proofs
