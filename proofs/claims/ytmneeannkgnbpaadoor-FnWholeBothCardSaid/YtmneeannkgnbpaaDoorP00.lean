/- Lemmas of the walk and plain facts (BwKit .. BwOwn). -/
import Derived.Test.YtmneeannkgnbpaaDoorL1
import Derived.Deep.Quiet
import Derived.Tactics
import Derived.Laws.Concat
import Derived.Laws.Slices
import Derived.Laws.Strings
import Derived.Laws.Pointers
import Derived.Laws.Unary
import Derived.Laws.Cells
import Derived.StillTail
import Derived.Laws.AppendOwn
namespace Bw
open Go
abbrev SF:=List (Nat×Value)
def look (t:Nat):SF->Option Value
 |[]=>none
 |(k,v)::r=>bif Nat.beq k t then some v else look t r
structure Fr (n:Nat) (fr:SF) (a:Act):Prop where
 size:a.tmps.size=n
 defers:a.defers=[]
 at_:∀t v,look t fr=some v->a.tmps[t]? =some v
def ev (fr:SF):Operand->Option Value
 |.tmp t=>look t fr
 |.const v=>some v
 |.global g=>some (.pointer (some ⟨g,0,none⟩))
 |.func f=>some (.func (.func f) #[] #[])
theorem Fr.eval {n fr a} (h:Fr n fr a) {x:Operand} {v:Value} (hx:ev fr x=some v):a.eval x=v:=by
 cases x with
 |tmp t=>
  have:=h.at_ t v hx
  simp[Act.eval,this]
 |const u=>simpa[ev,Act.eval] using hx
 |global g=>simpa[ev,Act.eval] using hx
 |func f=>simpa[ev,Act.eval] using hx
theorem Ho {t k:Nat} {v:Value} {fr:SF} (h:k≠t):look t ((k,v)::fr)=look t fr:=by
 have:Nat.beq k t=false:=by
  cases hb:Nat.beq k t with
  |false=>rfl
  |true=>exact absurd (dQ hb) h
 simp[look,this]
theorem Hu {t:Nat} {v:Value} {fr:SF}:look t ((t,v)::fr)=some v:=by
 simp[look]
theorem Fr.put {n fr a} (h:Fr n fr a) {d:Nat} (hd:Nat.blt d n=true) (v:Value):Fr n ((d,v)::fr) (a.put (some d) v):=by
 have mS:d<n:=by simpa[Nat.blt_eq] using hd
 refine⟨by simp[Act.put,h.size],h.defers,fun t u ht=>?_⟩;by_cases e:d=t
 ·subst e;rw[Hu] at ht;simp only[Act.put];rw[fB (by rw[h.size];exact mS)];exact ht
 rw[Ho e] at ht;simp only[Act.put];rw[Array.getElem?_setIfInBounds_ne e];exact h.at_ t u ht
inductive Sub:SF->SF->Prop
 |nil {fr}:Sub [] fr
 |cons {k v r fr} (h:look k fr=some v) (hr:Sub r fr):Sub ((k,v)::r) fr
theorem Sub.look {r fr} (h:Sub r fr):∀t v,look t r=some v->Bw.look t fr=some v:=by
 induction h with
 |nil=>intro t v ht;simp[Bw.look] at ht
 |cons hk hr ih=>
  rename_i k v r fr;intro t u ht;by_cases e:k=t
  ·subst e;rw[Hu] at ht;rw[hk];exact ht
  rw[Ho e] at ht;exact ih t u ht
theorem Fr.sub {n fr bc a} (h:Fr n fr a) (hs:Sub bc fr):Fr n bc a:=⟨h.size,h.defers,fun t v ht=>h.at_ t v (hs.look t v ht)⟩
inductive oe where
 |row (l:List Value) (t:TypeId) (fz:Nat×Nat)
 |obj (o:Obj)
def oe.den:oe->Obj
 |.row l t fz=>.cells l.toArray t fz
 |.obj o=>o
structure oJ where
 b:Nat
 w:Bool
 k:oe
abbrev SH:=List oJ
abbrev _root_.Rx (b:Nat) (l:List Value) (t:TypeId):oJ:=⟨b,true,.row l t (0,0)⟩
abbrev _root_.Sx (b n c:Nat):Value:=.slice (some ⟨b,0,none⟩) n c
abbrev _root_.Hq (vb:Nat) (r:List Value) (pb mZ n cP:Nat) (P:List Value) (qb nq m cS:Nat) (Q:List Value) (X:SH):SH:=Rx vb r 122::Rx pb [Sx mZ n cP] 91::Rx mZ P 95::Rx qb [Sx nq m cS] 119::Rx nq Q 159::X
theorem _root_.oM {o:Option Value} {a b:Bool} (h:o=some (.bool a)) (e:a=b):o=some (.bool b):=e▸h
theorem _root_.rB {a b:Bool} (e:a=b):Ending.returned (.bool a)=Ending.returned (.bool b):=e▸rfl
theorem _root_.gx {α:Type} {l:List α} {i:Nat} (h:i<l.length):∃x,l[i]? =some x:=⟨_,ao h⟩
structure HF (w0:World) (D:Nat->Prop) (H:SH) (w:World):Prop where
 size:w0.heap.size<=w.heap.size
 frame:∀b,b<w0.heap.size->¬D b->w.heap[b]? =w0.heap[b]?
 has:∀e∈H,w.heap[e.b]? =some e.k.den
 wr:∀e∈H,e.w=true->D e.b\/w0.heap.size<=e.b
 nd:H.Pairwise (fun x y=>x.b≠y.b)
 tape:w.tape=w0.tape
 os:w.os=w0.os
 output:w.output=w0.output
theorem HF.lt {w0 D H w} (h:HF w0 D H w) {e} (he:e∈H):e.b<w.heap.size:=by
 have:=h.has e he;exact(dK.1 this).1
theorem HF.drew {w0 D H w} (h:HF w0 D H w) (n:Nat):HF w0 D H {w with drawn:=n}:=
 ⟨h.size,h.frame,h.has,h.wr,h.nd,h.tape,h.os,h.output⟩
theorem HF.drewN {w0 D H w} (h:HF w0 D H w) (n:Nat):HF w0 D H (w.drewN n):=
 ⟨h.size,h.frame,h.has,h.wr,h.nd,h.tape,h.os,h.output⟩
theorem HF.start (w:World) (D:Nat->Prop):HF w D [] w:=
 ⟨bI _,fun _ _ _=>rfl,fun _ h=>(by cases h),fun _ h=>(by cases h),List.Pairwise.nil,rfl,rfl,rfl⟩
theorem HF.sub {w0 D H H' w} (h:HF w0 D H w) (hs:H'.Sublist H):HF w0 D H' w:=
 ⟨h.size,h.frame,fun e he=>h.has e (hs.subset he),fun e he=>h.wr e (hs.subset he),h.nd.sublist hs,h.tape,h.os,h.output⟩
theorem HF.add {w0 D H w} (h:HF w0 D H w) {b:Nat} {wf:Bool} {k:oe} (hb:w.heap[b]? =some k.den) (hw:wf=true->D b\/w0.heap.size<=b) (hn:∀e∈H,e.b≠b):
  HF w0 D (⟨b,wf,k⟩::H) w:=
 ⟨h.size,h.frame,fun e he=>by
   rcases af.1 he with rfl|he
   ·exact hb
   exact h.has e he,
  fun e he ia=>by
   rcases af.1 he with rfl|he
   ·exact hw ia
   exact h.wr e he ia,
  cA.2 ⟨fun e he=>(hn e he).symm,h.nd⟩,h.tape,h.os,h.output⟩
def nth:List Value->Nat->Option Value
 |[],_=>none
 |v::_,0=>some v
 |_::r,n+1=>nth r n
theorem n8:∀(l:List Value) (n:Nat),nth l n=l[n]?
 |[],n=>by simp[nth]
 |v::r,0=>by simp[nth]
 |v::r,n+1=>by simp[nth,n8 r n]
def rC:List Value->Nat->Value->List Value
 |[],_,_=>[]
 |_::r,0,v=>v::r
 |u::r,n+1,v=>u::rC r n v
theorem Fo:∀(l:List Value) (n:Nat) (v:Value),rC l n v=l.set n v
 |[],n,v=>by simp[rC]
 |u::r,0,v=>by simp[rC]
 |u::r,n+1,v=>by simp[rC,Fo r n v]
inductive At:Nat->oJ->SH->Prop
 |z {e r}:At 0 e (e::r)
 |s {i e x r} (h:At i e r):At (i+1) e (x::r)
theorem At.mem {i e H} (h:At i e H):e∈H:=by
 induction h with
 |z=>exact List.mem_cons_self
 |s _ ih=>exact dW _ ih
def sV (k:oe):Nat->SH->SH
 |_,[]=>[]
 |0,e::r=>⟨e.b,e.w,k⟩::r
 |i+1,e::r=>e::sV k i r
theorem Sn {k:oe} {i:Nat} {e:oJ} {H:SH} (h:At i e H):∀x∈sV k i H,x=⟨e.b,e.w,k⟩\/(x∈H/\(H.Pairwise (fun x y=>x.b≠y.b)->x.b≠e.b)):=by
 induction h with
 |z=>
  rename_i e r;intro x hx;rcases af.1 hx with rfl|hx
  ·exact .inl rfl
  exact .inr ⟨dW _ hx,fun hp=>((cA.1 hp).1 x hx).symm⟩
 |s hh ih=>
  rename_i i e y r;intro x hx;rcases af.1 hx with rfl|hx
  ·exact .inr ⟨List.mem_cons_self,fun hp=>(cA.1 hp).1 e hh.mem⟩
  rcases ih x hx with h|⟨h1,h2⟩
  ·exact .inl h
  exact .inr ⟨dW _ h1,fun hp=>h2 (cA.1 hp).2⟩
theorem So (k:oe):∀(i:Nat) (H:SH),(sV k i H).map oJ.b=H.map oJ.b
 |_,[]=>by simp[sV]
 |0,e::r=>by simp[sV]
 |i+1,e::r=>by simp[sV,So k i r]
theorem Sp (H:SH):H.Pairwise (fun x y=>x.b≠y.b)<->(H.map oJ.b).Pairwise (· ≠ ·):=by
 rw[List.pairwise_map]
theorem HF.pM {w0 D H w} (h:HF w0 D H w) {i:Nat} {e:oJ} (hi:At i e H) (hw:e.w=true) {w':World} (k:oe)
  (rM:w'.heap.size=w.heap.size) (hb:w'.heap[e.b]? =some k.den) (ho:∀b,b≠e.b->w'.heap[b]? =w.heap[b]?)
  (ht:w'.tape=w.tape) (Za:w'.os=w.os) (Fp:w'.output=w.output):HF w0 D (sV k i H) w':=by
 refine⟨by rw[rM];exact h.size,fun b mS hD=>?_,fun x hx=>?_,fun x hx M5=>?_,?_,ht.trans h.tape,Za.trans h.os,Fp.trans h.output⟩
 ·have mW:b≠e.b:=fun he=>by
   rcases h.wr e hi.mem hw with h1|h1
   ·exact hD (he▸h1)
   omega
  rw[ho b mW];exact h.frame b mS hD
 ·rcases Sn hi x hx with rfl|⟨h1,h2⟩
  ·exact hb
  rw[ho _ (h2 h.nd)];exact h.has x h1
 ·rcases Sn hi x hx with rfl|⟨h1,_⟩
  ·exact h.wr e hi.mem hw
  exact h.wr x h1 M5
 rw[Sp,So,<-Sp];exact h.nd
theorem Zb (w:World) (a:Addr) (v:Value) (b:Nat) (h:b≠a.block):(w.setCell a v).heap[b]? =w.heap[b]? :=by
 simp only[World.setCell];rw[dR,if_neg (fun e=>h e.symm)]
theorem Zc (w:World) (b off:Nat) (v:Value) {l:List Value} {t:TypeId} {fz:Nat×Nat} (h:w.heap[b]? =some (oe.den (.row l t fz))):
  (w.setCell ⟨b,off,none⟩ v).heap[b]? =some (oe.den (.row (rC l off v) t fz)):=by
 simp only[World.setCell];rw[dR,if_pos rfl,h];simp[oe.den,Fo]
theorem size_setCell (w:World) (a:Addr) (v:Value):(w.setCell a v).heap.size =w.heap.size:=by
 simp[World.setCell]
theorem HF.setCell {w0 D H w} (h:HF w0 D H w) {i b off:Nat} {l:List Value} {t:TypeId} {fz:Nat×Nat} (hi:At i ⟨b,true,.row l t fz⟩ H) (v:Value):
  HF w0 D (sV (.row (rC l off v) t fz) i H) (w.setCell ⟨b,off,none⟩ v):=
 h.pM hi rfl _ (size_setCell _ _ _) (Zc w b off v (h.has _ hi.mem)) (fun _ hc=>Zb _ _ _ _ hc) rfl rfl rfl
theorem HF.push {w0 D H w} (h:HF w0 D H w) (k:oe):HF w0 D (⟨w.heap.size,true,k⟩::H) {w with heap:=w.heap.push k.den}:=by
 refine⟨by simp;have:=h.size;omega,fun b mS hD=>?_,fun e he=>?_,fun e he hw=>?_,?_,h.tape,h.os,h.output⟩
 ·have:=h.size;rw[<-h.frame b mS hD];simp only[Array.getElem?_push];rw[if_neg (by omega)]
 ·rcases af.1 he with rfl|he
  ·simp
  have:=h.lt he;rw[<-h.has e he];simp only[Array.getElem?_push];rw[if_neg (by omega)]
 ·rcases af.1 he with rfl|he
  ·exact .inr h.size
  exact h.wr e he hw
 exact cA.2 ⟨fun e he=>by have:=h.lt he;simp only[ne_eq];omega,h.nd⟩
structure Cx where
 f:FuncId
 fn:Func
 R:Ending->World->Prop
 w0:World
 D:Nat->Prop
def xk (P:Program) (c:Cx) (k:List Item) (a:Act) (w:World):Prop:=
 ∀(b:Frame),b.fn=c.f->b.kind=.normal ->∀cs,∃e w' fr,c.R e w'/\Comes P (lone (b.at a k) cs w) (lone fr cs w') e/\fr.fn=c.f/\fr.leaving P w' e
def GC (P:Program) (c:Cx) (n:Nat) (k:List Item) (fr:SF) (H:SH):Prop:=
 P.funcs[c.f]? =some c.fn->∀a w,Fr n fr a->HF c.w0 c.D H w->xk P c k a w
def Qk (P:Program) (c:Cx) (k:List Item):Exit->Act->World->Prop
 |.normal,a,w=>xk P c k a w
 |.panic chain,a,w=>a.defers=[]/\c.R (.panicked chain) w
 |_,_,_=>False
def G (P:Program) (c:Cx) (n:Nat) (k:List Item) (ops:Array Oper) (l:List Oper) (fr:SF) (H:SH):Prop:=
 P.funcs[c.f]? =some c.fn->∀a w,Fr n fr a->HF c.w0 c.D H w->wpList P ops (Qk P c k) l a w
variable {P:Program} {c:Cx} {n:Nat} {k:List Item} {fr:SF} {H:SH} {ops:Array Oper} {rest:List Oper}
theorem xk.step {k k':List Item} {a:Act} {w:World} (hs:∀(b:Frame) cs,b.fn=c.f->b.kind=.normal ->step P (lone (b.at a k) cs w)=.next (lone (b.at a k') cs w)) (h:xk P c k' a w):xk P c k a w:=by
 intro b hb hk cs;obtain⟨e,w',fr,h1,h2,h3⟩:=h b hb hk cs;exact⟨e,w',fr,h1,Comes.of_steps (.one (hs b cs hb hk)) h2,h3⟩
theorem xk.of_wp {code:Code} {a:Act} {w:World} (hf:P.funcs[c.f]? =some c.fn) (h:code.wp P (Qk P c k) a w):xk P c (.code code::k) a w:=by
 intro b hb hk cs;obtain⟨e,a',w',hq,Sq⟩:=h b k cs
 cases e with
 |normal=>
  obtain⟨e2,w2,fr,h1,h2,h3⟩:=hq b hb hk cs
  exact⟨e2,w2,fr,h1,Comes.of_steps Sq h2,h3⟩
 |panic chain=>
  obtain⟨hd,hR⟩:=hq;obtain⟨todo,hs⟩:=Sq
  exact⟨.panicked chain,w',_,hR,hs,hb,rfl,hd,c.fn,by simpa[Frame.at,hb] using hf⟩
 |exit id=>exact hq.elim
 |goto l=>exact hq.elim
 |ret=>exact hq.elim
 |outgrown=>exact hq.elim
theorem gz {x y:Code} (h:GC P c n (.code x::.code y::k) fr H):GC P c n (.code (.seq x y)::k) fr H:=
 fun hf a w ha hw=>(h hf a w ha hw).step fun _ _ _ _=>step_seq
theorem gL (h:GC P c n k fr H):GC P c n (.code .skip ::k) fr H:=
 fun hf a w ha hw=>(h hf a w ha hw).step fun _ _ _ _=>step_skip
theorem j1 {l:Nat} (h:GC P c n k fr H):GC P c n (.code (.label l)::k) fr H:=
 fun hf a w ha hw=>(h hf a w ha hw).step fun _ _ _ _=>step_label
theorem gW {id:Nat} {x:Code} (h:GC P c n (.code x::.inBlock id::k) fr H):GC P c n (.code (.block id x)::k) fr H:=
 fun hf a w ha hw=>(h hf a w ha hw).step fun _ _ _ _=>step_block
theorem il {id:Nat} (h:GC P c n k fr H):GC P c n (.inBlock id::k) fr H:=
 fun hf a w ha hw=>(h hf a w ha hw).step fun _ _ _ _=>step_inBlock
theorem jw {x:Code} (h:GC P c n (.code x::.inLoop x::k) fr H):GC P c n (.code (.loop x)::k) fr H:=
 fun hf a w ha hw=>(h hf a w ha hw).step fun _ _ _ _=>step_loop
theorem jx {x:Code} (h:GC P c n (.code x::.inLoop x::k) fr H):GC P c n (.inLoop x::k) fr H:=
 fun hf a w ha hw=>(h hf a w ha hw).step fun _ _ _ _=>step_inLoop
theorem j3 {x:Code} (h:GC P c n (.code x::.inScope x::k) fr H):GC P c n (.code (.scope x)::k) fr H:=
 fun hf a w ha hw=>(h hf a w ha hw).step fun b cs _ _=>step_lone_go (by simp[stepG,stepG.exec,Frame.at])
theorem ir {id:Nat} {k':List Item} (he:exitTo id k=some k') (h:GC P c n k' fr H):GC P c n (.code (.exit id)::k) fr H:=
 fun hf a w ha hw=>(h hf a w ha hw).step fun _ _ _ _=>step_exit he
theorem kF {l:Nat} {k':List Item} (he:gotoIn l k=some k') (h:GC P c n k' fr H):GC P c n (.code (.goto l)::k) fr H:=
 fun hf a w ha hw=>(h hf a w ha hw).step fun _ _ _ _=>step_goto he
theorem gV {x:Operand} {p q:Code} {b:Bool} (hx:ev fr x=some (.bool b)) (ht:b=true->GC P c n (.code p::k) fr H) (hf:b=false->GC P c n (.code q::k) fr H):
  GC P c n (.code (.cond x p q)::k) fr H:=by
 intro hF a w ha hw;cases b
 ·exact(hf rfl hF a w ha hw).step fun _ _ _ _=>step_cond (ha.eval hx)
 exact(ht rfl hF a w ha hw).step fun _ _ _ _=>step_cond (ha.eval hx)
theorem ji {x:Operand} {p q:Code} (hx:ev fr x=some (.bool true)) (h:GC P c n (.code p::k) fr H):GC P c n (.code (.cond x p q)::k) fr H:=
 gV hx (fun _=>h) (fun e=>by cases e)
theorem iJ {x:Operand} {p q:Code} (hx:ev fr x=some (.bool false)) (h:GC P c n (.code q::k) fr H):GC P c n (.code (.cond x p q)::k) fr H:=
 gV hx (fun e=>by cases e) (fun _=>h)
theorem gS {x:Operand} {p q:Code} {p0:Prop} {inst:Decidable p0} (hx:ev fr x=some (.bool (@decide p0 inst))) (ht:p0->GC P c n (.code p::k) fr H) (hf:¬p0->GC P c n (.code q::k) fr H):
  GC P c n (.code (.cond x p q)::k) fr H:=
 gV hx (fun e=>ht (of_decide_eq_true e)) (fun e=>hf (of_decide_eq_false e))
theorem gN {bc:SF} (hs:Sub bc fr) (h:GC P c n k bc H):GC P c n k fr H:=
 fun hf a w ha hw=>h hf a w (ha.sub hs) hw
theorem lu {H':SH} (hs:H'.Sublist H) (h:GC P c n k fr H'):GC P c n k fr H:=
 fun hf a w ha hw=>h hf a w ha (hw.sub hs)
theorem hO {H':SH} (hs:∀w,HF c.w0 c.D H w->HF c.w0 c.D H' w) (h:GC P c n k fr H'):GC P c n k fr H:=
 fun hf a w ha hw=>h hf a w ha (hs w hw)
theorem ic {t:Nat} {v:Value} (hr:c.fn.results= #[.tmp t]) (hv:look t fr=some v) (hR:∀w,HF c.w0 c.D H w->c.R (.returned v) w):GC P c n (.code .ret ::k) fr H:=by
 intro hf a w ha hw b hb hk cs;refine⟨.returned v,w,_,hR w hw,.one step_ret,hb,rfl,ha.defers,hk,c.fn,by simpa[Frame.at,hb] using hf,?_⟩;have:=ha.at_ t v hv;simp[results,hr,Frame.at,this]
theorem jl {t u:Nat} {v x:Value} (hr:c.fn.results= #[.tmp t,.tmp u]) (hv:look t fr=some v) (hx:look u fr=some x) (hR:∀w,HF c.w0 c.D H w->c.R (.returned (.tuple #[v,x])) w):GC P c n (.code .ret ::k) fr H:=by
 intro hf a w ha hw b hb hk cs;refine⟨.returned _,w,_,hR w hw,.one step_ret,hb,rfl,ha.defers,hk,c.fn,by simpa[Frame.at,hb] using hf,?_⟩;have h1:=ha.at_ t v hv;have h2:=ha.at_ u x hx;simp[results,hr,Frame.at,h1,h2]
theorem kf {v:Value} (hr:∀a w,Fr n fr a->HF c.w0 c.D H w->(results c.fn a.tmps).run P w=.ok v w) (hR:∀w,HF c.w0 c.D H w->c.R (.returned v) w):GC P c n (.code .ret ::k) fr H:=by
 intro hf a w ha hw b hb hk cs;exact⟨.returned v,w,_,hR w hw,.one step_ret,hb,rfl,ha.defers,hk,c.fn,by simpa[Frame.at,hb] using hf,hr a w ha hw⟩
theorem jD (hr:c.fn.results= #[]) (hR:∀w,HF c.w0 c.D H w->c.R (.returned (.tuple #[])) w):GC P c n (.code .ret ::k) fr H:=
 kf (fun a w _ _=>by simp[results,hr]) hR
theorem jq (hr:c.fn.results= #[]) (hR:∀w,HF c.w0 c.D H w->c.R (.returned (.tuple #[])) w):GC P c n [] fr H:=by
 intro hf a w ha hw b hb hk cs;refine⟨.returned _,w,_,hR w hw,.one step_end,hb,rfl,ha.defers,hk,c.fn,by simpa[Frame.at,hb] using hf,?_⟩;simp[results,hr]
theorem gD {id:Nat} {l:List Oper} (h:G P c n k l.toArray l fr H):GC P c n (.code (.region id l.toArray false)::k) fr H:=
 fun hf a w ha hw=>xk.of_wp hf (wp_region_lit (h hf a w ha hw))
theorem gC (h:GC P c n k fr H):G P c n k ops [] fr H:=fun hf a w ha hw=>h hf a w ha hw
def nB (P:Program) (c:Cx) (n:Nat) (op:Op) (ty:TypeId) (fr:SF) (H:SH) (v:Value):Prop:=
 ∀a w,Fr n fr a->HF c.w0 c.D H w->∀dst pos mG g,(execOp a.eval ⟨dst,op,ty,pos,mG,g⟩).run P w=.ok (.value v) w
theorem iZ {op:Op} {ty:TypeId} {v:Value} {d:Nat} {pos:String} {mG:Array Edge} (hv:nB P c n op ty fr H v) (hd:Nat.blt d n=true) (hk:G P c n k ops rest ((d,v)::fr) H):
  G P c n k ops (⟨some d,op,ty,pos,mG,none⟩::rest) fr H:=by
 intro hf a w ha hw;refine wpList_step fun K hK=>?_
 simp only[Region.wanted,if_true,Oper.wp,hv a w ha hw,Oper.upon];exact hK _ _ (hk hf _ _ (ha.put hd v) hw)
theorem kT {op:Op} {ty:TypeId} {v:Value} {d j t:Nat} {b:Bool} {pos:String} {mG:Array Edge} (hj:(ops[j]?).bind (·.dst)=some t) (hb:look t fr=some (.bool b))
  (hv:nB P c n op ty fr H v) (hd:Nat.blt d n=true) (hk:G P c n k ops rest ((d,v)::fr) H):
  G P c n k ops (⟨some d,op,ty,pos,mG,some (j,b)⟩::rest) fr H:=by
 intro hf a w ha hw;refine wpList_step fun K hK=>?_
 have hy:yielded ops a.tmps j=some b:=by simp[yielded,hj,ha.at_ t _ hb]
 have qn:Region.wanted ⟨some d,op,ty,pos,mG,some (j,b)⟩ (yielded ops a.tmps)=true:=by simp[Region.wanted,hy]
 simp only[qn,if_true,Oper.wp,hv a w ha hw,Oper.upon];exact hK _ _ (hk hf _ _ (ha.put hd v) hw)
theorem lv {o:Oper} {j t d:Nat} {b want:Bool} (hg:o.guard=some (j,want)) (wO:o.dst=some d) (hj:(ops[j]?).bind (·.dst)=some t) (hb:look t fr=some (.bool b)) (mW:(b==want)=false) (hd:Nat.blt d n=true)
  (hk:G P c n k ops rest ((d,undef)::fr) H):G P c n k ops (o::rest) fr H:=by
 intro hf a w ha hw;refine wpList_step fun K hK=>?_
 have hy:yielded ops a.tmps j=some b:=by simp[yielded,hj,ha.at_ t _ hb]
 have qn:Region.wanted o (yielded ops a.tmps)=false:=by
  simp only[Region.wanted,hg,hy];cases b<;>cases want<;>simp_all
 simp only[qn,wO];exact hK _ _ (hk hf _ _ (ha.put hd undef) hw)
theorem gZ {l:List Oper} (t:Nat) {b:Bool} (hb:look t fr=some (.bool b)) (ht:b=true->G P c n k ops l ((t,.bool true)::fr) H) (hf:b=false->G P c n k ops l ((t,.bool false)::fr) H):
  G P c n k ops l fr H:=by
 intro hF a w ha hw
 have hs:∀x,b=x->Fr n ((t,.bool x)::fr) a:=fun x hx=>⟨ha.size,ha.defers,fun s u hs=>by
  by_cases e:t=s
  ·subst e;rw[Hu] at hs;rw[ha.at_ t _ hb,hx];exact hs
  rw[Ho e] at hs;exact ha.at_ s u hs⟩
 cases b
 ·exact hf rfl hF a w (hs _ rfl) hw
 exact ht rfl hF a w (hs _ rfl) hw
theorem jb {H':SH} {l:List Oper} (hs:∀w,HF c.w0 c.D H w->HF c.w0 c.D H' w) (h:G P c n k ops l fr H'):G P c n k ops l fr H:=
 fun hf a w ha hw=>h hf a w ha (hs w hw)
variable {P:Program} {c:Cx} {n:Nat} {k:List Item} {fr:SF} {H:SH} {ops:Array Oper} {rest:List Oper} {ty:TypeId}
abbrev S (l:List UInt8):Value:=.string ⟨l.toArray⟩
abbrev I (i:Int):Value:=.int .i64 i
abbrev Pt (b off:Nat):Value:=.pointer (some ⟨b,off,none⟩)
abbrev Nil:Value:=.pointer none
theorem Sr (s:ByteArray):Value.string s=S s.data.toList:=by cases s;simp[S]
theorem gM {x:Operand} {v:Value} (h:ev fr x=some v):nB P c n (.move x) ty fr H v:=by
 intro a w ha hw dst pos mG g;simp[execOp,ha.eval h]
theorem iT {x:Operand} {v:Value} (h:ev fr x=some v):nB P c n (.assign x) ty fr H v:=by
 intro a w ha hw dst pos mG g;simp[execOp,ha.eval h]
theorem iL {x y z:Operand} {v:Value} (hx:ev fr x=some (.bool true)) (h:ev fr y=some v):nB P c n (.pick x y z) ty fr H v:=by
 intro a w ha hw dst pos mG g;simp[execOp,ha.eval hx,ha.eval h,asBool]
theorem iD {x y z:Operand} {v:Value} (hx:ev fr x=some (.bool false)) (h:ev fr z=some v):nB P c n (.pick x y z) ty fr H v:=by
 intro a w ha hw dst pos mG g;simp[execOp,ha.eval hx,ha.eval h,asBool]
theorem gX {x:Operand} {b off:Nat} (h:ev fr x=some (Pt b off)):nB P c n (.nilCheck x) ty fr H (Pt b off):=by
 intro a w ha hw dst pos mG g;simp[execOp,ha.eval h]
def DP:List Field->Nat->Option Field
 |[],_=>none
 |f::_,0=>some f
 |_::r,i+1=>DP r i
theorem M6:∀(l:List Field) (i:Nat),DP l i=l[i]?
 |[],i=>by simp[DP]
 |f::r,0=>by simp[DP]
 |f::r,i+1=>by simp[DP,M6 r i]
def FF (P:Program) (t i o:Nat):Prop:=∀b off w,(Instr.fieldAt t (Pt b off) i).run P w=.ok (Pt b (off+o)) w
theorem FF.mk {t i o:Nat} {fs:List Field} {nm tg pk:String} {ft bo s:Nat} {em:Bool} (hU:P.underlying t=some (.struct fs.toArray)) (hi:DP fs i=some ⟨nm,ft,o,em,tg,pk,bo⟩)
  (hs:∀w,(Go.sizeOf ft).run P w=.ok (s+1) w):FF P t i o:=by
 intro b off w;have h1:fs[i]? =some ⟨nm,ft,o,em,tg,pk,bo⟩:=by rw[<-M6];exact hi
 by_cases ho:o=0
 ·subst ho;simp[Instr.fieldAt,underlying,hU,h1,Instr.sureAddr,fieldPlace,Addr.add,hs]
 simp[Instr.fieldAt,underlying,hU,h1,Instr.sureAddr,fieldPlace,Addr.add,hs,ho]
theorem gQ {t:TypeId} {x:Operand} {i o:Nat} {b off:Nat} (hF:FF P t i o) (h:ev fr x=some (Pt b off)):nB P c n (.fieldAddr t x i) ty fr H (Pt b (off+o)):=by
 intro a w ha hw dst pos mG g;simp[execOp,ha.eval h,hF b off w]
theorem oQ {w0 D w} (hw:HF w0 D H w) {b off:Nat} {wf:Bool} {l:List Value} {t:TypeId} {fz:Nat×Nat} {v:Value} (hm:⟨b,wf,.row l t fz⟩∈H) (hv:nth l off=some v):
  w.cell? ⟨b,off,none⟩=some v:=by
 have h:=hw.has _ hm;simp only[oe.den] at h;simp only[World.cell?,h];rw[n8] at hv;simpa using hv
theorem M7 {w0 D w} (hw:HF w0 D H w) {b off:Nat} {wf:Bool} {l:List Value} {t:TypeId} {fz:Nat×Nat} (hm:⟨b,wf,.row l t fz⟩∈H):
  w.frozen? ⟨b,off,none⟩=(decide (fz.1<=off)&&decide (off<fz.2)):=by
 have h:=hw.has _ hm;simp only[oe.den] at h;simp only[World.frozen?,h]
theorem gG {t:TypeId} {x:Operand} {b off:Nat} {wf:Bool} {l:List Value} {T:TypeId} {fz:Nat×Nat} {v:Value} (hA:∀w,(isAgg t).run P w=.ok false w) (h:ev fr x=some (Pt b off))
  (hm:⟨b,wf,.row l T fz⟩∈H) (hv:nth l off=some v):nB P c n (.load t x) ty fr H v:=by
 intro a w ha hw dst pos mG g;have hc:=oQ hw hm hv;simp[execOp,ha.eval h,Instr.loadAt,Instr.sureAddr,loadVar,hA,run_load,hc]
theorem ja {t:TypeId} {x:Operand} {b off s:Nat} {wf:Bool} {l:List Value} {T:TypeId} {fz:Nat×Nat} {cs:List Value} (hA:∀w,(isAgg t).run P w=.ok true w) (hs:∀w,(Go.sizeOf t).run P w=.ok s w) (h:ev fr x=some (Pt b off))
  (hm:⟨b,wf,.row l T fz⟩∈H) (hv:(l.drop off).take s=cs) (hl:cs.length=s):nB P c n (.load t x) ty fr H (.agg cs.toArray):=by
 intro a w ha hw dst pos mG g
 have hc:∀j v,cs[j]? =some v->w.cell? ((⟨b,off,none⟩:Addr).add j)=some v:=by
  intro j v hj;have mS:j<s:=by rw[<-hl];exact(ae.1 hj).1
  have:l[off+j]? =some v:=by
   rw[<-hv] at hj;rw[bP mS,bL] at hj;exact hj
  have h2:=oQ hw hm (off:=off+j) (v:=v) (by rw[n8];exact this);by_cases h0:j=0
  ·subst h0;simpa[Addr.add] using h2
  simpa[Addr.add,h0] using h2
 have vd:=run_loadCells_list (P:=P) (w:=w) ⟨b,off,none⟩ cs hc;simp[execOp,ha.eval h,Instr.loadAt,Instr.sureAddr,loadVar,hA,hs,<-hl,vd]
theorem ig {t:TypeId} {x:Operand} {l:List UInt8} (hU:P.underlying t=some .string) (h:ev fr x=some (S l)):
  nB P c n (.call ⟨.builtin .len, #[x], #[t]⟩) ty fr H (I (l.length:Nat)):=by
 intro a w ha hw dst pos mG g;have h1:=run_len_string (P:=P) (w:=w) t ty ⟨l.toArray⟩ hU;have h2:(⟨l.toArray⟩:ByteArray).size =l.length:=eY;rw[h2] at h1;simp[execOp,resolve,invoke,builtin,ha.eval h,h1,goInt]
theorem iu {t e:TypeId} {x:Operand} {ad:Option Addr} {l cp:Nat} (hU:P.underlying t=some (.slice e)) (h:ev fr x=some (.slice ad l cp)):
  nB P c n (.call ⟨.builtin .len, #[x], #[t]⟩) ty fr H (I (l:Nat)):=by
 intro a w ha hw dst pos mG g;simp[execOp,resolve,invoke,builtin,ha.eval h,Builtin.len_,underlying,hU,goInt]
theorem kU {t e:TypeId} {x:Operand} {ad:Option Addr} {l cp:Nat} (hU:P.underlying t=some (.slice e)) (h:ev fr x=some (.slice ad l cp)):
  nB P c n (.call ⟨.builtin .cap, #[x], #[t]⟩) ty fr H (I (cp:Nat)):=by
 intro a w ha hw dst pos mG g;simp[execOp,resolve,invoke,builtin,ha.eval h,Builtin.cap_,underlying,hU,goInt]
theorem iU {t:TypeId} {x:Operand} {b:Bool} (h:ev fr x=some (.bool b)):nB P c n (.unOp .not t x) ty fr H (.bool (!b)):=by
 intro a w ha hw dst pos mG g;simp[execOp,ha.eval h,Op.unary]
section ints
variable {t u:TypeId} {x y:Operand} {kd:IntKind} {i j:Int}
theorem jj (hx:ev fr x=some (.int kd i)) (hy:ev fr y=some (.int kd j)):nB P c n (.binOp .add t x y u) ty fr H (.int kd (kd.wrap (i+j))):=by
 intro a w ha hw dst pos mG g;simp[execOp,ha.eval hx,ha.eval hy,eqGuard,binOp,Op.intArith]
theorem j4 (hx:ev fr x=some (.int kd i)) (hy:ev fr y=some (.int kd j)):nB P c n (.binOp .sub t x y u) ty fr H (.int kd (kd.wrap (i-j))):=by
 intro a w ha hw dst pos mG g;simp[execOp,ha.eval hx,ha.eval hy,eqGuard,binOp,Op.intArith]
theorem wrap_i64 {i:Int} (h: -9223372036854775808<=i) (h2:i<=9223372036854775807):IntKind.i64.wrap i=i:=by
 have e:IntKind.i64.wrap i=if 9223372036854775808<=i%18446744073709551616 then i%18446744073709551616-18446744073709551616 else i%18446744073709551616:=by
  simp[IntKind.wrap,IntKind.signed,IntKind.bits]
 rw[e];split<;>omega
theorem iB {r:Int} (hx:ev fr x=some (I i)) (hy:ev fr y=some (I j)) (hr:i+j=r) (h: -9223372036854775808<=r) (h2:r<=9223372036854775807):nB P c n (.binOp .add t x y u) ty fr H (I r):=by
 have:=jj (P:=P) (c:=c) (n:=n) (H:=H) (ty:=ty) (t:=t) (u:=u) hx hy;rw[hr,wrap_i64 h h2] at this;exact this
theorem iy (j:Nat) (h:(j:Int)+1<=9223372036854775807) (hx:ev fr x=some (I (j:Int)):=by exact rfl) (hy:ev fr y=some (I 1):=by exact rfl):nB P c n (.binOp .add t x y u) ty fr H (I ((j+1:Nat):Int)):=iB hx hy rfl (by omega) h
theorem iM {r:Int} (hx:ev fr x=some (I i)) (hy:ev fr y=some (I j)) (hr:i-j=r) (h: -9223372036854775808<=r) (h2:r<=9223372036854775807):nB P c n (.binOp .sub t x y u) ty fr H (I r):=by
 have:=j4 (P:=P) (c:=c) (n:=n) (H:=H) (ty:=ty) (t:=t) (u:=u) hx hy;rw[hr,wrap_i64 h h2] at this;exact this
theorem ik (hx:ev fr x=some (.int kd i)) (hy:ev fr y=some (.int kd j)):nB P c n (.binOp .lss t x y u) ty fr H (.bool (decide (i<j))):=by
 intro a w ha hw dst pos mG g;simp[execOp,ha.eval hx,ha.eval hy,eqGuard,binOp,Op.intCmp]
theorem jG (hx:ev fr x=some (.int kd i)) (hy:ev fr y=some (.int kd j)):nB P c n (.binOp .leq t x y u) ty fr H (.bool (decide (i<=j))):=by
 intro a w ha hw dst pos mG g;simp[execOp,ha.eval hx,ha.eval hy,eqGuard,binOp,Op.intCmp]
theorem iS (hx:ev fr x=some (.int kd i)) (hy:ev fr y=some (.int kd j)):nB P c n (.binOp .gtr t x y u) ty fr H (.bool (decide (i>j))):=by
 intro a w ha hw dst pos mG g;simp[execOp,ha.eval hx,ha.eval hy,eqGuard,binOp,Op.intCmp]
theorem jJ (hx:ev fr x=some (.int kd i)) (hy:ev fr y=some (.int kd j)):nB P c n (.binOp .geq t x y u) ty fr H (.bool (decide (i>=j))):=by
 intro a w ha hw dst pos mG g;simp[execOp,ha.eval hx,ha.eval hy,eqGuard,binOp,Op.intCmp]
theorem ie (hx:ev fr x=some (.int kd i)) (hy:ev fr y=some (.int kd j)):nB P c n (.binOp .eql t x y u) ty fr H (.bool (decide (i=j))):=by
 intro a w ha hw dst pos mG g;simp[execOp,ha.eval hx,ha.eval hy,eqGuard,binOp,Op.intCmp];rw[df];simp
theorem iF (hx:ev fr x=some (.int kd i)) (hy:ev fr y=some (.int kd j)):nB P c n (.binOp .neq t x y u) ty fr H (.bool (!decide (i=j))):=by
 intro a w ha hw dst pos mG g;simp[execOp,ha.eval hx,ha.eval hy,eqGuard,binOp,Op.intCmp];rw[df];simp[bne]
end ints
section texts
variable {t u:TypeId} {x y:Operand} {l m:List UInt8}
theorem iE (hx:ev fr x=some (S l)) (hy:ev fr y=some (S m)):nB P c n (.binOp .eql t x y u) ty fr H (.bool (decide (l=m))):=by
 intro a w ha hw dst pos mG g;simp[execOp,ha.eval hx,ha.eval hy,eqGuard,binOp,Op.stringOp];rw[df];simp
theorem jy (hx:ev fr x=some (S l)) (hy:ev fr y=some (S m)):nB P c n (.binOp .neq t x y u) ty fr H (.bool (!decide (l=m))):=by
 intro a w ha hw dst pos mG g;simp[execOp,ha.eval hx,ha.eval hy,eqGuard,binOp,Op.stringOp];rw[df];simp
theorem iR (hx:ev fr x=some (S l)) (hy:ev fr y=some (S m)) (hb:l.length+m.length<=9223372036854775807):nB P c n (.binOp .add t x y u) ty fr H (S (l++m)):=by
 intro a w ha hw dst pos mG g;have h1:=run_string_add_sum (P:=P) (w:=w) ⟨l.toArray⟩ ⟨m.toArray⟩ (by simpa[ByteArray.size] using hb);simp[execOp,ha.eval hx,ha.eval hy,eqGuard,binOp,h1];exact ByteArray.mk_append_mk l m
theorem iG {i:Nat} {b:UInt8} {ix:Operand} {kd:IntKind} (hU:P.underlying t=some .string) (hx:ev fr x=some (S l)) (hy:ev fr ix=some (.int kd (i:Int))) (hb:l[i]? =some b):
  nB P c n (.index t x ix) ty fr H (.int .u8 (b.toNat:Int)):=by
 intro a w ha hw dst pos mG g
 have h1:(⟨l.toArray⟩:ByteArray)[i]? =some b:=by
  have mS:=(ae.1 hb).1;rw[ByteArray.getElem?_lt' _ _ (by simpa[ByteArray.size] using mS)];have:=(ae.1 hb).2;exact congrArg some this
 simp[execOp,ha.eval hx,ha.eval hy,Instr.index,asIntOf,underlying,hU,h1]
end texts
section Zd
variable {t u e:TypeId} {x:Operand} {w:World}
theorem Ss (d:Nat) (p:Option Addr) (hU:P.underlying t=some (.pointer e)):(Op.equalIn (d+1) t (.pointer p) Nil).run P w=.ok p.isNone w:=by
 cases p<;>simp[Op.equalIn,underlying,hU]
theorem Su (d:Nat) (p:Option Addr) (l cp:Nat) (hU:P.underlying t=some (.slice e)):(Op.equalIn (d+1) t (.slice p l cp) (.slice none 0 0)).run P w=.ok p.isNone w:=by
 cases p<;>simp[Op.equalIn,underlying,hU]
theorem Ze (d:Nat) (p:Option Nat) {kt:TypeId} (hU:P.underlying t=some (.map kt e)):(Op.equalIn (d+1) t (.map p) (.map none)).run P w=.ok p.isNone w:=by
 cases p<;>simp[Op.equalIn,underlying,hU]
theorem jP {p:Option Addr} (hU:P.underlying t=some (.pointer e)) (hx:ev fr x=some (.pointer p)):nB P c n (.binOp .eql t x (.const Nil) u) ty fr H (.bool p.isNone):=by
 intro a w ha hw dst pos mG g;have h1:(Op.equal t (.pointer p) Nil).run P w=.ok p.isNone w:=Ss 9999 p hU;have hk:∀v:Value,a.eval (.const v)=v:=fun _=>rfl
 simp[execOp,ha.eval hx,hk,eqGuard,binOp,h1]
theorem jW {p:Option Addr} (hU:P.underlying t=some (.pointer e)) (hx:ev fr x=some (.pointer p)):nB P c n (.binOp .neq t x (.const Nil) u) ty fr H (.bool (!p.isNone)):=by
 intro a w ha hw dst pos mG g;have h1:(Op.equal t (.pointer p) Nil).run P w=.ok p.isNone w:=Ss 9999 p hU;have hk:∀v:Value,a.eval (.const v)=v:=fun _=>rfl
 simp[execOp,ha.eval hx,hk,eqGuard,binOp,h1]
theorem jL {p:Option Addr} {l cp:Nat} (hU:P.underlying t=some (.slice e)) (hx:ev fr x=some (.slice p l cp)):nB P c n (.binOp .eql t x (.const (.slice none 0 0)) u) ty fr H (.bool p.isNone):=by
 intro a w ha hw dst pos mG g;have h1:(Op.equal t (.slice p l cp) (.slice none 0 0)).run P w=.ok p.isNone w:=Su 9999 p l cp hU;have hk:∀v:Value,a.eval (.const v)=v:=fun _=>rfl
 simp[execOp,ha.eval hx,hk,eqGuard,binOp,h1]
theorem lx {p:Option Nat} {kt:TypeId} (hU:P.underlying t=some (.map kt e)) (hx:ev fr x=some (.map p)):nB P c n (.binOp .eql t x (.const (.map none)) u) ty fr H (.bool p.isNone):=by
 intro a w ha hw dst pos mG g;have h1:(Op.equal t (.map p) (.map none)).run P w=.ok p.isNone w:=Ze 9999 p hU;have hk:∀v:Value,a.eval (.const v)=v:=fun _=>rfl
 simp[execOp,ha.eval hx,hk,eqGuard,binOp,h1]
end Zd
section Zf
variable {t e:TypeId} {x y z:Operand} {l:List UInt8} {i j:Nat} {kd DQ:IntKind}
theorem M8 (l:List UInt8) (i j:Nat):(⟨l.toArray⟩:ByteArray).extract i j=⟨((l.take j).drop i).toArray⟩:=by
 have:((⟨l.toArray⟩:ByteArray).extract i j).data =(⟨((l.take j).drop i).toArray⟩:ByteArray).data :=by
  simp[ByteArray.data_extract,fg]
 exact ByteArray.ext this
theorem iX (hU:P.underlying t=some .string) (hx:ev fr x=some (S l)) (hy:ev fr y=some (.int kd (i:Int))) (hi:i<=l.length):nB P c n (.slice t x (some y) none none) ty fr H (S (l.drop i)):=by
 intro a w ha hw dst pos mG g;have h1:(⟨l.toArray⟩:ByteArray).size =l.length:=by simp[ByteArray.size]
 simp[execOp,ha.eval hx,ha.eval hy,Instr.sliceAt,Instr.slice,underlying,hU,Instr.sliceBounds,Instr.sliceBound,asIntOf,h1,hi,M8]
theorem jm (hU:P.underlying t=some .string) (hx:ev fr x=some (S l)) (hz:ev fr z=some (.int kd (j:Int))) (hj:j<=l.length):nB P c n (.slice t x none (some z) none) ty fr H (S (l.take j)):=by
 intro a w ha hw dst pos mG g;have h1:(⟨l.toArray⟩:ByteArray).size =l.length:=by simp[ByteArray.size]
 simp[execOp,ha.eval hx,ha.eval hz,Instr.sliceAt,Instr.slice,underlying,hU,Instr.sliceBounds,Instr.sliceBound,asIntOf,h1,hj,M8]
theorem kG (hU:P.underlying t=some .string) (hx:ev fr x=some (S l)) (hy:ev fr y=some (.int kd (i:Int))) (hz:ev fr z=some (.int DQ (j:Int))) (hi:i<=j) (hj:j<=l.length):
  nB P c n (.slice t x (some y) (some z) none) ty fr H (S ((l.take j).drop i)):=by
 intro a w ha hw dst pos mG g;have h1:(⟨l.toArray⟩:ByteArray).size =l.length:=by simp[ByteArray.size]
 simp[execOp,ha.eval hx,ha.eval hy,ha.eval hz,Instr.sliceAt,Instr.slice,underlying,hU,Instr.sliceBounds,Instr.sliceBound,asIntOf,h1,hj,hi,M8]
theorem ij {b off s len cp:Nat} (hU:P.underlying t=some (.slice e)) (hs:∀w,(Go.sizeOf e).run P w=.ok s w) (hx:ev fr x=some (.slice (some ⟨b,off,none⟩) len cp)) (hy:ev fr y=some (.int kd (i:Int))) (hi:i<len):
  nB P c n (.indexAddr t x y) ty fr H (Pt b (off+i*s)):=by
 intro a w ha hw dst pos mG g;by_cases h0:i*s=0
 ·simp[execOp,ha.eval hx,ha.eval hy,Instr.indexAt,asIntOf,underlying,hU,hs,hi,Addr.add,h0]
 simp[execOp,ha.eval hx,ha.eval hy,Instr.indexAt,asIntOf,underlying,hU,hs,hi,Addr.add,h0]
end Zf
theorem iz {x:Operand} {i:Nat} {vs:List Value} {v:Value} (hx:ev fr x=some (.tuple vs.toArray)) (hi:nth vs i=some v):nB P c n (.extract x i) ty fr H v:=by
 intro a w ha hw dst pos mG g;rw[n8] at hi;simp[execOp,ha.eval hx,Instr.extract,hi]
theorem ly {t:TypeId} {x:Operand} {i o ft bo:Nat} {cs:List Value} {fs:List Field} {nm tg pk:String} {em:Bool} {v:Value} (hU:P.underlying t=some (.struct fs.toArray)) (hi:DP fs i=some ⟨nm,ft,o,em,tg,pk,bo⟩)
  (hA:∀w,(isAgg ft).run P w=.ok false w) (hx:ev fr x=some (.agg cs.toArray)) (hv:nth cs o=some v):nB P c n (.field t x i) ty fr H v:=by
 intro a w ha hw dst pos mG g;have h1:fs[i]? =some ⟨nm,ft,o,em,tg,pk,bo⟩:=by rw[<-M6];exact hi
 rw[n8] at hv;simp[execOp,ha.eval hx,Instr.field,underlying,hU,h1,part,hA,asAgg,hv]
theorem j5 {s d:TypeId} {x:Operand} {kd DQ:IntKind} {i:Int} {ud:TypeDesc} (hs:P.underlying s=some ud) (hd:P.underlying d=some (.int DQ)) (hx:ev fr x=some (.int kd i)):nB P c n (.convert s d x) ty fr H (.int DQ (DQ.wrap i)):=by
 intro a w ha hw dst pos mG g;simp[execOp,ha.eval hx,convert,underlying,hs,hd,Conv.intToInt]
theorem kH {fn:Fn} {cap:List Operand} {vs:List Value} (h:cap.map (ev fr)=vs.map some):nB P c n (.makeFunc fn #[] cap.toArray) ty fr H (.func fn #[] vs.toArray):=by
 intro a w ha hw dst pos mG g
 have:cap.map a.eval=vs:=by
  clear g mG pos dst
  induction cap generalizing vs with
  |nil=>cases vs with
   |nil=>rfl
   |cons v vs=>simp at h
  |cons x cap ih=>
   cases vs with
   |nil=>simp at h
   |cons v vs=>
    simp only[aX,aM] at h⊢;exact⟨ha.eval h.1,ih h.2⟩
 simp[execOp,Instr.makeFunc,this]
variable {P:Program} {c:Cx} {n:Nat} {k:List Item} {fr:SF} {H:SH} {ops:Array Oper} {rest:List Oper} {ty:TypeId} {pos:String} {mG:Array Edge}
theorem kg {op:Op} {H':SH} (hr:∀a w,Fr n fr a->HF c.w0 c.D H w->∃w',(execOp a.eval ⟨none,op,ty,pos,mG,none⟩).run P w=.ok .skip w'/\HF c.w0 c.D H' w')
  (hk:G P c n k ops rest fr H'):G P c n k ops (⟨none,op,ty,pos,mG,none⟩::rest) fr H:=by
 intro hf a w ha hw;obtain⟨w',h1,h2⟩:=hr a w ha hw;refine wpList_step fun K hK=>?_
 simp only[Region.wanted,if_true,Oper.wp,h1,Oper.upon];exact hK _ _ (hk hf _ _ ha h2)
theorem jO {op:Op} {d:Nat} {kb:oe} {v:Nat->Value} (hr:∀a w,Fr n fr a->HF c.w0 c.D H w->(execOp a.eval ⟨some d,op,ty,pos,mG,none⟩).run P w=.ok (.value (v w.heap.size)) {w with heap:=w.heap.push kb.den})
  (hd:Nat.blt d n=true) (hk:∀b,c.w0.heap.size<=b->G P c n k ops rest ((d,v b)::fr) (⟨b,true,kb⟩::H)):G P c n k ops (⟨some d,op,ty,pos,mG,none⟩::rest) fr H:=by
 intro hf a w ha hw;refine wpList_step fun K hK=>?_
 simp only[Region.wanted,if_true,Oper.wp,hr a w ha hw,Oper.upon];exact hK _ _ (hk _ hw.size hf _ _ (ha.put hd _) (hw.push kb))
theorem Sv {fz:Nat×Nat} {off:Nat} (hf:(Nat.ble fz.1 off&&Nat.blt off fz.2)=false):(decide (fz.1<=off)&&decide (off<fz.2))=false:=by
 simp only[Bool.and_eq_false_iff,decide_eq_false_iff_not] at*;rcases hf with h|h
 ·exact .inl fun h2=>by rw[Nat.ble_eq_true_of_le h2] at h;cases h
 exact .inr fun h2=>by
  have:Nat.blt off fz.2=true:=by simpa[Nat.blt_eq] using h2
  rw[this] at h;cases h
theorem gO {t:TypeId} {x y:Operand} {v:Value} {b off i:Nat} {l:List Value} {T:TypeId} {fz:Nat×Nat} (hs:∀w,(Go.sizeOf t).run P w=.ok 1 w) (hx:ev fr x=some (Pt b off)) (hy:ev fr y=some v)
  (h1:v.oneCell'=true) (hi:At i ⟨b,true,.row l T fz⟩ H) (hc:(nth l off).isSome =true) (hf:(Nat.ble fz.1 off&&Nat.blt off fz.2)=false)
  (hk:G P c n k ops rest fr (sV (.row (rC l off v) T fz) i H)):G P c n k ops (⟨none,.store t x y,ty,pos,mG,none⟩::rest) fr H:=by
 refine kg (fun a w ha hw=>⟨w.setCell ⟨b,off,none⟩ v,?_,hw.setCell hi v⟩) hk;obtain⟨u,hu⟩:=b7.1 hc;have vI:=oQ hw hi.mem hu;have DR:=M7 hw hi.mem (off:=off);rw[Sv hf] at DR;have DT:v.cells= #[v]:=by cases v<;>first|rfl|(simp[Value.oneCell'] at h1)
 have mO:=run_store P w ⟨b,off,none⟩ v .plain h1;simp only[vI,DR] at mO;simp[execOp,ha.eval hx,ha.eval hy,Instr.storeAt,Instr.sureAddr,storeVar,DT,hs,storeCells,Addr.add,mO]
theorem iK {t:TypeId} {z:Value} {d:Nat} {l:List Value} (hz:∀w,(zeroValue t).run P w=.ok z w) (hl:z.cells.toList=l) (hd:Nat.blt d n=true)
  (hk:∀b,c.w0.heap.size<=b->G P c n k ops rest ((d,Pt b 0)::fr) (Rx b l t::H)):G P c n k ops (⟨some d,.alloc t,ty,pos,mG,none⟩::rest) fr H:=by
 refine jO (kb:=.row l t (0,0)) (v:=fun b=>Pt b 0) (fun a w ha hw=>?_) hd hk;subst hl;simp[execOp,Instr.alloc,hz,newVar,newRow,oe.den]
theorem jc {t:TypeId} {x:Operand} {v:Value} {d:Nat} {l:List Value} (hx:ev fr x=some v) (hl:v.cells.toList=l) (hd:Nat.blt d n=true)
  (hk:∀b,c.w0.heap.size<=b->G P c n k ops rest ((d,Pt b 0)::fr) (Rx b l t::H)):G P c n k ops (⟨some d,.box t x,ty,pos,mG,none⟩::rest) fr H:=by
 refine jO (kb:=.row l t (0,0)) (v:=fun b=>Pt b 0) (fun a w ha hw=>?_) hd hk;subst hl;simp[execOp,ha.eval hx,Instr.box,newVar,newRow,oe.den]
theorem kV {t:TypeId} {d:Nat} (hd:Nat.blt d n=true)
  (hk:∀b,c.w0.heap.size<=b->G P c n k ops rest ((d,.map (some b))::fr) (⟨b,true,.obj (.map #[] 0)⟩::H)):G P c n k ops (⟨some d,.makeMap t none,ty,pos,mG,none⟩::rest) fr H:=by
 refine jO (kb:=.obj (.map #[] 0)) (v:=fun b=>.map (some b)) (fun a w ha hw=>?_) hd hk;simp[execOp,Instr.makeMap,oe.den]
def rN (fr:SF):List Operand->Option (List Value)
 |[]=>some []
 |x::r=>match ev fr x,rN fr r with
  |some v,some vs=>some (v::vs)
  |_,_=>none
theorem Fr.Kt {a:Act} (ha:Fr n fr a):∀{xs:List Operand} {vs:List Value},rN fr xs=some vs->xs.map a.eval=vs
 |[],vs,h=>by simp[rN] at h;simp[h]
 |x::r,vs,h=>by
  simp only[rN] at h;split at h
  ·rename_i v ws hv HA;simp only[bk] at h;subst h;simp[ha.eval hv,ha.Kt HA]
  cases h
theorem Cr {a:Act} {w:World} (ha:Fr n fr a) {g:FuncId} {xs:List Operand} {vs:List Value} {pj:Array TypeId} {dst:Option Tmp} {gd:Option (Nat×Bool)} (hg:∀(args:Array Value) w,(callFunc g args).run P w=.ok (.enter g args) w) (he:rN fr xs=some vs):
  (execOp a.eval ⟨dst,.call ⟨.value (.func g),xs.toArray,pj⟩,ty,pos,mG,gd⟩).run P w=.ok (.enter g vs.toArray) w:=by
 have h1:=ha.Kt he;have h2:a.eval (.func g)=.func (.func g) #[] #[]:=rfl;simp[execOp,resolve,h1,h2,Deferred.ofValue,invoke,hg]
theorem Sw {a:Act} {w:World} (ha:Fr n fr a) {g:FuncId} {x:Operand} {xs:List Operand} {vs cs:List Value} {pj:Array TypeId} {dst:Option Tmp} {gd:Option (Nat×Bool)} (hg:∀(args:Array Value) w,(callFunc g args).run P w=.ok (.enter g args) w)
  (hx:ev fr x=some (.func (.func g) #[] cs.toArray)) (he:rN fr xs=some vs):
  (execOp a.eval ⟨dst,.call ⟨.value x,xs.toArray,pj⟩,ty,pos,mG,gd⟩).run P w=.ok (.enter g (vs++cs).toArray) w:=by
 have h1:=ha.Kt he;simp[execOp,resolve,h1,ha.eval hx,Deferred.ofValue,invoke,hg]
theorem lz {g:FuncId} {xs:List Operand} {vs:List Value} {pj:Array TypeId} {d:Nat} {K:Value->World->Prop} (hg:∀(args:Array Value) w,(callFunc g args).run P w=.ok (.enter g args) w) (he:rN fr xs=some vs)
  (hd:Nat.blt d n=true) (hc:∀w,HF c.w0 c.D H w->Calls P g vs.toArray w (fun e w'=>∃v,e=.returned v/\K v w'))
  (hk:∀v w w',HF c.w0 c.D H w->K v w'->∃H',HF c.w0 c.D H' w'/\G P c n k ops rest ((d,v)::fr) H'):
  G P c n k ops (⟨some d,.call ⟨.value (.func g),xs.toArray,pj⟩,ty,pos,mG,none⟩::rest) fr H:=by
 intro hf a w ha hw;refine wpList_step fun K' Bf=>?_
 simp only[Region.wanted,if_true,Oper.wp,Cr ha hg he,Oper.upon];refine(hc w hw).mono fun e w' ⟨v,vJ,hv⟩=>?_
 subst vJ;obtain⟨H',h1,h2⟩:=hk v w w' hw hv;exact Bf _ _ (h2 hf _ _ (ha.put hd v) h1)
theorem lA {g:FuncId} {x:Operand} {xs:List Operand} {vs cs:List Value} {pj:Array TypeId} {d:Nat} {K:Value->World->Prop} (hg:∀(args:Array Value) w,(callFunc g args).run P w=.ok (.enter g args) w) (hx:ev fr x=some (.func (.func g) #[] cs.toArray)) (he:rN fr xs=some vs)
  (hd:Nat.blt d n=true) (hc:∀w,HF c.w0 c.D H w->Calls P g (vs++cs).toArray w (fun e w'=>∃v,e=.returned v/\K v w'))
  (hk:∀v w w',HF c.w0 c.D H w->K v w'->∃H',HF c.w0 c.D H' w'/\G P c n k ops rest ((d,v)::fr) H'):
  G P c n k ops (⟨some d,.call ⟨.value x,xs.toArray,pj⟩,ty,pos,mG,none⟩::rest) fr H:=by
 intro hf a w ha hw;refine wpList_step fun K' Bf=>?_
 simp only[Region.wanted,if_true,Oper.wp,Sw ha hg hx he,Oper.upon];refine(hc w hw).mono fun e w' ⟨v,vJ,hv⟩=>?_
 subst vJ;obtain⟨H',h1,h2⟩:=hk v w w' hw hv;exact Bf _ _ (h2 hf _ _ (ha.put hd v) h1)
theorem HF.o9 {w0 D w w'} {H1:SH} (h:HF w0 D H w) (h1:HF w (fun _=>False) H1 w') (hn:∀e∈H1,e.w=true):HF w0 D (H1++H) w':=by
 have xl:∀e∈H1,w.heap.size<=e.b:=fun e he=>(h1.wr e he (hn e he)).resolve_left id
 refine⟨br h.size h1.size,fun b mS hD=>?_,fun e he=>?_,fun e he hw=>?_,?_,h1.tape.trans h.tape,h1.os.trans h.os,h1.output.trans h.output⟩
 ·rw[h1.frame b (by have:=h.size;omega) id];exact h.frame b mS hD
 ·rcases aB.1 he with he|he
  ·exact h1.has e he
  rw[h1.frame e.b (h.lt he) id];exact h.has e he
 ·rcases aB.1 he with he|he
  ·exact .inr (br h.size (xl e he))
  exact h.wr e he hw
 refine bS.2 ⟨h1.nd,h.nd,fun e he x hx=>?_⟩;have:=xl e he;have:=h.lt hx;omega
theorem HF.after {w0 D D' w w'} {H1 Hk:SH} (h:HF w0 D H w) (h1:HF w D' H1 w') (hk:Hk.Sublist H) (hD:∀b,D' b->D b\/w0.heap.size<=b) (hs:∀e∈Hk,¬D' e.b) (px:∀e∈H1,∀x∈Hk,e.b≠x.b):
  HF w0 D (H1++Hk) w':=by
 have h':=h.sub hk;refine⟨br h.size h1.size,fun b mS Sy=>?_,fun e he=>?_,fun e he hw=>?_,?_,h1.tape.trans h.tape,h1.os.trans h.os,h1.output.trans h.output⟩
 ·rw[h1.frame b (by have:=h.size;omega) (fun hb=>by rcases hD b hb with h2|h2<;>first|exact Sy h2|omega)];exact h.frame b mS Sy
 ·rcases aB.1 he with he|he
  ·exact h1.has e he
  rw[h1.frame e.b (h'.lt he) (hs e he)];exact h'.has e he
 ·rcases aB.1 he with he|he
  ·rcases h1.wr e he hw with h2|h2
   ·exact hD _ h2
   exact .inr (br h.size h2)
  exact h'.wr e he hw
 exact bS.2 ⟨h1.nd,h'.nd,fun e he x hx=>px e he x hx⟩
theorem HF.old {w0 D w} (h:HF w0 D H w) {b:Nat} {o:Obj} (hb:w0.heap[b]? =some o) (hD:¬D b):w.heap[b]? =some o:=by
 rw[h.frame b (dK.1 hb).1 hD];exact hb
theorem HF.pT {w0 D w} (h:HF w0 D H w) {a:Addr} {v:Value} (hc:w0.cell? a=some v) (hD:¬D a.block):w.cell? a=some v:=by
 have mS:a.block<w0.heap.size:=World.block_lt_of_cell? w0 a hc;simp only[World.cell?,h.frame a.block mS hD];simpa only[World.cell?] using hc
theorem hZ {t:TypeId} {x:Operand} {b off:Nat} {v:Value} (hA:∀w,(isAgg t).run P w=.ok false w) (h:ev fr x=some (Pt b off))
  (hc:c.w0.cell? ⟨b,off,none⟩=some v) (hD:¬c.D b):nB P c n (.load t x) ty fr H v:=by
 intro a w ha hw dst pos mG g;have hc:=hw.pT hc hD;simp[execOp,ha.eval h,Instr.loadAt,Instr.sureAddr,loadVar,hA,run_load,hc]
theorem ju {t:TypeId} {x:Operand} {b off s:Nat} {cs:List Value} (hA:∀w,(isAgg t).run P w=.ok true w) (hs:∀w,(Go.sizeOf t).run P w=.ok s w) (h:ev fr x=some (Pt b off))
  (hc:∀j v,cs[j]? =some v->c.w0.cell? ⟨b,off+j,none⟩=some v) (hl:cs.length=s) (hD:¬c.D b):nB P c n (.load t x) ty fr H (.agg cs.toArray):=by
 intro a w ha hw dst pos mG g
 have oc:∀j v,cs[j]? =some v->w.cell? ((⟨b,off,none⟩:Addr).add j)=some v:=by
  intro j v hj;have h2:=hw.pT (hc j v hj) hD;by_cases h0:j=0
  ·subst h0;simpa[Addr.add] using h2
  simpa[Addr.add,h0] using h2
 have vd:=run_loadCells_list (P:=P) (w:=w) ⟨b,off,none⟩ cs oc;simp[execOp,ha.eval h,Instr.loadAt,Instr.sureAddr,loadVar,hA,hs,<-hl,vd]
def GQ (P:Program) (c:Cx) (n:Nat) (k:List Item) (ops:Array Oper) (l:List Oper) (fr:SF) (H:SH):Prop:=
 P.funcs[c.f]? =some c.fn->∀a,Fr n fr a->wpQuiet P ops (HF c.w0 c.D H) (fun a'=>∀w',HF c.w0 c.D H w'->Qk P c k .normal a' w') l a
theorem iV {id:Nat} {l:List Oper} (hm:P.follows .mixedOrders =true) (hB:Region.lexB .any l.toArray=true) (h:GQ P c n k l.toArray l fr H):GC P c n (.code (.region id l.toArray true)::k) fr H:=
 fun hf a w ha hw=>xk.of_wp hf (wp_region_quiet (C:=HF c.w0 c.D H) hm hB (hw.drew _) (by simpa using h hf a ha))
theorem iH (h:GC P c n k fr H):GQ P c n k ops [] fr H:=fun hf a ha=>wpQuiet_nil fun w' ia=>h hf a w' ha ia
theorem lB {op:Op} {v:Value} {d:Nat} (hv:nB P c n op ty fr H v) (hd:Nat.blt d n=true) (hk:GQ P c n k ops rest ((d,v)::fr) H):
  GQ P c n k ops (⟨some d,op,ty,pos,mG,none⟩::rest) fr H:=by
 intro hf a ha;refine wpQuiet_step fun K hK=>?_
 simp only[Region.wanted,if_true];exact⟨v,fun w hw=>by simp[Oper.quietAt,hv a w ha hw,Oper.quietUpon],hK _ (hk hf _ (ha.put hd v))⟩
theorem lC {op:Op} {v:Value} {d j t:Nat} {b:Bool} (hj:(ops[j]?).bind (·.dst)=some t) (hb:look t fr=some (.bool b))
  (hv:nB P c n op ty fr H v) (hd:Nat.blt d n=true) (hk:GQ P c n k ops rest ((d,v)::fr) H):
  GQ P c n k ops (⟨some d,op,ty,pos,mG,some (j,b)⟩::rest) fr H:=by
 intro hf a ha;refine wpQuiet_step fun K hK=>?_
 have hy:yielded ops a.tmps j=some b:=by simp[yielded,hj,ha.at_ t _ hb]
 have qn:Region.wanted ⟨some d,op,ty,pos,mG,some (j,b)⟩ (yielded ops a.tmps)=true:=by simp[Region.wanted,hy]
 simp only[qn,if_true];exact⟨v,fun w hw=>by simp[Oper.quietAt,hv a w ha hw,Oper.quietUpon],hK _ (hk hf _ (ha.put hd v))⟩
theorem lD {o:Oper} {j t d:Nat} {b want:Bool} (hg:o.guard=some (j,want)) (wO:o.dst=some d) (hj:(ops[j]?).bind (·.dst)=some t) (hb:look t fr=some (.bool b)) (mW:(b==want)=false) (hd:Nat.blt d n=true)
  (hk:GQ P c n k ops rest ((d,undef)::fr) H):GQ P c n k ops (o::rest) fr H:=by
 intro hf a ha;refine wpQuiet_step fun K hK=>?_
 have hy:yielded ops a.tmps j=some b:=by simp[yielded,hj,ha.at_ t _ hb]
 have qn:Region.wanted o (yielded ops a.tmps)=false:=by
  simp only[Region.wanted,hg,hy];cases b<;>cases want<;>simp_all
 simp only[qn,wO];exact hK _ (hk hf _ (ha.put hd undef))
theorem Fr.Ku {a:Act} (ha:Fr n fr a) {t:Nat} {b x:Bool} (hb:look t fr=some (.bool b)) (hx:b=x):Fr n ((t,.bool x)::fr) a:=⟨ha.size,ha.defers,fun s u hs=>by
  by_cases e:t=s
  ·subst e;rw[Hu] at hs;rw[ha.at_ t _ hb,hx];exact hs
  rw[Ho e] at hs;exact ha.at_ s u hs⟩
theorem jr {l:List Oper} (t:Nat) {b:Bool} (hb:look t fr=some (.bool b)) (ht:b=true->GQ P c n k ops l ((t,.bool true)::fr) H) (hf:b=false->GQ P c n k ops l ((t,.bool false)::fr) H):
  GQ P c n k ops l fr H:=by
 intro hF a ha;cases b
 ·exact hf rfl hF a (ha.Ku hb rfl)
 exact ht rfl hF a (ha.Ku hb rfl)
theorem lF {g:FuncId} {xs:List Operand} {vs:List Value} {pj:Array TypeId} {d:Nat} {v:Value} (hg:∀(args:Array Value) w,(callFunc g args).run P w=.ok (.enter g args) w) (he:rN fr xs=some vs)
  (hd:Nat.blt d n=true) (hc:∀w,HF c.w0 c.D H w->Calls P g vs.toArray w (fun e w'=>e=.returned v/\HF c.w0 c.D H w'))
  (hk:GQ P c n k ops rest ((d,v)::fr) H):
  GQ P c n k ops (⟨some d,.call ⟨.value (.func g),xs.toArray,pj⟩,ty,pos,mG,none⟩::rest) fr H:=by
 intro hf a ha;refine wpQuiet_step fun K hK=>?_
 simp only[Region.wanted,if_true];refine⟨v,fun w hw=>?_,hK _ (hk hf _ (ha.put hd v))⟩;simp only[Oper.quietAt,Cr ha hg he,Oper.quietUpon];exact⟨trivial,hc w hw⟩
def GS (P:Program) (c:Cx) (n:Nat) (k:List Item) (ops:Array Oper) (tail l:List Oper) (fr:SF) (H:SH):Prop:=
 P.funcs[c.f]? =some c.fn->∀a w,Fr n fr a->HF c.w0 c.D H w->wpStill P ops w (fun a'=>wpList P ops (Qk P c k) tail a' w) l a
theorem js {id:Nat} {l:List Oper} (m:Nat) (hm:P.follows .mixedOrders =true) (hB:Region.lexTailB .any l.toArray m=true) {hd tl:List Oper} (h1:l.take m=hd) (h2:l.drop m=tl)
  (h:GS P c n k l.toArray tl hd fr H):GC P c n (.code (.region id l.toArray true)::k) fr H:=
 fun hf a w ha hw=>xk.of_wp hf (wp_region_still_tail m hm hB (by subst h1;subst h2;exact h hf a _ ha (hw.drew _)))
variable {tail:List Oper}
theorem jt (h:G P c n k ops tail fr H):GS P c n k ops tail [] fr H:=fun hf a w ha hw=>wpStill_nil (h hf a w ha hw)
theorem lG {op:Op} {v:Value} {d:Nat} (hv:nB P c n op ty fr H v) (hd:Nat.blt d n=true) (hk:GS P c n k ops tail rest ((d,v)::fr) H):
  GS P c n k ops tail (⟨some d,op,ty,pos,mG,none⟩::rest) fr H:=by
 intro hf a w ha hw;refine wpStill_step fun K hK=>?_
 simp only[Region.wanted,if_true,Oper.still,hv a w ha hw,Oper.stillUpon_value];exact hK _ (hk hf _ _ (ha.put hd v) hw)
def HC:Nat->List Value->SF
 |_,[]=>[]
 |i,v::r=>(i,v)::HC (i+1) r
theorem Sz:∀(vs:List Value) (i t:Nat) (v:Value),look t (HC i vs)=some v->i<=t/\vs[t-i]? =some v
 |[],i,t,v,h=>by simp[HC,look] at h
 |u::r,i,t,v,h=>by
  simp only[HC] at h;by_cases e:i=t
  ·subst e;rw[Hu] at h;simpa using h
  rw[Ho e] at h;obtain⟨h1,h2⟩:=Sz r (i+1) t v h;refine⟨by omega,?_⟩;rw[show t-i=(t-(i+1))+1 by omega];simpa using h2
theorem enter {f:FuncId} {fn:Func} {code:Code} {vs:List Value} {R:Ending->World->Prop} {w:World} (D:Nat->Prop) {SA:SF} (H0:SH) (hf:P.funcs[f]? =some fn) (hb:fn.body=some code) (hn:fn.ntmps=n) (hl:Nat.ble vs.length n=true)
  (tu:HC 0 vs=SA) (hH:HF w D H0 w) (h:∀c:Cx,c=⟨f,fn,R,w,D⟩->GC P c n [.code code] SA H0):Calls P f vs.toArray w R:=by
 intro cs;have hle:vs.length<=n:=Nat.le_of_ble_eq_true hl
 have:=h ⟨f,fn,R,w,D⟩ rfl hf {tmps:=vs.toArray++Array.replicate (fn.ntmps-vs.toArray.size) undef,defers:=[]} w
  ⟨by simp[hn];omega,rfl,fun t v ht=>by
   subst tu;obtain⟨_,h2⟩:=Sz vs 0 t v ht;have mS:t<vs.length:=by have:=(ae.1 h2).1;simpa using this
   rw[Array.getElem?_append_left (by simpa using mS)]
   simpa using h2⟩ hH {(default:Frame) with fn:=f,kind:=.normal } rfl rfl cs
 have Zg:Frame.enter P f vs.toArray .normal =({(default:Frame) with fn:=f,kind:=.normal }:Frame).at {tmps:=vs.toArray++Array.replicate (fn.ntmps-vs.toArray.size) undef,defers:=[]} [.code code]:=by
  simp[Frame.enter,Frame.at,hf,hb]
 rw[Zg];exact this
section
variable {P:Program} {ops:Array Oper} {md:Region.Mode} {C:World->Prop}
def HD (P:Program) (md:Region.Mode) (ops:Array Oper) (C:World->Prop) (m:Nat) (E:Array Bool->Act->Prop):Nat->Array Bool->Act->Prop
 |0,l,a=>E l a
 |f+1,l,a=>Region.ready md ops l≠[]/\∀i,i∈Region.ready md ops l->i<m/\qOp P ops C i (HD P md ops C m E f (l.setIfInBounds i true)) a
theorem Zh {m g:Nat} {E:Array Bool->Act->Prop} {Q:Exit->Act->World->Prop} (hE:∀l a w,C w->E l a->wpAny P md ops Q g l a w) (f:Nat):
  ∀l a w,C w->HD P md ops C m E f l a->wpAny P md ops Q (f+g) l a w:=by
 induction f with
 |zero=>intro l a w hw h;rw[aH];exact hE l a w hw h
 |succ f ih=>
  intro l a w hw h;have e:f+1+g=(f+g)+1:=by omega
  rw[e];refine⟨fun h0=>absurd h0 h.1,fun i hi=>?_⟩;exact wpOp_of_qOp hw (fun a' w' ia h'=>ih _ a' w' ia h') (h.2 i hi).2
theorem Zi {m i:Nat} {oi:Oper} {v:Value} {E:Array Bool->Act->Prop} (hi:ops[i]? =some oi) (yK:∀(j:Nat) (o:Oper) cs b,ops[j]? =some o->o.op≠ .select cs b)
  (hs:Region.sinkB md ops m=true) (hc:Region.chainB md ops m=true) (hm:m<ops.size) (xm:i<m) (hE:∀l a,E l a->∀j,j∈Region.ready md ops l->m<=j) (f:Nat):
  ∀l a,HeadInv md ops m l->(∀j oj,ops[j]? =some oj->j≠i->l.getD j true=false->(∀e∈oj.after,Region.binds md e=true->e.on≠i)->oi.apart ops oj=true)->
   i∈Region.ready md ops l->YieldsIn P ops C oi v a->HD P md ops C m E f (l.setIfInBounds i true) (a.put oi.dst v)->HD P md ops C m E (f+1) l a:=by
 induction f with
 |zero=>
  intro l a inv DU hr hy hk;have rX:=(mem_ready.1 hr).1;refine⟨fM hr,fun j hj=>?_⟩
  have zn:j<m:=by
   rcases cn j m with h|h
   ·exact h
   exact absurd hj (tail_waits hs hc hm inv _ i rfl xm rX j h)
  refine⟨zn,?_⟩;rcases Nat.decEq j i with mW|rfl
  ·have:=hE _ _ hk j (ready_mono hj mW);omega
  exact hy.qOp hi hk
 |succ f ih=>
  intro l a inv DU hr hy hk;have rX:=(mem_ready.1 hr).1;refine⟨fM hr,fun j hj=>?_⟩
  have zn:j<m:=by
   rcases cn j m with h|h
   ·exact h
   exact absurd hj (tail_waits hs hc hm inv _ i rfl xm rX j h)
  refine⟨zn,?_⟩;rcases Nat.decEq j i with mW|rfl
  ·have yL:=(hk.2 j (ready_mono hj mW)).2;obtain⟨HE,oj,DV,pN⟩:=mem_ready.1 hj
   have uH:∀e∈oj.after,Region.binds md e=true->e.on≠i:=fun e he hb M9=>by
    have h1:=pN e he hb;rw[M9,getD_both rX] at h1;cases h1
   refine qOp_mono (fun a' h3=>?_) (qOp_put DV (DU j oj DV mW HE uH) (fun cs b=>yK i oi cs b hi) (fun cs b=>yK j oj cs b DV) hy yL);refine ih (l.setIfInBounds j true) a' (inv.set hj zn) (fun x ox hx HG Na nN=>DU x ox hx HG ?_ nN) (ready_mono hr (Ne.symm mW)) h3.1 ?_
   ·rcases Nat.decEq j x with h|rfl
    ·rwa[getD_set_ne true h] at Na
    exact HE
   have h4:=h3.2;rwa[Array.setIfInBounds_comm _ _ (Ne.symm mW)] at h4
  exact hy.qOp hi hk
theorem Zj {m g:Nat} {Lq:Act->Prop} (yK:Region.noSelect ops=true) (hs:Region.sinkB md ops m=true) (hc:Region.chainB md ops m=true) (hm:m<ops.size) (l:List Oper):
  ∀(k:Nat) (li:Array Bool) (a:Act),(∀j,j<l.length->l[j]? =ops[k+j]?)->k+l.length=m->HeadInv md ops m li->Region.lexHead md ops g l.length k li=true->wpQuiet P ops C Lq l a->
   HD P md ops C m (fun l' a'=>Region.seqB md ops g m l'=true/\Lq a') l.length li a:=by
 induction l with
 |nil=>
  intro k li a _ hk _ hB h;have e:k=m:=by simpa using hk
  subst e
  exact⟨by simpa[Region.lexHead] using hB,h⟩
 |cons o l ih=>
  intro k li a hl hk inv hB h;have h0:ops[k]? =some o:=by simpa using(hl 0 (by simp)).symm
  simp only[aI,Region.lexHead,cG] at hB;obtain⟨⟨hr,hf⟩,HH⟩:=hB;have xQ:k<m:=by simp only[aI] at hk;omega
  have xn:k∈Region.ready md ops li:=by simpa using hr
  have hq:qOp P ops C k (wpQuiet P ops C Lq l) a:=by unfold qOp;simp only[h0];exact h
  obtain⟨v,hy,hK⟩:=yieldsIn_of_qOp h0 hq;refine Zi h0 (Region.noSelect_spec yK) hs hc hm xQ (fun l' a' hL=>seqB_ready hL.1) l.length li a inv (Region.free_spec h0 hf) xn hy<|ih (k+1) _ _ (fun j hj=>?_) (by simp only[aI] at hk;omega) (inv.set xn xQ) HH hK;have:=hl (j+1) (by simp;omega);simpa[eL,eF 1 j] using this
theorem Zk {id:Nat} {Q:Exit->Act->World->Prop} {a:Act} {w:World} {l:List Oper} (m:Nat) (hm:P.follows .mixedOrders =true) (hB:Region.lexTailB .any l.toArray m=true) (hC:C {w with drawn:=w.drawn+1})
  (h:wpQuiet P l.toArray C (fun a'=>∀w',C w'->wpList P l.toArray Q (l.drop m) a' w') (l.take m) a):(Code.region id l.toArray true).wp P Q a w:=by
 simp only[Region.lexTailB,cG,decide_eq_true_eq] at hB;obtain⟨⟨⟨⟨yK,hn⟩,hs⟩,hc⟩,Zl⟩:=hB;have Ct:m<l.length:=by simpa using hn
 have rY:(l.take m).length =m:=by simp;omega
 have nn:(l.drop m).length =l.toArray.size-m:=by simp
 have Nb:HeadInv .any l.toArray m (Array.replicate l.toArray.size false):=
  ⟨by simp,fun j oj _ hl=>(by rw[getD_replicate_false] at hl;cases hl),fun t _ ht=>getD_in (by simpa using ht) (getD_replicate_false _ _)⟩
 have hd:=Zj (md:=.any) (g:=l.toArray.size-m) yK hs hc hn (l.take m) 0 _ a (fun j hj=>by
  have Nc:j<m:=by rw[rY] at hj;exact hj
  simp[Nc]) (by simpa using rY) Nb (by rw[rY];exact Zl) h
 refine wp_region_any hm ?_
 have:=Zh (Q:=Q) (g:=l.toArray.size-m) (fun li a' w' ia hL=>by
  have h2:=wpAny_of_seq (md:=.any) (Q':=Q) (l.drop m) m li a' w' (fun j=>by simp[bL]) (by rw[nn];exact hL.1) (hL.2 w' ia)
  rwa[nn] at h2) _ _ _ _ hC hd
 rw[rY,show m+(l.toArray.size-m)=l.toArray.size by omega] at this;exact this
end
variable {P:Program} {c:Cx} {n:Nat} {k:List Item} {fr:SF} {H:SH} {ops:Array Oper} {rest tail:List Oper} {ty:TypeId} {pos:String} {mG:Array Edge}
def GT (P:Program) (c:Cx) (n:Nat) (k:List Item) (ops:Array Oper) (tail l:List Oper) (fr:SF) (H:SH):Prop:=
 P.funcs[c.f]? =some c.fn->∀a,Fr n fr a->wpQuiet P ops (HF c.w0 c.D H) (fun a'=>∀w',HF c.w0 c.D H w'->wpList P ops (Qk P c k) tail a' w') l a
theorem lH {id:Nat} {l:List Oper} (m:Nat) (hm:P.follows .mixedOrders =true) (hB:Region.lexTailB .any l.toArray m=true) {hd tl:List Oper} (h1:l.take m=hd) (h2:l.drop m=tl)
  (h:GT P c n k l.toArray tl hd fr H):GC P c n (.code (.region id l.toArray true)::k) fr H:=
 fun hf a w ha hw=>xk.of_wp hf (Zk (C:=HF c.w0 c.D H) m hm hB (hw.drew _) (by subst h1;subst h2;exact h hf a ha))
theorem kI (h:G P c n k ops tail fr H):GT P c n k ops tail [] fr H:=fun hf a ha=>wpQuiet_nil fun w' ia=>h hf a w' ha ia
theorem iW {op:Op} {v:Value} {d:Nat} (hv:nB P c n op ty fr H v) (hd:Nat.blt d n=true) (hk:GT P c n k ops tail rest ((d,v)::fr) H):
  GT P c n k ops tail (⟨some d,op,ty,pos,mG,none⟩::rest) fr H:=by
 intro hf a ha;refine wpQuiet_step fun K hK=>?_
 simp only[Region.wanted,if_true];exact⟨v,fun w hw=>by simp[Oper.quietAt,hv a w ha hw,Oper.quietUpon],hK _ (hk hf _ (ha.put hd v))⟩
theorem ki {op:Op} {v:Value} {d j t:Nat} {b:Bool} (hj:(ops[j]?).bind (·.dst)=some t) (hb:look t fr=some (.bool b))
  (hv:nB P c n op ty fr H v) (hd:Nat.blt d n=true) (hk:GT P c n k ops tail rest ((d,v)::fr) H):
  GT P c n k ops tail (⟨some d,op,ty,pos,mG,some (j,b)⟩::rest) fr H:=by
 intro hf a ha;refine wpQuiet_step fun K hK=>?_
 have hy:yielded ops a.tmps j=some b:=by simp[yielded,hj,ha.at_ t _ hb]
 have qn:Region.wanted ⟨some d,op,ty,pos,mG,some (j,b)⟩ (yielded ops a.tmps)=true:=by simp[Region.wanted,hy]
 simp only[qn,if_true];exact⟨v,fun w hw=>by simp[Oper.quietAt,hv a w ha hw,Oper.quietUpon],hK _ (hk hf _ (ha.put hd v))⟩
theorem jX {o:Oper} {j t d:Nat} {b want:Bool} (hg:o.guard=some (j,want)) (wO:o.dst=some d) (hj:(ops[j]?).bind (·.dst)=some t) (hb:look t fr=some (.bool b)) (mW:(b==want)=false) (hd:Nat.blt d n=true)
  (hk:GT P c n k ops tail rest ((d,undef)::fr) H):GT P c n k ops tail (o::rest) fr H:=by
 intro hf a ha;refine wpQuiet_step fun K hK=>?_
 have hy:yielded ops a.tmps j=some b:=by simp[yielded,hj,ha.at_ t _ hb]
 have qn:Region.wanted o (yielded ops a.tmps)=false:=by
  simp only[Region.wanted,hg,hy];cases b<;>cases want<;>simp_all
 simp only[qn,wO];exact hK _ (hk hf _ (ha.put hd undef))
theorem kW {l:List Oper} (t:Nat) {b:Bool} (hb:look t fr=some (.bool b)) (ht:b=true->GT P c n k ops tail l ((t,.bool true)::fr) H) (hf:b=false->GT P c n k ops tail l ((t,.bool false)::fr) H):
  GT P c n k ops tail l fr H:=by
 intro hF a ha;cases b
 ·exact hf rfl hF a (ha.Ku hb rfl)
 exact ht rfl hF a (ha.Ku hb rfl)
theorem lI {g:FuncId} {xs:List Operand} {vs:List Value} {pj:Array TypeId} {d:Nat} {v:Value} (hg:∀(args:Array Value) w,(callFunc g args).run P w=.ok (.enter g args) w) (he:rN fr xs=some vs)
  (hd:Nat.blt d n=true) (hc:∀w,HF c.w0 c.D H w->Calls P g vs.toArray w (fun e w'=>e=.returned v/\HF c.w0 c.D H w'))
  (hk:GT P c n k ops tail rest ((d,v)::fr) H):
  GT P c n k ops tail (⟨some d,.call ⟨.value (.func g),xs.toArray,pj⟩,ty,pos,mG,none⟩::rest) fr H:=by
 intro hf a ha;refine wpQuiet_step fun K hK=>?_
 simp only[Region.wanted,if_true];refine⟨v,fun w hw=>?_,hK _ (hk hf _ (ha.put hd v))⟩;simp only[Oper.quietAt,Cr ha hg he,Oper.quietUpon];exact⟨trivial,hc w hw⟩
theorem iw {g:FuncId} {xs:List Operand} {vs:List Value} {pj:Array TypeId} {d:Nat} {v:Value} (hg:∀(args:Array Value) w,(callFunc g args).run P w=.ok (.enter g args) w) (he:rN fr xs=some vs)
  (hd:Nat.blt d n=true) (hc:∀w,HF c.w0 c.D H w->Calls P g vs.toArray w (fun e w'=>e=.returned v/\HF w (fun _=>False) [] w'))
  (hk:G P c n k ops rest ((d,v)::fr) H):
  G P c n k ops (⟨some d,.call ⟨.value (.func g),xs.toArray,pj⟩,ty,pos,mG,none⟩::rest) fr H:=
 lz hg he hd (K:=fun u w'=>u=v/\∃w,HF c.w0 c.D H w/\HF w (fun _=>False) [] w') (fun w hw=>(hc w hw).mono fun e w' h=>⟨v,h.1,rfl,w,hw,h.2⟩)
  fun _ _ w' _ h=>⟨H,by obtain⟨_,w,h1,h2⟩:=h;exact h1.o9 h2 (fun _ he=>by cases he),h.1▸hk⟩
theorem j6 {g:FuncId} {xs:List Operand} {vs:List Value} {pj:Array TypeId} {d:Nat} {v:Value} (hg:∀(args:Array Value) w,(callFunc g args).run P w=.ok (.enter g args) w) (he:rN fr xs=some vs)
  (hd:Nat.blt d n=true) (hc:∀w,HF c.w0 c.D H w->Calls P g vs.toArray w (fun e w'=>e=.returned v/\HF w (fun _=>False) [] w'))
  (hk:GQ P c n k ops rest ((d,v)::fr) H):
  GQ P c n k ops (⟨some d,.call ⟨.value (.func g),xs.toArray,pj⟩,ty,pos,mG,none⟩::rest) fr H:=
 lF hg he hd (fun w hw=>(hc w hw).mono fun e w' h=>⟨h.1,hw.o9 h.2 (fun _ he=>by cases he)⟩) hk
theorem kJ {g:FuncId} {xs:List Operand} {vs:List Value} {pj:Array TypeId} {d:Nat} {v:Value} (hg:∀(args:Array Value) w,(callFunc g args).run P w=.ok (.enter g args) w) (he:rN fr xs=some vs)
  (hd:Nat.blt d n=true) (hc:∀w,HF c.w0 c.D H w->Calls P g vs.toArray w (fun e w'=>e=.returned v/\HF w (fun _=>False) [] w'))
  (hk:GT P c n k ops tail rest ((d,v)::fr) H):
  GT P c n k ops tail (⟨some d,.call ⟨.value (.func g),xs.toArray,pj⟩,ty,pos,mG,none⟩::rest) fr H:=
 lI hg he hd (fun w hw=>(hc w hw).mono fun e w' h=>⟨h.1,hw.o9 h.2 (fun _ he=>by cases he)⟩) hk
variable {P:Program} {c:Cx} {n:Nat} {k:List Item} {fr:SF} {H:SH} {ops:Array Oper} {rest:List Oper} {ty:TypeId} {pos:String} {mG:Array Edge}
theorem HF.perm {w0 D w} {H':SH} (h:HF w0 D H w) (p:H.Perm H'):HF w0 D H' w:=
 ⟨h.size,h.frame,fun e he=>h.has e (p.mem_iff.2 he),fun e he=>h.wr e (p.mem_iff.2 he),(p.pairwise_iff (fun h=>h.symm)).1 h.nd,h.tape,h.os,h.output⟩
inductive Own (e sz:Nat):Value->Nat->List Value->SH->Prop
 |nil:Own e sz (.slice none 0 0) 0 [] []
 |row {b n cap:Nat} {xs spare:List Value} (hn:xs.length=n*sz) (hc:(xs++spare).length =cap*sz) (hle:n<=cap):Own e sz (Sx b n cap) n xs [Rx b (xs++spare) e]
theorem Own.len {e sz v n xs Hs} (h:Own e sz v n xs Hs):xs.length=n*sz:=by
 cases h with
 |nil=>simp
 |row hn _ _=>exact hn
theorem Own.slice {e sz v n xs Hs} (h:Own e sz v n xs Hs):∃ad cap,v=.slice ad n cap:=by
 cases h with
 |nil=>exact⟨none,0,rfl⟩
 |row _ _ _=>exact⟨_,_,rfl⟩
theorem Own.at {e sz v n xs Hs} (h:Own e sz v n xs Hs) {i:Nat} (hi:i<n):∃b cap spare,v=Sx b n cap/\Hs=[Rx b (xs++spare) e]:=by
 cases h with
 |nil=>omega
 |row hn hc hle=>exact⟨_,_,_,rfl,rfl⟩
theorem HI (z:Array Value) (n:Nat):(Builtin.zeroCells z n).size =n*z.size:=by simp[Builtin.zeroCells]
theorem SB {w0 D w} {b:Nat} {l l':List Value} {t:TypeId} {fz:Nat×Nat} {H':SH} (h:HF w0 D (⟨b,true,.row l t fz⟩::H') w):HF w0 D (⟨b,true,.row l' t fz⟩::H') (w.setRow b l'.toArray):=by
 have hb:=h.has _ (.head _)
 have:=h.pM (w':=w.setRow b l'.toArray) (e:=⟨b,true,.row l t fz⟩) .z rfl (.row l' t fz) (by simp[World.setRow]) (by
   simp only[oe.den] at hb⊢
   simp[World.setRow,dR,hb]) (fun x hx=>by
   simp only at hx;simp only[World.setRow]
   rw[dR,if_neg (fun e=>hx e.symm)]) rfl rfl rfl
 simpa[sV] using this
theorem jA {T e sz qg:Nat} {i:TypeInfo} {z:Value} {x y:Operand} {sv:Value} {n0:Nat} {xs vs:List Value} {Hs H':SH} {ad:Addr} {m mc d:Nat}
  (hT:P.underlying T=some (.slice e)) (hi:P.info? e=some i) (hz:i.zero=some z) (rM:i.size=sz) (zo:i.bytes=qg) (xR:z.cells.size=sz)
  (hx:ev fr x=some sv) (hy:ev fr y=some (.slice (some ad) m mc)) (nx:Own e sz sv n0 xs Hs) (sO:H.Perm (Hs++H'))
  (xS:∀w,HF c.w0 c.D H w->∀j u,vs[j]? =some u->w.cell? (ad.add j)=some u) (qW:vs.length=m*sz) (h1:∀u∈vs,u.oneCell'=true) (hm:0<m) (r9:(n0+m)*qg<=140737488355328) (xo:n0+m<=9223372036854775807)
  (hd:Nat.blt d n=true)
  (hk:∀sC nX,Own e sz sC (n0+m) (xs++vs) nX->G P c n k ops rest ((d,sC)::fr) (H'++nX)):
  G P c n k ops (⟨some d,.call ⟨.builtin .append, #[x,y], #[T,T]⟩,ty,pos,mG,none⟩::rest) fr H:=by
 intro hf a w ha hw;subst rM;subst zo;refine wpList_step fun K hK=>?_
 simp only[Region.wanted,if_true,Oper.wp]
 have hex:∀v w',(Builtin.append_ #[T,T] ty #[sv,.slice (some ad) m mc]).run P w=.ok v w'->(execOp a.eval ⟨some d,.call ⟨.builtin .append, #[x,y], #[T,T]⟩,ty,pos,mG,none⟩).run P w=.ok (.value v) w':=by
  intro v w' hr;simp[execOp,resolve,invoke,builtin,ha.eval hx,ha.eval hy,hr]
 cases nx with
 |nil=>
  have oD:0+m=m:=aH m;have hr:=run_append_nil (P:=P) w T ty e i z hT hi hz ad m mc vs qW (xS w hw) hm (by omega) (by rw[oD] at r9;omega);rw[hex _ _ hr];simp only[Oper.upon];refine hK _ _ ?_;have hH:HF c.w0 c.D H' w:=hw.perm (by simpa using sO);have hp:=((hH.drew (w.drawn+1)).push (.row (vs++(Builtin.zeroCells z.cells (grownCap w m 0 e-m)).toList) e (0,0)));refine(hk (Sx w.heap.size m (grownCap w m 0 e)) [Rx w.heap.size (vs++(Builtin.zeroCells z.cells (grownCap w m 0 e-m)).toList) e] ?_) hf _ _ (ha.put hd _) (HF.perm ?_ (cO _ _).symm)
  ·rw[oD,cv];have hle:m<=grownCap w m 0 e:=by simp[grownCap,Question.cut]
   refine .row qW ?_ hle;simp[HI,xR,qW,<-dI];rw[fI hle]
  have e3:(vs++(Builtin.zeroCells z.cells (grownCap w m 0 e-m)).toList).toArray =vs.toArray++Builtin.zeroCells z.cells (grownCap w m 0 e-m):=by simp
  simp only[oe.den,e3] at hp
  exact hp
 |row hn hc hle=>
  rename_i b cap spare;have fa:HF c.w0 c.D (Rx b (xs++spare) e::H') w:=hw.perm sO;have hb:=fa.has _ (.head _);simp only[oe.den] at hb;by_cases ve:n0+m<=cap
  ·have HJ:n0*i.size+vs.length<=(xs++spare).toArray.size :=by
    rw[eY,hc,qW,<-dI];exact gn _ ve
   have hr:=run_append_room (P:=P) w T ty e i hT hi b n0 cap (xs++spare).toArray hb ad m mc vs qW (xS w hw) h1 ve HJ;rw[hex _ _ hr];simp only[Oper.upon];refine hK _ _ ?_;have e1:(xs++spare).take (n0*i.size)=xs:=by rw[<-hn];simp
   have e2:((xs++spare).toArray.toList.take (n0*i.size)++vs++(xs++spare).toArray.toList.drop (n0*i.size+vs.length))=(xs++vs)++(xs++spare).drop (n0*i.size+vs.length):=by
    simp only[e1]
   rw[e2];refine(hk (Sx b (n0+m) cap) [Rx b ((xs++vs)++(xs++spare).drop (n0*i.size+vs.length)) e] ?_) hf _ _ (ha.put hd _) (HF.perm (SB fa) (cO _ _).symm);refine .row ?_ ?_ ve
   ·simp[hn,qW,dI]
   have:(xs++spare).length =cap*i.size:=hc;have h3:n0*i.size+vs.length<=(xs++spare).length :=by simpa using HJ
   simp only[ax,aA] at*;omega
  have hr:=run_append_grow (P:=P) w T ty e i z hT hi hz ⟨b,0,none⟩ n0 cap xs hn (fun j v hj=>by
    have:=oQ fa (off:=j) (v:=v) (.head _) (by rw[n8,ak (ae.1 hj).1];exact hj);by_cases h0:j=0
    ·subst h0;simpa[Addr.add] using this
    simpa[Addr.add,h0] using this) ad m mc vs qW (xS w hw) (by omega) (by omega) (growslice_fits (by omega) r9)
  rw[hex _ _ hr];simp only[Oper.upon];refine hK _ _ ?_;have hH:HF c.w0 c.D H' w:=fa.sub (ai _ _);have hp:=((hH.drew (w.drawn+1)).push (.row ((xs++vs)++(Builtin.zeroCells z.cells (grownCap w (n0+m) cap e-(n0+m))).toList) e (0,0)));refine(hk (Sx w.heap.size (n0+m) (grownCap w (n0+m) cap e)) [Rx w.heap.size ((xs++vs)++(Builtin.zeroCells z.cells (grownCap w (n0+m) cap e-(n0+m))).toList) e] ?_) hf _ _ (ha.put hd _) (HF.perm ?_ (cO _ _).symm)
  ·have HK:n0+m<=grownCap w (n0+m) cap e:=by simp[grownCap,Question.cut]
   refine .row (by simp[hn,qW,dI]) ?_ HK;simp only[ax,Array.length_toList,HI,xR,hn,qW];rw[<-dI,<-dI,fI HK]
  have e3:((xs++vs)++(Builtin.zeroCells z.cells (grownCap w (n0+m) cap e-(n0+m))).toList).toArray =xs.toArray++vs.toArray++Builtin.zeroCells z.cells (grownCap w (n0+m) cap e-(n0+m)):=by simp
  simp only[oe.den,e3] at hp;exact hp
theorem vf {b:Nat} {wf:Bool} {vs r:List Value} {t:TypeId} {fz:Nat×Nat} (hm:⟨b,wf,.row (vs++r) t fz⟩∈H):∀w,HF c.w0 c.D H w->∀j u,vs[j]? =some u->w.cell? ((⟨b,0,none⟩:Addr).add j)=some u:=by
 intro w hw j u hj;have:=oQ hw (off:=j) (v:=u) hm (by rw[n8,ak (ae.1 hj).1];exact hj);by_cases h0:j=0
 ·subst h0;simpa[Addr.add] using this
 simpa[Addr.add,h0] using this
def BS (P:Program) (T e:Nat) (v:Value) (vs:List Value):Prop:=
 ∀w,(Instr.buildSlice T 1 #[(0,v)]).run P w=.ok (Sx w.heap.size 1 1) {w with heap:=w.heap.push (.cells vs.toArray e)}
theorem jn {T e:Nat} {z v:Value} (hT:P.underlying T=some (.slice e)) (hs:∀w,(Go.sizeOf e).run P w=.ok 1 w) (hz:∀w,(zeroValue e).run P w=.ok z w) (hv:v.oneCell'=true):BS P T e v [v]:=by
 intro w;have hc:v.cells= #[v]:=by cases v<;>first|rfl|(simp[Value.oneCell'] at hv)
 have h1:Array.range 1= #[0]:=rfl;simp[Instr.buildSlice,underlying,hT,hs,hz,Instr.fill,hc,newRow,h1]
theorem kj {T e:Nat} {z a b c:Value} (hT:P.underlying T=some (.slice e)) (hs:∀w,(Go.sizeOf e).run P w=.ok 3 w) (hz:∀w,(zeroValue e).run P w=.ok z w):BS P T e (.agg #[a,b,c]) [a,b,c]:=by
 intro w;have h3:Array.range 3= #[0,1,2]:=rfl;simp[Instr.buildSlice,underlying,hT,hs,hz,Instr.fill,Value.cells,newRow,h3]
theorem je {T e d:Nat} {x:Operand} {v:Value} {vs:List Value} (hb:BS P T e v vs) (hx:ev fr x=some v) (hd:Nat.blt d n=true)
  (hk:∀b,c.w0.heap.size<=b->G P c n k ops rest ((d,Sx b 1 1)::fr) (Rx b vs e::H)):G P c n k ops (⟨some d,.buildSlice T 1 #[(0,x)],ty,pos,mG,none⟩::rest) fr H:=by
 refine jO (kb:=.row vs e (0,0)) (v:=fun b=>Sx b 1 1) (fun a w ha hw=>?_) hd hk;simp[execOp,ha.eval hx,hb w,oe.den]
end Bw
